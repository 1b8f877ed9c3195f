import Derived.Test.YbulkadzcRunA
import Derived.Test.YbulkadzcRunB
import Derived.Test.YbulkadzcRunC
import Derived.Test.YbulkadzcRunD
import Derived.Test.YbulkadzcRunE
import Derived.Test.YbulkadzcRunF
import Derived.Test.YbulkadzcRunG
import Derived.Test.YbulkadzcRunH
import Derived.Test.YbulkadzcRunI
namespace Go.Proofs.Ybulkadzc
open Go.RowKit

theorem live_of {S : HSt} {M : Mdl} {n : Nat} {per : Bool} (bk : Book S M n per) (q : Nat) (hN : ¬ M.hs.length = 0) :
    (∀ (k : Nat) (bl : Bool), k = q % M.hs.length → M.live[k]? = some bl → bl = false) ∨ (∀ (k : Nat) (bl : Bool), k = q % M.hs.length → M.live[k]? = some bl → bl = true) := by
  have hk : q % M.hs.length < M.live.length := by rw [bk.rl.l4]; exact Nat.mod_lt _ (by omega)
  have hg : M.live[q % M.hs.length]? = some (M.live[q % M.hs.length]'hk) := List.getElem?_eq_getElem hk
  cases hb : M.live[q % M.hs.length]'hk with
  | false => exact .inl (fun k bl e h => by subst e; rw [hg, hb] at h; injection h with h; exact h.symm)
  | true => exact .inr (fun k bl e h => by subst e; rw [hg, hb] at h; injection h with h; exact h.symm)

set_option maxHeartbeats 16000000 in
set_option maxRecDepth 1000000 in
theorem run_ok (per : Bool) (a : Option Addr) (b off cap : Nat) (zs : List Stp) (w : World) (ha : 0 < zs.length → a = some ⟨b, off, none⟩) (hc : StepsAt w b off zs)
    (hz : ∀ z ∈ zs, (0 ≤ z.o ∧ z.o ≤ 255) ∧ z.a ≤ 9223372036854775807 ∧ 0 ≤ z.k ∧ z.k ≤ 65535) (hl : zs.length ≤ 1024) :
    Calls Yba.prog 10 #[.slice a zs.length cap, .bool per] w fun r w' => ∃ hb mb S M, r = .returned (.tuple #[.pointer (some ⟨hb, 0, none⟩), .pointer (some ⟨mb, 0, none⟩), .bool true]) ∧ St w w' hb mb S M (fun _ => False) ∧ Book S M zs.length per := by
  obtain ⟨len, hlen⟩ : ∃ len, zs.length = len := ⟨_, rfl⟩
  have HL : Hid (zs.length = len) := hlen
  rw [hlen] at ha hl ⊢
  clear hlen
  have HZ : Hid (StepsAt w b off zs ∧ ∀ z ∈ zs, (0 ≤ z.o ∧ z.o ≤ 255) ∧ z.a ≤ 9223372036854775807 ∧ 0 ≤ z.k ∧ z.k ≤ 65535) := ⟨hc, hz⟩
  clear hc hz
  go_enter Yba.func10, Yba.ntmps10
  go_wp2_with fail
  refine (New_ok _).mono ?_
  rintro r W1 ⟨rfl, hp1, fr1⟩
  go_wp2_with fail
  have st0 := start_st hp1 fr1
  generalize w.heap.size = hb at st0 ⊢
  generalize W1.heap.size = mb at st0 ⊢
  refine wp_loop (WI w a len cap hb mb per) (Wmu len) ?_ ?_
  · unfold WI
    (repeat apply Exists.intro)
    exact ⟨⟨0, emptyH, emptyM, rfl, by omega, st0, empty_book per⟩, rfl⟩
  · intro a' wr hI
    clear st0
    unfold WI at hI
    obtain ⟨u4, hI⟩ := hI
    obtain ⟨u5, hI⟩ := hI
    obtain ⟨u6, hI⟩ := hI
    obtain ⟨u9, hI⟩ := hI
    obtain ⟨u10, hI⟩ := hI
    obtain ⟨u11, hI⟩ := hI
    obtain ⟨u12, hI⟩ := hI
    obtain ⟨u13, hI⟩ := hI
    obtain ⟨u14, hI⟩ := hI
    obtain ⟨u15, hI⟩ := hI
    obtain ⟨u16, hI⟩ := hI
    obtain ⟨u17, hI⟩ := hI
    obtain ⟨u18, hI⟩ := hI
    obtain ⟨u22, hI⟩ := hI
    obtain ⟨u23, hI⟩ := hI
    obtain ⟨u24, hI⟩ := hI
    obtain ⟨u25, hI⟩ := hI
    obtain ⟨u26, hI⟩ := hI
    obtain ⟨u27, hI⟩ := hI
    obtain ⟨u28, hI⟩ := hI
    obtain ⟨u29, hI⟩ := hI
    obtain ⟨u30, hI⟩ := hI
    obtain ⟨u31, hI⟩ := hI
    obtain ⟨u32, hI⟩ := hI
    obtain ⟨u33, hI⟩ := hI
    obtain ⟨u34, hI⟩ := hI
    obtain ⟨u35, hI⟩ := hI
    obtain ⟨u36, hI⟩ := hI
    obtain ⟨u37, hI⟩ := hI
    obtain ⟨u38, hI⟩ := hI
    obtain ⟨u39, hI⟩ := hI
    obtain ⟨u40, hI⟩ := hI
    obtain ⟨u41, hI⟩ := hI
    obtain ⟨u42, hI⟩ := hI
    obtain ⟨u43, hI⟩ := hI
    obtain ⟨u44, hI⟩ := hI
    obtain ⟨u45, hI⟩ := hI
    obtain ⟨u46, hI⟩ := hI
    obtain ⟨u47, hI⟩ := hI
    obtain ⟨u48, hI⟩ := hI
    obtain ⟨u49, hI⟩ := hI
    obtain ⟨u50, hI⟩ := hI
    obtain ⟨u51, hI⟩ := hI
    obtain ⟨u52, hI⟩ := hI
    obtain ⟨u53, hI⟩ := hI
    obtain ⟨u54, hI⟩ := hI
    obtain ⟨u55, hI⟩ := hI
    obtain ⟨u56, hI⟩ := hI
    obtain ⟨u57, hI⟩ := hI
    obtain ⟨u58, hI⟩ := hI
    obtain ⟨u59, hI⟩ := hI
    obtain ⟨u60, hI⟩ := hI
    obtain ⟨u61, hI⟩ := hI
    obtain ⟨u62, hI⟩ := hI
    obtain ⟨u63, hI⟩ := hI
    obtain ⟨u64, hI⟩ := hI
    obtain ⟨u65, hI⟩ := hI
    obtain ⟨u66, hI⟩ := hI
    obtain ⟨u67, hI⟩ := hI
    obtain ⟨u68, hI⟩ := hI
    obtain ⟨u69, hI⟩ := hI
    obtain ⟨u70, hI⟩ := hI
    obtain ⟨u71, hI⟩ := hI
    obtain ⟨u72, hI⟩ := hI
    obtain ⟨u73, hI⟩ := hI
    obtain ⟨u74, hI⟩ := hI
    obtain ⟨u75, hI⟩ := hI
    obtain ⟨u76, hI⟩ := hI
    obtain ⟨u77, hI⟩ := hI
    obtain ⟨u78, hI⟩ := hI
    obtain ⟨u79, hI⟩ := hI
    obtain ⟨u80, hI⟩ := hI
    obtain ⟨u81, hI⟩ := hI
    obtain ⟨u82, hI⟩ := hI
    obtain ⟨u83, hI⟩ := hI
    obtain ⟨u84, hI⟩ := hI
    obtain ⟨u85, hI⟩ := hI
    obtain ⟨u86, hI⟩ := hI
    obtain ⟨u87, hI⟩ := hI
    obtain ⟨u88, hI⟩ := hI
    obtain ⟨u89, hI⟩ := hI
    obtain ⟨u90, hI⟩ := hI
    obtain ⟨u91, hI⟩ := hI
    obtain ⟨u92, hI⟩ := hI
    obtain ⟨u93, hI⟩ := hI
    obtain ⟨u94, hI⟩ := hI
    obtain ⟨u95, hI⟩ := hI
    obtain ⟨u96, hI⟩ := hI
    obtain ⟨u97, hI⟩ := hI
    obtain ⟨u98, hI⟩ := hI
    obtain ⟨u99, hI⟩ := hI
    obtain ⟨u100, hI⟩ := hI
    obtain ⟨u101, hI⟩ := hI
    obtain ⟨u102, hI⟩ := hI
    obtain ⟨u103, hI⟩ := hI
    obtain ⟨u104, hI⟩ := hI
    obtain ⟨u105, hI⟩ := hI
    obtain ⟨u106, hI⟩ := hI
    obtain ⟨u107, hI⟩ := hI
    obtain ⟨u108, hI⟩ := hI
    obtain ⟨u109, hI⟩ := hI
    obtain ⟨u110, hI⟩ := hI
    obtain ⟨u111, hI⟩ := hI
    obtain ⟨u112, hI⟩ := hI
    obtain ⟨u113, hI⟩ := hI
    obtain ⟨u114, hI⟩ := hI
    obtain ⟨u115, hI⟩ := hI
    obtain ⟨u116, hI⟩ := hI
    obtain ⟨u117, hI⟩ := hI
    obtain ⟨u118, hI⟩ := hI
    obtain ⟨u119, hI⟩ := hI
    obtain ⟨u120, hI⟩ := hI
    obtain ⟨u121, hI⟩ := hI
    obtain ⟨u122, hI⟩ := hI
    obtain ⟨u123, hI⟩ := hI
    obtain ⟨u124, hI⟩ := hI
    obtain ⟨u125, hI⟩ := hI
    obtain ⟨u126, hI⟩ := hI
    obtain ⟨u127, hI⟩ := hI
    obtain ⟨u128, hI⟩ := hI
    obtain ⟨u129, hI⟩ := hI
    obtain ⟨u130, hI⟩ := hI
    obtain ⟨u131, hI⟩ := hI
    obtain ⟨u132, hI⟩ := hI
    obtain ⟨u133, hI⟩ := hI
    obtain ⟨u134, hI⟩ := hI
    obtain ⟨u135, hI⟩ := hI
    obtain ⟨u136, hI⟩ := hI
    obtain ⟨u137, hI⟩ := hI
    obtain ⟨u138, hI⟩ := hI
    obtain ⟨u139, hI⟩ := hI
    obtain ⟨u140, hI⟩ := hI
    obtain ⟨u141, hI⟩ := hI
    obtain ⟨u142, hI⟩ := hI
    obtain ⟨u143, hI⟩ := hI
    obtain ⟨u144, hI⟩ := hI
    obtain ⟨u145, hI⟩ := hI
    obtain ⟨u146, hI⟩ := hI
    obtain ⟨u147, hI⟩ := hI
    obtain ⟨u148, hI⟩ := hI
    obtain ⟨u149, hI⟩ := hI
    obtain ⟨u150, hI⟩ := hI
    obtain ⟨u151, hI⟩ := hI
    obtain ⟨u152, hI⟩ := hI
    obtain ⟨u153, hI⟩ := hI
    obtain ⟨u154, hI⟩ := hI
    obtain ⟨u155, hI⟩ := hI
    obtain ⟨u156, hI⟩ := hI
    obtain ⟨u157, hI⟩ := hI
    obtain ⟨u158, hI⟩ := hI
    obtain ⟨u159, hI⟩ := hI
    obtain ⟨u160, hI⟩ := hI
    obtain ⟨u161, hI⟩ := hI
    obtain ⟨u162, hI⟩ := hI
    obtain ⟨u163, hI⟩ := hI
    obtain ⟨u164, hI⟩ := hI
    obtain ⟨u165, hI⟩ := hI
    obtain ⟨u166, hI⟩ := hI
    obtain ⟨u167, hI⟩ := hI
    obtain ⟨u168, hI⟩ := hI
    obtain ⟨u169, hI⟩ := hI
    obtain ⟨u170, hI⟩ := hI
    obtain ⟨u171, hI⟩ := hI
    obtain ⟨u172, hI⟩ := hI
    obtain ⟨u173, hI⟩ := hI
    obtain ⟨u174, hI⟩ := hI
    obtain ⟨u175, hI⟩ := hI
    obtain ⟨u176, hI⟩ := hI
    obtain ⟨u177, hI⟩ := hI
    obtain ⟨u178, hI⟩ := hI
    obtain ⟨u179, hI⟩ := hI
    obtain ⟨u180, hI⟩ := hI
    obtain ⟨u181, hI⟩ := hI
    obtain ⟨u182, hI⟩ := hI
    obtain ⟨u183, hI⟩ := hI
    obtain ⟨u184, hI⟩ := hI
    obtain ⟨u185, hI⟩ := hI
    obtain ⟨u186, hI⟩ := hI
    obtain ⟨u187, hI⟩ := hI
    obtain ⟨u188, hI⟩ := hI
    obtain ⟨u189, hI⟩ := hI
    obtain ⟨u190, hI⟩ := hI
    obtain ⟨u191, hI⟩ := hI
    obtain ⟨u192, hI⟩ := hI
    obtain ⟨u193, hI⟩ := hI
    obtain ⟨u194, hI⟩ := hI
    obtain ⟨u195, hI⟩ := hI
    obtain ⟨u196, hI⟩ := hI
    obtain ⟨u197, hI⟩ := hI
    obtain ⟨u198, hI⟩ := hI
    obtain ⟨u199, hI⟩ := hI
    obtain ⟨u200, hI⟩ := hI
    obtain ⟨u201, hI⟩ := hI
    obtain ⟨hrel, ha'⟩ := hI
    subst ha'
    obtain ⟨i, S, M, rfl, hi, st, bk⟩ := hrel
    by_cases hlt : i < len
    · obtain ⟨z, hz⟩ : ∃ z, zs[i]? = some z := ⟨_, List.getElem?_eq_getElem (by rw [HL.out]; exact hlt)⟩
      obtain rfl := ha (by omega)
      obtain ⟨c0, c1, c2⟩ := HZ.out.1 i z hz
      obtain ⟨zo, za, zk⟩ := HZ.out.2 z (List.mem_iff_getElem?.2 ⟨i, hz⟩)
      have hbw := World.block_lt_of_cell? w _ c0
      simp only at hbw
      rw [← World.cell?_of_block (w := w) (w' := wr) (a := ⟨b, off + i * 3, none⟩) (st.old hbw)] at c0
      rw [← World.cell?_of_block (w := w) (w' := wr) (a := ⟨b, off + i * 3 + 1, none⟩) (st.old hbw)] at c1
      rw [← World.cell?_of_block (w := w) (w' := wr) (a := ⟨b, off + i * 3 + 2, none⟩) (st.old hbw)] at c2
      have R : Rnd w wr b off len cap hb mb i per S M z := ⟨hlt, hl, zo, za, zk, c0, c1, c2, st, bk⟩
      have hop : z.o % 4 = 0 ∨ z.o % 4 = 1 ∨ z.o % 4 = 2 ∨ z.o % 4 = 3 := by omega
      clear c0 c1 c2
      rcases hop with hop | hop | hop | hop
      · exact round_add R hop _ _ _ _ _ _ _ _ _ _ _ _ _ _ _ _ _ _ _ _ _ _ _ _ _ _ _ _ _ _ _ _ _ _ _ _ _ _ _ _ _ _ _ _ _ _ _ _ _ _ _ _ _ _ _ _ _ _ _ _ _ _ _ _ _ _ _ _ _ _ _ _ _ _ _ _ _ _ _ _ _ _ _ _ _ _ _ _ _ _ _ _ _ _ _ _ _ _ _ _ _ _ _ _ _ _ _ _ _ _ _ _ _ _ _ _ _ _ _ _ _ _ _ _ _ _ _ _ _ _ _ _ _ _ _ _ _ _ _ _ _ _ _ _ _ _ _ _ _ _ _ _ _ _ _ _ _ _ _ _ _ _ _ _ _ _ _ _ _ _ _ _ _ _ _ _ _ _ _ _ _ _ _ _ _ _ _ _ _ _ _ _ _ _
      · cases hper : per with
        | false => subst hper; exact round_one R hop rfl _ _ _ _ _ _ _ _ _ _ _ _ _ _ _ _ _ _ _ _ _ _ _ _ _ _ _ _ _ _ _ _ _ _ _ _ _ _ _ _ _ _ _ _ _ _ _ _ _ _ _ _ _ _ _ _ _ _ _ _ _ _ _ _ _ _ _ _ _ _ _ _ _ _ _ _ _ _ _ _ _ _ _ _ _ _ _ _ _ _ _ _ _ _ _ _ _ _ _ _ _ _ _ _ _ _ _ _ _ _ _ _ _ _ _ _ _ _ _ _ _ _ _ _ _ _ _ _ _ _ _ _ _ _ _ _ _ _ _ _ _ _ _ _ _ _ _ _ _ _ _ _ _ _ _ _ _ _ _ _ _ _ _ _ _ _ _ _ _ _ _ _ _ _ _ _ _ _ _ _ _ _ _ _ _ _ _ _ _ _ _ _ _ _
        | true => subst hper; exact round_per R hop rfl _ _ _ _ _ _ _ _ _ _ _ _ _ _ _ _ _ _ _ _ _ _ _ _ _ _ _ _ _ _ _ _ _ _ _ _ _ _ _ _ _ _ _ _ _ _ _ _ _ _ _ _ _ _ _ _ _ _ _ _ _ _ _ _ _ _ _ _ _ _ _ _ _ _ _ _ _ _ _ _ _ _ _ _ _ _ _ _ _ _ _ _ _ _ _ _ _ _ _ _ _ _ _ _ _ _ _ _ _ _ _ _ _ _ _ _ _ _ _ _ _ _ _ _ _ _ _ _ _ _ _ _ _ _ _ _ _ _ _ _ _ _ _ _ _ _ _ _ _ _ _ _ _ _ _ _ _ _ _ _ _ _ _ _ _ _ _ _ _ _ _ _ _ _ _ _ _ _ _ _ _ _ _ _ _ _ _ _ _ _ _ _ _ _
      · by_cases hN : M.hs.length = 0
        · exact round_reset_none R hop hN _ _ _ _ _ _ _ _ _ _ _ _ _ _ _ _ _ _ _ _ _ _ _ _ _ _ _ _ _ _ _ _ _ _ _ _ _ _ _ _ _ _ _ _ _ _ _ _ _ _ _ _ _ _ _ _ _ _ _ _ _ _ _ _ _ _ _ _ _ _ _ _ _ _ _ _ _ _ _ _ _ _ _ _ _ _ _ _ _ _ _ _ _ _ _ _ _ _ _ _ _ _ _ _ _ _ _ _ _ _ _ _ _ _ _ _ _ _ _ _ _ _ _ _ _ _ _ _ _ _ _ _ _ _ _ _ _ _ _ _ _ _ _ _ _ _ _ _ _ _ _ _ _ _ _ _ _ _ _ _ _ _ _ _ _ _ _ _ _ _ _ _ _ _ _ _ _ _ _ _ _ _ _ _ _ _ _ _ _ _ _ _ _ _
        · rcases live_of bk z.k.toNat hN with h | h
          · exact round_reset_dead R hop hN h _ _ _ _ _ _ _ _ _ _ _ _ _ _ _ _ _ _ _ _ _ _ _ _ _ _ _ _ _ _ _ _ _ _ _ _ _ _ _ _ _ _ _ _ _ _ _ _ _ _ _ _ _ _ _ _ _ _ _ _ _ _ _ _ _ _ _ _ _ _ _ _ _ _ _ _ _ _ _ _ _ _ _ _ _ _ _ _ _ _ _ _ _ _ _ _ _ _ _ _ _ _ _ _ _ _ _ _ _ _ _ _ _ _ _ _ _ _ _ _ _ _ _ _ _ _ _ _ _ _ _ _ _ _ _ _ _ _ _ _ _ _ _ _ _ _ _ _ _ _ _ _ _ _ _ _ _ _ _ _ _ _ _ _ _ _ _ _ _ _ _ _ _ _ _ _ _ _ _ _ _ _ _ _ _ _ _ _ _ _ _ _ _ _
          · exact round_reset_live R hop hN h _ _ _ _ _ _ _ _ _ _ _ _ _ _ _ _ _ _ _ _ _ _ _ _ _ _ _ _ _ _ _ _ _ _ _ _ _ _ _ _ _ _ _ _ _ _ _ _ _ _ _ _ _ _ _ _ _ _ _ _ _ _ _ _ _ _ _ _ _ _ _ _ _ _ _ _ _ _ _ _ _ _ _ _ _ _ _ _ _ _ _ _ _ _ _ _ _ _ _ _ _ _ _ _ _ _ _ _ _ _ _ _ _ _ _ _ _ _ _ _ _ _ _ _ _ _ _ _ _ _ _ _ _ _ _ _ _ _ _ _ _ _ _ _ _ _ _ _ _ _ _ _ _ _ _ _ _ _ _ _ _ _ _ _ _ _ _ _ _ _ _ _ _ _ _ _ _ _ _ _ _ _ _ _ _ _ _ _ _ _ _ _ _ _
      · by_cases hN : M.hs.length = 0
        · exact round_stop_none R hop hN _ _ _ _ _ _ _ _ _ _ _ _ _ _ _ _ _ _ _ _ _ _ _ _ _ _ _ _ _ _ _ _ _ _ _ _ _ _ _ _ _ _ _ _ _ _ _ _ _ _ _ _ _ _ _ _ _ _ _ _ _ _ _ _ _ _ _ _ _ _ _ _ _ _ _ _ _ _ _ _ _ _ _ _ _ _ _ _ _ _ _ _ _ _ _ _ _ _ _ _ _ _ _ _ _ _ _ _ _ _ _ _ _ _ _ _ _ _ _ _ _ _ _ _ _ _ _ _ _ _ _ _ _ _ _ _ _ _ _ _ _ _ _ _ _ _ _ _ _ _ _ _ _ _ _ _ _ _ _ _ _ _ _ _ _ _ _ _ _ _ _ _ _ _ _ _ _ _ _ _ _ _ _ _ _ _ _ _ _ _ _ _ _ _
        · rcases live_of bk z.k.toNat hN with h | h
          · exact round_stop_dead R hop hN h _ _ _ _ _ _ _ _ _ _ _ _ _ _ _ _ _ _ _ _ _ _ _ _ _ _ _ _ _ _ _ _ _ _ _ _ _ _ _ _ _ _ _ _ _ _ _ _ _ _ _ _ _ _ _ _ _ _ _ _ _ _ _ _ _ _ _ _ _ _ _ _ _ _ _ _ _ _ _ _ _ _ _ _ _ _ _ _ _ _ _ _ _ _ _ _ _ _ _ _ _ _ _ _ _ _ _ _ _ _ _ _ _ _ _ _ _ _ _ _ _ _ _ _ _ _ _ _ _ _ _ _ _ _ _ _ _ _ _ _ _ _ _ _ _ _ _ _ _ _ _ _ _ _ _ _ _ _ _ _ _ _ _ _ _ _ _ _ _ _ _ _ _ _ _ _ _ _ _ _ _ _ _ _ _ _ _ _ _ _ _ _ _ _
          · exact round_stop_live R hop hN h _ _ _ _ _ _ _ _ _ _ _ _ _ _ _ _ _ _ _ _ _ _ _ _ _ _ _ _ _ _ _ _ _ _ _ _ _ _ _ _ _ _ _ _ _ _ _ _ _ _ _ _ _ _ _ _ _ _ _ _ _ _ _ _ _ _ _ _ _ _ _ _ _ _ _ _ _ _ _ _ _ _ _ _ _ _ _ _ _ _ _ _ _ _ _ _ _ _ _ _ _ _ _ _ _ _ _ _ _ _ _ _ _ _ _ _ _ _ _ _ _ _ _ _ _ _ _ _ _ _ _ _ _ _ _ _ _ _ _ _ _ _ _ _ _ _ _ _ _ _ _ _ _ _ _ _ _ _ _ _ _ _ _ _ _ _ _ _ _ _ _ _ _ _ _ _ _ _ _ _ _ _ _ _ _ _ _ _ _ _ _ _ _ _
    · go_wp2_with fail
      go_ret3
      have : i = len := by omega
      subst this
      exact ⟨hb, mb, S, M, rfl, st, bk⟩
end Go.Proofs.Ybulkadzc
