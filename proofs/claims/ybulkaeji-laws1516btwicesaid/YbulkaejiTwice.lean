import Derived.Test.YbulkaejiCopy
import Derived.Deep.DeepCutAuto
import Derived.Laws.IdiomStrings
namespace Go.Proofs.Ybulkaeji
open Go.RowKit

def bl (zs : List Int) (len : Nat) : List UInt8 := (zs.take len).map (fun n => UInt8.ofNat n.toNat)
def bv (b : UInt8) : Value := .int .u8 (b.toNat : Int)
theorem bcells_bl {zs : List Int} (len : Nat) (h : ∀ n ∈ zs, (Lit.int .u8 n).wf = true) : bcells zs len = (bl zs len).map bv := by
  simp only [bcells, bl, List.map_map]
  refine List.map_congr_left fun n hn => ?_
  have hw := h n (List.mem_of_mem_take hn)
  simp [Lit.wf, IntKind.min, IntKind.max, IntKind.signed, IntKind.bits] at hw
  simp [bv]
  omega
def ql (s : ByteArray) : List UInt8 := 34 :: (s.data.toList ++ [34])
theorem quoted_ql (s : ByteArray) : quoted s = (ql s).map bv := by
  simp [quoted, ql, Lib.strCells, bv, q34]

theorem bytes_wf {w : World} {a : Option Addr} {len cap : Nat} {zs : List Int} (h : Bytes w a len cap zs) : ∀ n ∈ zs, (Lit.int .u8 n).wf = true := by
  rcases h with ⟨_, _, _, rfl⟩ | ⟨_, _, _, _, _, _, h5⟩
  · intro n hn; cases hn
  · exact h5
theorem bl_length {w : World} {a : Option Addr} {len cap : Nat} {zs : List Int} (h : Bytes w a len cap zs) : (bl zs len).length = len := by
  rcases h with ⟨_, rfl, _, _⟩ | ⟨x, _, h1, _, h2, _⟩
  · simp [bl]
  · simp [bl]; omega

theorem conv_row (w : World) (g cap : Nat) (l : List UInt8) (n : Nat) (hn : n = l.length) (hc : ∀ j u, (l.map bv)[j]? = some u → w.cell? ⟨g, j, none⟩ = some u) :
    (convert 22 9 (.slice (some ⟨g, 0, none⟩) n cap)).run Yba.prog w = .ok (.string ⟨l.toArray⟩) w := by
  subst hn
  refine run_convert_bytes_back w 22 9 5 _ cap l Yba.underlying22 Yba.underlying5 Yba.underlying9 fun j hj => ?_
  rw [Addr.add_lit, Nat.zero_add]
  refine hc j _ ?_
  rw [List.getElem?_map, List.getElem?_eq_getElem hj]
  rfl
theorem conv_arg {w : World} (w' : World) {a : Option Addr} {len cap : Nat} {zs : List Int} (h : Bytes w a len cap zs) (bel : Below w.heap.size w w') :
    (convert 22 9 (.slice a len cap)).run Yba.prog w' = .ok (.string ⟨(bl zs len).toArray⟩) w' := by
  have hl := bl_length h
  have hb := bcells_bl len (bytes_wf h)
  rcases h with ⟨rfl, rfl, rfl, rfl⟩ | ⟨x, rfl, h1, h2, h3, h4, h5⟩
  · rw [run_convert_bytes_string w' 22 9 5 none 0 0 Yba.underlying22 Yba.underlying5 Yba.underlying9]; rfl
  · have := run_convert_bytes_back w' 22 9 5 x cap (bl zs len) Yba.underlying22 Yba.underlying5 Yba.underlying9 (fun j hj => by
      rw [bel.cell (World.block_lt_of_cell? _ _ (h4 j (by omega))), h4 j (by omega)]
      have e1 := row_b (zs := zs) (len := len) [] (by omega) (j := j) (by omega)
      rw [List.append_nil, hb, List.getElem?_map, List.getElem?_eq_getElem hj] at e1
      simp only [Option.map_some, bv, Option.some.injEq] at e1
      rw [← e1])
    rw [hl] at this
    exact this

set_option maxHeartbeats 2000000 in
theorem twice_walk (a0 : Option Addr) (len0 cap0 : Nat) (z0 : List Int) (a1 a2 : ByteArray) (w : World) (w0 : Bytes w a0 len0 cap0 z0) (w1 : a1.size ≤ maxLen) (w2 : a2.size ≤ maxLen) (wl : len0 ≤ maxLen) :
    Calls Yba.prog 4 #[.slice a0 len0 cap0, .string a1, .string a2] w fun e w' => e = .returned (.bool true) ∧ Below w.heap.size w w' := by
  unfold maxLen at w1 w2 wl
  by_cases g0 : 1024 < len0
  · go_enter Yba.func4, Yba.ntmps4
    go_wp2_with fail
    go_ret
    exact ⟨rfl, Below.refl _ _⟩
  by_cases g1 : 1024 < a1.size
  · go_enter Yba.func4, Yba.ntmps4
    go_wp2_with fail
    go_ret
    exact ⟨rfl, Below.refl _ _⟩
  by_cases g2 : 1024 < a2.size
  · go_enter Yba.func4, Yba.ntmps4
    go_wp2_with fail
    go_ret
    exact ⟨rfl, Below.refl _ _⟩
  have HB : Hid (Bytes w a0 len0 cap0 z0) := w0
  clear w0
  go_enter Yba.func4, Yba.ntmps4
  go_wp2_with (at_builtin; refine wpList_copy rfl _ _ rfl rfl a0 len0 cap0 z0 rfl HB.out (by omega) ?_)
  intro v1 W1 own1 bel1
  go_wp2_with fail
  refine (app_ok _ v1 len0 _ a1 _ own1 (by omega) (by omega) bel1.size).mono ?_
  rintro r W2 ⟨g, cap, rfl, own2, bel2⟩
  have bel : Below w.heap.size w W2 := bel1.trans bel2
  clear own1 bel1 bel2
  go_wp2_with fail
  refine (app_ok _ _ (len0 + (a1.size + 2)) _ a2 _ own2 (by omega) (by omega) bel.size).mono ?_
  rintro r W3 ⟨g3, cap3, rfl, own3, bel3⟩
  have belW : Below w.heap.size w W3 := bel.trans bel3
  clear own2 bel bel3
  have cv1 := conv_arg W3 HB.out belW
  have hl0 := bl_length HB.out
  have el : bcells z0 len0 ++ quoted a1 ++ quoted a2 = (bl z0 len0 ++ ql a1 ++ ql a2).map bv := by
    rw [bcells_bl len0 (bytes_wf HB.out), quoted_ql, quoted_ql]; simp
  have cv2 := conv_row W3 g3 cap3 (bl z0 len0 ++ ql a1 ++ ql a2) (len0 + (a1.size + 2) + (a2.size + 2)) (by simp [ql, hl0]; omega) (fun j u hu => by
    rw [← el] at hu
    have := own3.cells (g := g3) rfl j u hu
    rwa [Addr.add_lit, Nat.zero_add] at this)
  clear own3 el
  obtain ⟨B0, hB0⟩ : ∃ B : ByteArray, B = ⟨(bl z0 len0).toArray⟩ := ⟨_, rfl⟩
  obtain ⟨B1, hB1⟩ : ∃ B : ByteArray, B = ⟨(bl z0 len0 ++ ql a1 ++ ql a2).toArray⟩ := ⟨_, rfl⟩
  have hs0 : B0.size = len0 := by rw [hB0]; simp [ByteArray.size, hl0]
  rw [← hB0] at cv1
  rw [← hB1] at cv2
  have HE : Hid (_ ∧ _) := ⟨hB0, hB1⟩
  clear hB0 hB1
  go_wp2_with fail
  have heq : B0 ++ ⟨#[34]⟩ ++ a1 ++ ⟨#[34, 34]⟩ ++ a2 ++ ⟨#[34]⟩ = B1 := by
    rw [HE.out.1, HE.out.2]
    apply ByteArray.ext
    apply Array.ext'
    simp [ql, ByteArray.data_append]
  rw [heq, beq_self_eq_true]
  go_ret
  exact ⟨rfl, belW⟩
end Go.Proofs.Ybulkaeji
