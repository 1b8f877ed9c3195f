import Derived.Test.YbulkadzcState
namespace Go.Proofs.Ybulkadzc
open Go.RowKit

/-- A step of the law's script. -/
structure Stp where
  o : Int
  a : Int
  k : Int

def StepsAt (w : World) (b off : Nat) (zs : List Stp) : Prop :=
  ∀ (i : Nat) (z : Stp), zs[i]? = some z → w.cell? ⟨b, off + i * 3, none⟩ = some (.int .u8 z.o) ∧ w.cell? ⟨b, off + i * 3 + 1, none⟩ = some (.int .i64 z.a) ∧ w.cell? ⟨b, off + i * 3 + 2, none⟩ = some (.int .u16 z.k)

def SBox (w : World) (B : Nat) (z : Stp) : Prop := w.heap[B]? = some (.cells #[.int .u8 z.o, .int .i64 z.a, .int .u16 z.k] 59 (0, 0))
theorem SBox.cells {w : World} {B : Nat} {z : Stp} (h : SBox w B z) : w.cell? ⟨B, 0, none⟩ = some (.int .u8 z.o) ∧ w.cell? ⟨B, 1, none⟩ = some (.int .i64 z.a) ∧ w.cell? ⟨B, 2, none⟩ = some (.int .u16 z.k) := by
  unfold SBox at h; simp [World.cell?, h]
theorem SBox.kept {w w' : World} {B : Nat} {z : Stp} (h : SBox w B z) (e : w'.heap[B]? = w.heap[B]?) : SBox w' B z := by unfold SBox at *; rw [e]; exact h

theorem SBox.lt {w : World} {B : Nat} {z : Stp} (h : SBox w B z) : B < w.heap.size := lt_of_block h
theorem Book.lens {S : HSt} {M : Mdl} {n : Nat} {per : Bool} (bk : Book S M n per) (hn : n ≤ 2000) : (∀ j, j < 5 → M.len j < 100000) ∧ (0 ≤ M.armed ∧ M.armed ≤ 1000000) := by
  have h1 := bk.rl.l1; have h2 := bk.rl.l2; have h3 := bk.rl.l3; have h4 := bk.rl.l4; have h5 := bk.len
  refine ⟨?_, by rw [bk.rl.ar]; exact ⟨bk.bnd.a0, by have := bk.bnd.a; omega⟩⟩
  intro j hj
  have : j = 0 ∨ j = 1 ∨ j = 2 ∨ j = 3 ∨ j = 4 := by omega
  rcases this with rfl | rfl | rfl | rfl | rfl <;> simp only [Mdl.len] <;> omega

section
variable {w : World} {F : Nat → Prop} {mb : Nat} {M : Mdl} {v : Nat → Value}
theorem MPv.hsAt (H : MPv w F mb M v) {k : Nat} {h : Hd} (hk : M.hs[k]? = some h) : ∃ g cap, w.cell? ⟨mb, 0, none⟩ = some (.slice (some ⟨g, 0, none⟩) M.hs.length cap) ∧ w.cell? ⟨g, k * 2, none⟩ = some (.int .u32 h.s) ∧ w.cell? ⟨g, k * 2 + 1, none⟩ = some (.int .u32 h.g) := by
  have hl := (List.getElem?_eq_some_iff.1 hk).1
  obtain ⟨g, cap, hv, _⟩ := H.form 0 (by omega) (by show 0 < M.hs.length; omega)
  obtain ⟨a0, a1⟩ := hflat_get M.hs k h hk
  exact ⟨g, cap, H.cells.1.trans (by rw [hv]; rfl), H.at (by omega) hv (k := k * 2) a0, H.at (by omega) hv (k := k * 2 + 1) a1⟩
theorem MPv.dlAt (H : MPv w F mb M v) {k : Nat} {d : Int} (hk : M.dl[k]? = some d) : ∃ g cap, v 1 = .slice (some ⟨g, 0, none⟩) M.dl.length cap ∧ w.cell? ⟨mb, 1, none⟩ = some (.slice (some ⟨g, 0, none⟩) M.dl.length cap) ∧ w.cell? ⟨g, k, none⟩ = some (.int .i64 d) ∧ w.frozen? ⟨g, k, none⟩ = false ∧ F g ∧ g ≠ mb := by
  have hl := (List.getElem?_eq_some_iff.1 hk).1
  obtain ⟨g, cap, hv, _, _, h3, h4⟩ := H.form 1 (by omega) (by show 0 < M.dl.length; omega)
  exact ⟨g, cap, hv, H.cells.2.1.trans (by rw [hv]; rfl), H.at (by omega) hv (k := k) (by simp [Mdl.row, hk]), H.cold (by omega) hv k, h3, h4⟩
theorem MPv.sqAt (H : MPv w F mb M v) {k : Nat} {d : Int} (hk : M.sq[k]? = some d) : ∃ g cap, v 2 = .slice (some ⟨g, 0, none⟩) M.sq.length cap ∧ w.cell? ⟨mb, 2, none⟩ = some (.slice (some ⟨g, 0, none⟩) M.sq.length cap) ∧ w.cell? ⟨g, k, none⟩ = some (.int .u64 d) ∧ w.frozen? ⟨g, k, none⟩ = false ∧ F g ∧ g ≠ mb := by
  have hl := (List.getElem?_eq_some_iff.1 hk).1
  obtain ⟨g, cap, hv, _, _, h3, h4⟩ := H.form 2 (by omega) (by show 0 < M.sq.length; omega)
  exact ⟨g, cap, hv, H.cells.2.2.1.trans (by rw [hv]; rfl), H.at (by omega) hv (k := k) (by simp [Mdl.row, hk]), H.cold (by omega) hv k, h3, h4⟩
theorem MPv.valAt (H : MPv w F mb M v) {k : Nat} {d : Int} (hk : M.vals[k]? = some d) : ∃ g cap, w.cell? ⟨mb, 3, none⟩ = some (.slice (some ⟨g, 0, none⟩) M.vals.length cap) ∧ w.cell? ⟨g, k, none⟩ = some (.int .i64 d) := by
  have hl := (List.getElem?_eq_some_iff.1 hk).1
  obtain ⟨g, cap, hv, _, _, h3, h4⟩ := H.form 3 (by omega) (by show 0 < M.vals.length; omega)
  exact ⟨g, cap, H.cells.2.2.2.1.trans (by rw [hv]; rfl), H.at (by omega) hv (k := k) (by simp [Mdl.row, hk])⟩
theorem MPv.liveAt (H : MPv w F mb M v) {k : Nat} {b : Bool} (hk : M.live[k]? = some b) : ∃ g cap, v 4 = .slice (some ⟨g, 0, none⟩) M.live.length cap ∧ w.cell? ⟨mb, 4, none⟩ = some (.slice (some ⟨g, 0, none⟩) M.live.length cap) ∧ w.cell? ⟨g, k, none⟩ = some (.bool b) ∧ w.frozen? ⟨g, k, none⟩ = false ∧ F g ∧ g ≠ mb := by
  have hl := (List.getElem?_eq_some_iff.1 hk).1
  obtain ⟨g, cap, hv, _, _, h3, h4⟩ := H.form 4 (by omega) (by show 0 < M.live.length; omega)
  exact ⟨g, cap, hv, H.cells.2.2.2.2.1.trans (by rw [hv]; rfl), H.at (by omega) hv (k := k) (by simp [Mdl.row, hk]), H.cold (by omega) hv k, h3, h4⟩
theorem MPv.hsLen (H : MPv w F mb M v) : ∃ a cap, w.cell? ⟨mb, 0, none⟩ = some (.slice a M.hs.length cap) := by
  obtain ⟨a, cap, hv⟩ := H.shape 0 (by omega)
  exact ⟨a, cap, H.cells.1.trans (by rw [hv]; rfl)⟩
end

theorem St.model' {w wr : World} {hb mb : Nat} {S : HSt} {M : Mdl} {N : Nat → Prop} (h : St w wr hb mb S M N) : ∃ FM, MP wr FM mb M ∧ (∀ b, N b → ¬ FM b) ∧ ∀ (w' : World) (M' : Mdl) (F' : Nat → Prop), MP w' F' mb M' → Fr wr w' FM F' → St w w' hb mb S M' N ∧ ∀ b, N b → w'.heap[b]? = wr.heap[b]? := by
  obtain ⟨F, FM, h1, h2, h3, h4, h5⟩ := h
  refine ⟨FM, h2, fun b hb => (h4 b hb).2.2, fun w' M' F' hp fr => ⟨⟨F, F', h1.frG fr h3, hp, ?_, ?_, ?_⟩, fun b hb => fr.block b (h4 b hb).1 (h4 b hb).2.2⟩⟩
  · obtain ⟨_, _, _, H⟩ := h1
    intro k hk hm
    exact h3 k hk (fr.foot k (H.Flt k hk) hm)
  · intro b hb'
    exact ⟨Nat.lt_of_lt_of_le (h4 b hb').1 fr.size, (h4 b hb').2.1, fun f => (h4 b hb').2.2 (fr.foot b (h4 b hb').1 f)⟩
  · refine h5.trans ⟨fr.os, fr.tape, fr.output, fr.size, fun k hk hn => fr.block k hk (fun f => hn (.inr f)), fun k hk hh => ?_⟩
    rcases hh with hh | hh
    · exact .inl hh
    · exact .inr (fr.foot k hk hh)

/-- The model's two stores of a reset. -/
theorem MPv.setDl {w : World} {F : Nat → Prop} {mb g n cap : Nat} {M : Mdl} {v : Nat → Value} (H : MPv w F mb M v) (hv : v 1 = .slice (some ⟨g, 0, none⟩) n cap) (hn : n = M.dl.length) (k : Nat) (d : Int) : MPv (w.setCell ⟨g, k, none⟩ (.int .i64 d)) F mb { M with dl := M.dl.set k d } v :=
  H.stored (j := 1) (by omega) hv hn { M with dl := M.dl.set k d } k (.int .i64 d) (fun i hi hne => by
    have : i = 0 ∨ i = 2 ∨ i = 3 ∨ i = 4 := by omega
    rcases this with rfl | rfl | rfl | rfl <;> exact ⟨rfl, rfl⟩) ⟨by simp [Mdl.len], by simp only [Mdl.row]; rw [List.map_set]⟩ rfl
theorem MPv.setSq {w : World} {F : Nat → Prop} {mb g n cap : Nat} {M : Mdl} {v : Nat → Value} (H : MPv w F mb M v) (hv : v 2 = .slice (some ⟨g, 0, none⟩) n cap) (hn : n = M.sq.length) (k : Nat) (d : Int) : MPv (w.setCell ⟨g, k, none⟩ (.int .u64 d)) F mb { M with sq := M.sq.set k d } v :=
  H.stored (j := 2) (by omega) hv hn { M with sq := M.sq.set k d } k (.int .u64 d) (fun i hi hne => by
    have : i = 0 ∨ i = 1 ∨ i = 3 ∨ i = 4 := by omega
    rcases this with rfl | rfl | rfl | rfl <;> exact ⟨rfl, rfl⟩) ⟨by simp [Mdl.len], by simp only [Mdl.row]; rw [List.map_set]⟩ rfl
theorem MPv.setLive {w : World} {F : Nat → Prop} {mb g n cap : Nat} {M : Mdl} {v : Nat → Value} (H : MPv w F mb M v) (hv : v 4 = .slice (some ⟨g, 0, none⟩) n cap) (hn : n = M.live.length) (k : Nat) (d : Bool) : MPv (w.setCell ⟨g, k, none⟩ (.bool d)) F mb { M with live := M.live.set k d } v :=
  H.stored (j := 4) (by omega) hv hn { M with live := M.live.set k d } k (.bool d) (fun i hi hne => by
    have : i = 0 ∨ i = 1 ∨ i = 2 ∨ i = 3 := by omega
    rcases this with rfl | rfl | rfl | rfl <;> exact ⟨rfl, rfl⟩) ⟨by simp [Mdl.len], by simp only [Mdl.row]; rw [List.map_set]⟩ rfl
theorem SBox.setO {w : World} {B : Nat} {z : Stp} (h : SBox w B z) {a : Addr} (ha : B ≠ a.block) (u : Value) : SBox (w.setCell a u) B z := h.kept (Below.heap_setCell _ _ _ _ ha)

theorem empty_mp (w : World) : MPv (w.alloc (.cells #[.slice none 0 0, .slice none 0 0, .slice none 0 0, .slice none 0 0, .slice none 0 0, .int .u64 0] 53)) (fun k => k = w.heap.size) w.heap.size emptyM (fun _ => .slice none 0 0) := by
  refine ⟨heap_new_at _ _ _ rfl, ?_, rfl, ?_, ?_, ?_⟩
  · intro j hj
    have h0 : emptyM.len j = 0 ∧ emptyM.row j = [] := by
      have : j = 0 ∨ j = 1 ∨ j = 2 ∨ j = 3 ∨ j = 4 := by omega
      rcases this with rfl | rfl | rfl | rfl | rfl <;> exact ⟨rfl, rfl⟩
    rw [h0.1, h0.2]
    exact World.ownsRow_nil _ _ _ _
  · intro j k hj hk; simp [Value.ownBlock] at hk
  · intro i j k hi hj hne hk; simp [Value.ownBlock] at hk
  · intro k hk; subst hk; simp

theorem start_st {w W1 : World} (hp : HP W1 (fun k => k = w.heap.size) w.heap.size emptyH) (fr : Fr w W1 (fun _ => False) (fun k => k = w.heap.size)) :
    St w (W1.alloc (.cells #[.slice none 0 0, .slice none 0 0, .slice none 0 0, .slice none 0 0, .slice none 0 0, .int .u64 0] 53)) w.heap.size W1.heap.size emptyH emptyM (fun _ => False) := by
  have hlt : w.heap.size < W1.heap.size := by obtain ⟨_, _, _, H⟩ := hp; exact H.lt
  refine ⟨fun k => k = w.heap.size, fun k => k = W1.heap.size, hp.ext ((Ext.refl W1).alloc _), ⟨_, empty_mp W1⟩, ?_, ?_, ?_⟩
  · intro k h1 h2; omega
  · intro b hb; exact hb.elim
  · have f := fr.alloc (.cells #[.slice none 0 0, .slice none 0 0, .slice none 0 0, .slice none 0 0, .slice none 0 0, .int .u64 0] 53)
    refine ⟨f.os, f.tape, f.output, f.size, f.block, ?_⟩
    intro k hk h
    rcases h with h | h <;> omega


/-- The body of a function's first loop. -/
def firstLoop : Code → Option Code
  | .loop c => some c
  | .seq a b => match firstLoop a with
    | some c => some c
    | none => firstLoop b
  | .block _ c => firstLoop c
  | .scope c => firstLoop c
  | .cond _ a b => match firstLoop a with
    | some c => some c
    | none => firstLoop b
  | _ => none

/-- The state at the head of each round of run's loop. -/
def WRel (w : World) (len hb mb : Nat) (per : Bool) (iv : Value) (w' : World) : Prop :=
  ∃ (i : Nat) (S : HSt) (M : Mdl), iv = .int .i64 i ∧ i ≤ len ∧ St w w' hb mb S M (fun _ => False) ∧ Book S M i per
set_option maxRecDepth 1000000 in
def WI (w : World) (a : Option Addr) (len cap hb mb : Nat) (per : Bool) (a' : Act) (w' : World) : Prop :=
  ∃ u4 u5 u6 u9 u10 u11 u12 u13 u14 u15 u16 u17 u18 u22 u23 u24 u25 u26 u27 u28 u29 u30 u31 u32 u33 u34 u35 u36 u37 u38 u39 u40 u41 u42 u43 u44 u45 u46 u47 u48 u49 u50 u51 u52 u53 u54 u55 u56 u57 u58 u59 u60 u61 u62 u63 u64 u65 u66 u67 u68 u69 u70 u71 u72 u73 u74 u75 u76 u77 u78 u79 u80 u81 u82 u83 u84 u85 u86 u87 u88 u89 u90 u91 u92 u93 u94 u95 u96 u97 u98 u99 u100 u101 u102 u103 u104 u105 u106 u107 u108 u109 u110 u111 u112 u113 u114 u115 u116 u117 u118 u119 u120 u121 u122 u123 u124 u125 u126 u127 u128 u129 u130 u131 u132 u133 u134 u135 u136 u137 u138 u139 u140 u141 u142 u143 u144 u145 u146 u147 u148 u149 u150 u151 u152 u153 u154 u155 u156 u157 u158 u159 u160 u161 u162 u163 u164 u165 u166 u167 u168 u169 u170 u171 u172 u173 u174 u175 u176 u177 u178 u179 u180 u181 u182 u183 u184 u185 u186 u187 u188 u189 u190 u191 u192 u193 u194 u195 u196 u197 u198 u199 u200 u201 : Value, WRel w len hb mb per u9 w' ∧ a' = ⟨#[.slice a len cap, .bool per, undef, undef, u4, u5, u6, .pointer (some ⟨hb, 0, none⟩), .pointer (some ⟨mb, 0, none⟩), u9, u10, u11, u12, u13, u14, u15, u16, u17, u18, .pointer (some ⟨hb, 0, none⟩), .agg #[.slice none 0 0, .slice none 0 0, .slice none 0 0, .slice none 0 0, .slice none 0 0, .int .u64 0], .pointer (some ⟨mb, 0, none⟩), u22, u23, u24, u25, u26, u27, u28, u29, u30, u31, u32, u33, u34, u35, u36, u37, u38, u39, u40, u41, u42, u43, u44, u45, u46, u47, u48, u49, u50, u51, u52, u53, u54, u55, u56, u57, u58, u59, u60, u61, u62, u63, u64, u65, u66, u67, u68, u69, u70, u71, u72, u73, u74, u75, u76, u77, u78, u79, u80, u81, u82, u83, u84, u85, u86, u87, u88, u89, u90, u91, u92, u93, u94, u95, u96, u97, u98, u99, u100, u101, u102, u103, u104, u105, u106, u107, u108, u109, u110, u111, u112, u113, u114, u115, u116, u117, u118, u119, u120, u121, u122, u123, u124, u125, u126, u127, u128, u129, u130, u131, u132, u133, u134, u135, u136, u137, u138, u139, u140, u141, u142, u143, u144, u145, u146, u147, u148, u149, u150, u151, u152, u153, u154, u155, u156, u157, u158, u159, u160, u161, u162, u163, u164, u165, u166, u167, u168, u169, u170, u171, u172, u173, u174, u175, u176, u177, u178, u179, u180, u181, u182, u183, u184, u185, u186, u187, u188, u189, u190, u191, u192, u193, u194, u195, u196, u197, u198, u199, u200, u201, undef, undef], []⟩
def Wmu (len : Nat) (a' : Act) (_w' : World) : Nat := len - (intOf (a'.tmps.getD 9 undef)).toNat

/-- A step's box, and all that a round knows. -/
structure Rnd (w wr : World) (b off len cap hb mb i : Nat) (per : Bool) (S : HSt) (M : Mdl) (z : Stp) : Prop where
  lt : i < len
  le : len ≤ 1024
  zo : 0 ≤ z.o ∧ z.o ≤ 255
  za : z.a ≤ 9223372036854775807
  zk : 0 ≤ z.k ∧ z.k ≤ 65535
  c0 : wr.cell? ⟨b, off + i * 3, none⟩ = some (.int .u8 z.o)
  c1 : wr.cell? ⟨b, off + i * 3 + 1, none⟩ = some (.int .i64 z.a)
  c2 : wr.cell? ⟨b, off + i * 3 + 2, none⟩ = some (.int .u16 z.k)
  st : St w wr hb mb S M (fun _ => False)
  bk : Book S M i per
end Go.Proofs.Ybulkadzc
