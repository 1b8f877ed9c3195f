/-
  The Node of the law LawS1512CReply: forget, answered.
-/
import Derived.Test.YbulkaeheNewC
import Derived.Test.YbulkaeheForget
namespace Go.Proofs.Ybulkaehe
open Go.RowKit Go.MapKept

def err (x : Int) : Value := .agg #[.int .u64 x, .int .u64 0, .int .u8 1]
def fOf (P : Int → Bool) (x : Int) : Option Value := if P x then some (err x) else none
structure NodeAt (B0 : Nat) (w : World) (nb b : Nat) (inc : Int) (P : Int → Bool) (n : Nat) (rd : Value) : Prop where
  blk : ∃ c, w.heap[nb]? = some (.cells c 68 (0, 0)) ∧ c[1]? = some (.int .i64 inc) ∧ c[88]? = some (.slice none 0 0) ∧ c[90]? = some (.int .i64 (n : Int)) ∧ c[94]? = some rd ∧ c[86]? = some (.map (some b))
  map : MapAt key w b (fOf P) n
  hb : B0 ≤ b
  hn : B0 ≤ nb
  ne : b ≠ nb
theorem NodeAt.lt {B0 nb b n : Nat} {w : World} {inc : Int} {P : Int → Bool} {rd : Value} (h : NodeAt B0 w nb b inc P n rd) : nb < w.heap.size := by
  obtain ⟨c, hc, _⟩ := h.blk
  exact (Array.getElem?_eq_some_iff.1 hc).1
theorem NodeAt.cells {B0 nb b n : Nat} {w : World} {inc : Int} {P : Int → Bool} {rd : Value} (h : NodeAt B0 w nb b inc P n rd) :
    w.cell? ⟨nb, 1, none⟩ = some (.int .i64 inc) ∧ w.cell? ⟨nb, 88, none⟩ = some (.slice none 0 0) ∧ w.cell? ⟨nb, 90, none⟩ = some (.int .i64 (n : Int)) ∧ w.cell? ⟨nb, 94, none⟩ = some rd ∧ w.cell? ⟨nb, 86, none⟩ = some (.map (some b)) ∧ ∀ k, w.frozen? ⟨nb, k, none⟩ = false := by
  obtain ⟨c, hc, q1, q2, q3, q4, q5⟩ := h.blk
  exact ⟨cell_of hc q1, cell_of hc q2, cell_of hc q3, cell_of hc q4, cell_of hc q5, fun k => frozen_of hc⟩
theorem NodeAt.kept {B0 nb b n : Nat} {w w' : World} {inc : Int} {P : Int → Bool} {rd : Value} (h : NodeAt B0 w nb b inc P n rd) (e1 : w'.heap[nb]? = w.heap[nb]?) (e2 : w'.heap[b]? = w.heap[b]?) : NodeAt B0 w' nb b inc P n rd := by
  obtain ⟨c, hc, q⟩ := h.blk
  exact ⟨⟨c, e1.trans hc, q⟩, h.map.kept e2, h.hb, h.hn, h.ne⟩
theorem NodeAt.alloc {B0 nb b n : Nat} {w : World} {inc : Int} {P : Int → Bool} {rd : Value} (h : NodeAt B0 w nb b inc P n rd) (o : Obj) : NodeAt B0 (w.alloc o) nb b inc P n rd :=
  h.kept (Below.heap_alloc _ _ _ h.lt) (Below.heap_alloc _ _ _ h.map.lt)
/-- awaiting turned alone. -/
structure NodeUn (B0 : Nat) (w : World) (nb b : Nat) (inc : Int) (P : Int → Bool) (n m : Nat) (rd : Value) : Prop where
  blk : ∃ c, w.heap[nb]? = some (.cells c 68 (0, 0)) ∧ c[1]? = some (.int .i64 inc) ∧ c[88]? = some (.slice none 0 0) ∧ c[90]? = some (.int .i64 (m : Int)) ∧ c[94]? = some rd ∧ c[86]? = some (.map (some b))
  map : MapAt key w b (fOf P) n
  hb : B0 ≤ b
  hn : B0 ≤ nb
  ne : b ≠ nb
theorem NodeAt.set90 {B0 nb b n : Nat} {w : World} {inc : Int} {P : Int → Bool} {rd : Value} (h : NodeAt B0 w nb b inc P n rd) (m : Nat) : NodeUn B0 (w.setCell ⟨nb, 90, none⟩ (.int .i64 (m : Int))) nb b inc P n m rd := by
  obtain ⟨c, hc, q1, q2, q3, q4, q5⟩ := h.blk
  refine ⟨⟨_, heap_setCell_same w nb 90 c 68 _ hc, ?_, ?_, ?_, ?_, ?_⟩, h.map.kept (Below.heap_setCell _ _ _ _ h.ne), h.hb, h.hn, h.ne⟩
  · rw [Array.getElem?_setIfInBounds, if_neg (by decide)]; exact q1
  · rw [Array.getElem?_setIfInBounds, if_neg (by decide)]; exact q2
  · rw [Array.getElem?_setIfInBounds, if_pos rfl, if_pos (Array.getElem?_eq_some_iff.1 q3).1]
  · rw [Array.getElem?_setIfInBounds, if_neg (by decide)]; exact q4
  · rw [Array.getElem?_setIfInBounds, if_neg (by decide)]; exact q5
theorem NodeUn.cells {B0 nb b n m : Nat} {w : World} {inc : Int} {P : Int → Bool} {rd : Value} (h : NodeUn B0 w nb b inc P n m rd) : w.cell? ⟨nb, 86, none⟩ = some (.map (some b)) := by
  obtain ⟨c, hc, q1, q2, q3, q4, q5⟩ := h.blk
  exact cell_of hc q5
theorem fOf_drop (P : Int → Bool) (x : Int) : (fun y => if y = x then none else fOf P y) = fOf (fun y => !(y == x) && P y) := by
  funext y
  unfold fOf
  by_cases c : y = x
  · simp [c]
  · simp [c]
theorem fOf_add (P : Int → Bool) (x : Int) : (fun y => if y = x then some (err x) else fOf P y) = fOf (fun y => y == x || P y) := by
  funext y
  unfold fOf
  by_cases c : y = x
  · simp [c]
  · simp [c]
theorem zero77 (w : World) : (zeroValue 77).run Yba.prog w = .ok (.agg #[.int .u64 0, .int .u64 0, .int .u8 0]) w := by kernel_rfl
/-- What lies elsewhere has not turned. -/
def Else (nb b : Nat) (w w' : World) : Prop := ∀ i, i < w.heap.size → i ≠ nb → i ≠ b → w'.heap[i]? = w.heap[i]?

set_option maxHeartbeats 1000000 in
set_option maxRecDepth 100000 in
theorem forget_in (B0 nb b n : Nat) (inc : Int) (P : Int → Bool) (rd : Value) (x : Int) (w : World) (h : NodeAt B0 w nb b inc P (n + 1) rd) (hx : P x = true) (hn : n ≤ 100000) :
    Calls Yba.prog 24 #[.pointer (some ⟨nb, 0, none⟩), .int .u64 x] w fun e w' => e = .returned (.tuple #[]) ∧ NodeAt B0 w' nb b inc (fun y => !(y == x) && P y) n rd ∧ Below B0 w w' ∧ Else nb b w w' := by
  have hl := h.map.look (P := Yba.prog) (mty := 56) Yba.underlying56 Yba.underlying24 key_is key_inj (zero77 w) x
  unfold fOf at hl
  rw [if_pos hx] at hl
  unfold key err at hl
  obtain ⟨c1, c88, c90, c94, c86, fz⟩ := h.cells
  have hne := h.ne
  have hlt := h.lt
  have HB : Hid (B0 ≤ nb ∧ B0 ≤ b) := ⟨h.hn, h.hb⟩
  have hA := h.alloc (.cells #[.int .u64 x, .int .u64 0, .int .u8 1] 77)
  have cA : (w.alloc (.cells #[.int .u64 x, .int .u64 0, .int .u8 1] 77)).cell? ⟨w.heap.size, 2, none⟩ = some (.int .u8 1) := by rw [World.cell?, heap_alloc_new]; simp
  have BA : Below B0 w (w.alloc (.cells #[.int .u64 x, .int .u64 0, .int .u8 1] 77)) := (Below.refl _ w).alloc (Nat.le_trans h.hn (Nat.le_of_lt hlt)) _
  have EA : Else nb b w (w.alloc (.cells #[.int .u64 x, .int .u64 0, .int .u8 1] 77)) := fun i hi _ _ => Below.heap_alloc _ _ _ hi
  have nA : w.heap.size ≠ nb := by omega
  clear h
  go_enter Yba.func24, Yba.ntmps24
  go_upto_region 2 with (fail)
  clear c1 c88 c90 c94 c86 fz hl
  obtain ⟨c1, c88, c90, c94, c86, fz⟩ := hA.cells
  have f90 := fz 90
  have hA : Hid (NodeAt B0 (w.alloc (.cells #[.int .u64 x, .int .u64 0, .int .u8 1] 77)) nb b inc P (n + 1) rd) := hA
  have BA : Hid (Below B0 w (w.alloc (.cells #[.int .u64 x, .int .u64 0, .int .u8 1] 77)) ∧ Else nb b w (w.alloc (.cells #[.int .u64 x, .int .u64 0, .int .u8 1] 77)) ∧ w.heap.size ≤ (w.alloc (.cells #[.int .u64 x, .int .u64 0, .int .u8 1] 77)).heap.size) := ⟨BA, EA, BA.size⟩
  clear EA c1 c88 c94 c86 fz
  generalize w.alloc (.cells #[.int .u64 x, .int .u64 0, .int .u8 1] 77) = W1 at hA cA BA c90 f90 ⊢
  generalize w.heap.size = A at cA nA ⊢
  have ww : IntKind.i64.wrap (((n + 1 : Nat) : Int) - 1) = (n : Int) := by rw [IntKind.wrap_i64]; omega
  have ww2 : IntKind.i64.wrap ((n : Int) + 1 - 1) = (n : Int) := by rw [IntKind.wrap_i64]; omega
  have ww3 : IntKind.i64.wrap (n : Int) = (n : Int) := by rw [IntKind.wrap_i64]; omega
  go_region
  have U : NodeUn B0 (W1.setCell ⟨nb, 90, none⟩ (.int .i64 (n : Int))).drew nb b inc P (n + 1) n rd := by
    obtain ⟨u1, u2, u3, u4, u5⟩ := hA.out.set90 n
    exact ⟨u1, u2, u3, u4, u5⟩
  have BU : Hid (Below B0 w (W1.setCell ⟨nb, 90, none⟩ (.int .i64 (n : Int))).drew ∧ Else nb b w (W1.setCell ⟨nb, 90, none⟩ (.int .i64 (n : Int))).drew) := by
    refine ⟨(BA.out.1.setCell HB.out.1 _).drew, fun i h1 h2 h3 => ?_⟩
    show (W1.setCell _ _).heap[i]? = _
    rw [Below.heap_setCell _ _ _ _ h2]
    exact BA.out.2.1 i h1 h2 h3
  clear hA cA c90 f90 ww ww2 ww3 BA
  generalize (W1.setCell ⟨nb, 90, none⟩ (.int .i64 (n : Int))).drew = W2 at U BU ⊢
  have d86 := U.cells
  obtain ⟨W3, hrun, m1, m2, m3, m4⟩ := U.map.drop (P := Yba.prog) (mty := 56) Yba.underlying56 Yba.underlying24 key_is key_inj x 0
  have hfin : Hid (NodeAt B0 W3 nb b inc (fun y => !(y == x) && P y) n rd ∧ Below B0 w W3 ∧ Else nb b w W3) := by
    obtain ⟨c, hc, q⟩ := U.blk
    refine ⟨⟨⟨c, (m4 nb (Ne.symm hne)).trans hc, q⟩, ?_, U.hb, U.hn, hne⟩, BU.out.1.trans (m2.mono HB.out.2), fun i h1 h2 h3 => (m4 i h3).trans (BU.out.2 i h1 h2 h3)⟩
    rw [fOf_drop] at m1
    have e : (fOf P x).isSome = true := by unfold fOf; rw [if_pos hx]; rfl
    rw [if_pos e] at m1
    exact m1
  unfold key at hrun
  clear U BU m1 m2 m3 m4
  go_wp2_with fail
  go_end0
  exact ⟨rfl, hfin.out⟩

set_option maxHeartbeats 1000000 in
set_option maxRecDepth 100000 in
/-- answered, never refused, for one that waits. -/
theorem answered_in (B0 nb b n : Nat) (inc : Int) (P : Int → Bool) (rd : Value) (x : Int) (w : World) (h : NodeAt B0 w nb b inc P (n + 1) rd) (hx : P x = true) (hn : n ≤ 100000) :
    Calls Yba.prog 20 #[.pointer (some ⟨nb, 0, none⟩), .int .u64 x, .bool false] w fun e w' => e = .returned (.tuple #[]) ∧ NodeAt B0 w' nb b inc (fun y => !(y == x) && P y) n rd ∧ Below B0 w w' ∧ Else nb b w w' := by
  have hl := h.map.look (P := Yba.prog) (mty := 56) Yba.underlying56 Yba.underlying24 key_is key_inj (zero77 w) x
  unfold fOf at hl
  rw [if_pos hx] at hl
  unfold key err at hl
  obtain ⟨c1, c88, c90, c94, c86, fz⟩ := h.cells
  have hA := h.alloc (.cells #[.int .u64 x, .int .u64 0, .int .u8 1] 77)
  have BA : Below B0 w (w.alloc (.cells #[.int .u64 x, .int .u64 0, .int .u8 1] 77)) := (Below.refl _ w).alloc (Nat.le_trans h.hn (Nat.le_of_lt h.lt)) _
  have EA : Else nb b w (w.alloc (.cells #[.int .u64 x, .int .u64 0, .int .u8 1] 77)) := fun i hi _ _ => Below.heap_alloc _ _ _ hi
  have hF := forget_in B0 nb b n inc P rd x _ hA hx hn
  clear h hA c1 c88 c90 c94 fz
  go_enter Yba.func20, Yba.ntmps20
  go_wp2_with fail
  refine hF.mono ?_
  rintro _ W ⟨rfl, hN, hB, hE⟩
  clear hF hl c86
  go_wp2_with fail
  go_end0
  refine ⟨rfl, hN, BA.trans hB, fun i h1 h2 h3 => ?_⟩
  exact (hE i (Nat.lt_of_lt_of_le h1 BA.size) h2 h3).trans (EA i h1 h2 h3)
set_option maxHeartbeats 1000000 in
set_option maxRecDepth 100000 in
/-- answered for one that does not wait. -/
theorem answered_out (B0 nb b n : Nat) (inc : Int) (P : Int → Bool) (rd : Value) (x : Int) (w : World) (h : NodeAt B0 w nb b inc P n rd) (hx : P x = false) :
    Calls Yba.prog 20 #[.pointer (some ⟨nb, 0, none⟩), .int .u64 x, .bool false] w fun e w' => e = .returned (.tuple #[]) ∧ NodeAt B0 w' nb b inc P n rd ∧ Below B0 w w' ∧ Else nb b w w' := by
  have hl := h.map.look (P := Yba.prog) (mty := 56) Yba.underlying56 Yba.underlying24 key_is key_inj (zero77 w) x
  unfold fOf at hl
  rw [if_neg (by rw [hx]; decide)] at hl
  unfold key at hl
  obtain ⟨c1, c88, c90, c94, c86, fz⟩ := h.cells
  have hA := fun o => h.alloc o
  have BA : ∀ o, Below B0 w (w.alloc o) := fun o => (Below.refl _ w).alloc (Nat.le_trans h.hn (Nat.le_of_lt h.lt)) o
  have EA : ∀ o, Else nb b w (w.alloc o) := fun o i hi _ _ => Below.heap_alloc _ _ _ hi
  have HH : Hid (∀ o, NodeAt B0 (w.alloc o) nb b inc P n rd ∧ Below B0 w (w.alloc o) ∧ Else nb b w (w.alloc o)) := fun o => ⟨hA o, BA o, EA o⟩
  clear h hA BA EA c1 c88 c90 c94 fz
  go_enter Yba.func20, Yba.ntmps20
  go_wp2_with fail
  refine bodyPost_ret (results_none rfl _ _ _) rfl ?_
  exact ⟨rfl, HH.out _⟩
end Go.Proofs.Ybulkaehe
