/-
  THE LAW's FIRST LOOP: the map and the row of outgoings: the relation.
-/
import Derived.Test.YbulkaefaFmtMap
import Derived.Deep.DeepCutAuto
import Derived.BigQuiet
import Derived.Conc.EventLaws
namespace Go.Proofs.YbulkaefaFmt
open Go.RowKit Go.MapKept

def ptr (g : Nat) : Value := .pointer (some ⟨g, 0, none⟩)
/-- The last outgoing that was held for x. -/
def lastOf : List (ByteArray × Nat) → ByteArray → Option Nat
  | [], _ => none
  | (p, g) :: l, x => match lastOf l x with
    | some h => some h
    | none => if x = p then some g else none
theorem lastOf_push (l : List (ByteArray × Nat)) (p : ByteArray) (g : Nat) (x : ByteArray) : lastOf (l ++ [(p, g)]) x = if x = p then some g else lastOf l x := by
  induction l with
  | nil => simp [lastOf]
  | cons a l ih =>
    obtain ⟨q, h⟩ := a
    simp only [List.cons_append, lastOf, ih]
    by_cases c : x = p
    · simp [c]
    · simp [c]
def held (l : List (ByteArray × Nat)) (x : ByteArray) : Option Value := (lastOf l x).map ptr
theorem held_push (l : List (ByteArray × Nat)) (p : ByteArray) (g : Nat) : held (l ++ [(p, g)]) = fun x => if x = p then some (ptr g) else held l x := by
  funext x
  simp only [held, lastOf_push]
  split <;> rfl

/-- Behind k rounds: the map at B, the row at R. -/
structure Mid (w wr : World) (B R len : Nat) (ps : List ByteArray) (l : List (ByteArray × Nat)) : Prop where
  fst : l.map Prod.fst = ps
  map : ∃ n, MapAt Value.string wr B (held l) n
  row : ∃ cs, wr.heap[R]? = some (.cells cs 59 (0, 0)) ∧ cs.size = len ∧ ∀ (j : Nat) (p : ByteArray) (g : Nat), l[j]? = some (p, g) → cs[j]? = some (ptr g)
  bel : Below w.heap.size w wr
  hB : w.heap.size ≤ B
  hR : w.heap.size ≤ R
  ne : R ≠ B

/-- make(chan struct{}). -/
theorem mkChan (w : World) : (Instr.makeChan 62 (.int .i64 0)).run Ybaf.prog w = .ok (.chan (some w.heap.size)) (w.alloc (.chan 0 #[] false 0 0 false)) := by
  have h : (Ybaf.prog.info? 63).map (·.bytes) = some 0 := by kernel_rfl
  obtain ⟨i, hi, hb⟩ := Option.map_eq_some_iff.1 h
  simpa using Conc.run_makeChan (P := Ybaf.prog) (w := w) Ybaf.underlying62 hi .i64 0 (by omega) (by rw [hb]; omega)
/-- close of an open channel. -/
theorem shutChan (ats : Array TypeId) (ty : TypeId) (c cap s r : Nat) (tm : Bool) (w : World) (hc : w.heap[c]? = some (.chan cap #[] false s r tm)) :
    ∃ w', (Builtin.close_ ats ty #[.chan (some c)]).run Ybaf.prog w = .ok (.tuple #[]) w' ∧ w'.heap[c]? = some (.chan cap #[] true s r tm) ∧ Below c w w' ∧ w'.heap.size = w.heap.size ∧ ∀ i, i ≠ c → w'.heap[i]? = w.heap[i]? := by
  have hlt : c < w.heap.size := (Array.getElem?_eq_some_iff.1 hc).1
  have ho : ∀ (o : Obj) i, i ≠ c → (w.heap.setIfInBounds c o)[i]? = w.heap[i]? := fun o i hi => by simp [Ne.symm hi]
  refine ⟨{ w with heap := w.heap.setIfInBounds c (.chan cap #[] true s r tm) }, ?_, by simp [hlt], ⟨rfl, rfl, rfl, by simp, fun i hi => ho _ i (by omega)⟩, by simp, ho _⟩
  exact run_close_open ats ty hc
theorem str_inj (a b : ByteArray) (h : Value.string a = Value.string b) : a = b := by injection h

/-- A new outgoing in a block of its own, its pointer in the row: the map is still to be told. -/
theorem Mid.laid {w wr : World} {B R len : Nat} {ps : List ByteArray} {l : List (ByteArray × Nat)} (M : Mid w wr B R len ps l) (o : Obj) {k : Nat} (hk : k = l.length) (hlt : k < len) :
    MapAt Value.string ((wr.alloc o).setCell ⟨R, k, none⟩ (ptr wr.heap.size)) B (held l) M.map.choose ∧
    (∃ cs, ((wr.alloc o).setCell ⟨R, k, none⟩ (ptr wr.heap.size)).heap[R]? = some (.cells cs 59 (0, 0)) ∧ cs.size = len ∧ ∀ (p' p : ByteArray) (j g : Nat), (l ++ [(p', wr.heap.size)])[j]? = some (p, g) → cs[j]? = some (ptr g)) ∧
    Below w.heap.size w ((wr.alloc o).setCell ⟨R, k, none⟩ (ptr wr.heap.size)) := by
  obtain ⟨cs, h1, h2, h3⟩ := M.row
  have hm := M.map.choose_spec
  have hRlt : R < wr.heap.size := (Array.getElem?_eq_some_iff.1 h1).1
  refine ⟨hm.kept ?_, ⟨cs.setIfInBounds k (ptr wr.heap.size), ?_, by simp [h2], ?_⟩, (M.bel.alloc M.bel.size o).setCell M.hR _⟩
  · rw [Below.heap_setCell _ _ _ _ (Ne.symm M.ne), Below.heap_alloc _ _ _ hm.lt]
  · exact heap_setCell_same _ R k cs 59 _ ((Below.heap_alloc _ _ _ hRlt).trans h1)
  · intro p' p j g hj
    rw [List.getElem?_append] at hj
    split at hj
    · rename_i c
      rw [Array.getElem?_setIfInBounds, if_neg (by omega)]
      exact h3 j p g hj
    · rename_i c
      have : j - l.length = 0 := by
        cases hq : j - l.length with
        | zero => rfl
        | succ m => rw [hq] at hj; simp at hj
      rw [this] at hj
      simp at hj
      rw [Array.getElem?_setIfInBounds, if_pos (by omega), if_pos (by omega), hj.2]
end Go.Proofs.YbulkaefaFmt
