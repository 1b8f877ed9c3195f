/-
  A MAP THAT THE CALL MADE, TOLD AS A FUNCTION OF ITS KEYS: look-up, store, delete and len.
-/
import Derived.Test.YbulkaeheRows
import Derived.WalkKit
import Derived.Below
import Derived.KernelRfl
import Derived.Deep.DeepCutAuto
import Derived.BigQuiet
import Derived.Deep.RegionHeld3
import Derived.WalkSmall
import Derived.Laws.Rows
import Derived.MapKept
namespace Go.Proofs.Ybulkaehe
open Go.RowKit Go.MapKept

/-- Block r is a map of n entries that holds f. -/
def MapAt {κ : Type} (key : κ → Value) (w : World) (r : Nat) (f : κ → Option Value) (n : Nat) : Prop :=
  ∃ es clock, w.heap[r]? = some (.map es clock) ∧ es.size = n ∧ (es.toList.map (·.key)).Nodup ∧ (∀ x ∈ es.toList, ∃ k, x.key = key k ∧ f k = some x.val) ∧ ∀ k v, f k = some v → ∃ x ∈ es.toList, x.key = key k ∧ x.val = v

section
variable {κ : Type} {key : κ → Value} {P : Program} {w : World} {r n : Nat} {f : κ → Option Value} {mty kt et : TypeId} {d : TypeDesc}

theorem MapAt.kept {w' : World} (h : MapAt key w r f n) (e : w'.heap[r]? = w.heap[r]?) : MapAt key w' r f n := by
  obtain ⟨es, c, h1, h2⟩ := h
  exact ⟨es, c, e.trans h1, h2⟩
theorem MapAt.lt (h : MapAt key w r f n) : r < w.heap.size := by
  obtain ⟨es, c, h1, _⟩ := h
  exact (Array.getElem?_eq_some_iff.1 h1).1
theorem MapAt.made (w : World) : MapAt key (w.alloc (.map #[] 0)) w.heap.size (fun _ => none) 0 :=
  ⟨#[], 0, (heap_alloc w _).1, rfl, by simp, by simp, fun k v h => by cases h⟩

/-- v, ok := m[k]. -/
theorem MapAt.look (h : MapAt key w r f n) (hm : P.underlying mty = some (.map kt et)) (hd : P.underlying kt = some d) (hk : ∀ k, IsKey d (key k)) (hinj : ∀ a b, key a = key b → a = b) {z : Value} (hz : (zeroValue et).run P w = .ok z w) (k : κ) :
    (Instr.lookup mty (.map (some r)) (key k) true).run P w = .ok (.tuple #[(f k).getD z, .bool (f k).isSome]) w := by
  obtain ⟨es, c, hb, _, hnd, h1, h2⟩ := h
  have hks : ∀ x ∈ es.toList, IsKey d x.key := fun x hx => by obtain ⟨k', e, _⟩ := h1 x hx; rw [e]; exact hk k'
  rcases findNow_spec (hk k) es.toList 0 hks with ⟨g1, g2⟩ | ⟨j, e, g1, g2, g3⟩
  · have hf : f k = none := by
      cases hq : f k with
      | none => rfl
      | some v =>
        obtain ⟨x, hx, e1, _⟩ := h2 k v hq
        exact (g2 x hx e1).elim
    simp [Instr.lookup, run_underlying hm, MapKept.run_getObj_map hb, MapKept.run_checkKey hd (hk k), MapKept.run_findKey hd g1, hz, Result.andThen, hf]
  · have hx : e ∈ es.toList := List.mem_iff_getElem?.2 ⟨j, g2⟩
    obtain ⟨k', e1, e2⟩ := h1 e hx
    have : k' = k := hinj _ _ (by rw [← e1, g3])
    subst this
    simp [Instr.lookup, run_underlying hm, MapKept.run_getObj_map hb, MapKept.run_checkKey hd (hk k'), MapKept.run_findKey hd g1, Result.andThen, e2]

/-- m[k] = v. -/
theorem MapAt.store [DecidableEq κ] (h : MapAt key w r f n) (hm : P.underlying mty = some (.map kt et)) (hd : P.underlying kt = some d) (hk : ∀ k, IsKey d (key k)) (hinj : ∀ a b, key a = key b → a = b) (k : κ) (v : Value) :
    ∃ w', (Instr.mapUpdate mty (.map (some r)) (key k) v).run P w = .ok () w' ∧ MapAt key w' r (fun x => if x = k then some v else f x) (n + (if (f k).isSome then 0 else 1)) ∧ Below r w w' ∧ w'.heap.size = w.heap.size ∧ ∀ i, i ≠ r → w'.heap[i]? = w.heap[i]? := by
  obtain ⟨es, c, hb, hsz, hnd, h1, h2⟩ := h
  have hks : ∀ x ∈ es.toList, IsKey d x.key := fun x hx => by obtain ⟨k', e, _⟩ := h1 x hx; rw [e]; exact hk k'
  have hother : ∀ (o : Obj) i, i ≠ r → (w.heap.setIfInBounds r o)[i]? = w.heap[i]? := fun o i hi => (heap_set hb).2 i hi
  rcases findNow_spec (hk k) es.toList 0 hks with ⟨g1, g2⟩ | ⟨j, e, g1, g2, g3⟩
  · have hf : f k = none := by
      cases hq : f k with
      | none => rfl
      | some v =>
        obtain ⟨x, hx, e1, _⟩ := h2 k v hq
        exact (g2 x hx e1).elim
    refine ⟨{ w with heap := w.heap.setIfInBounds r (.map (es.push { key := key k, val := v, born := c }) (c + 1)) }, ?_, ?_, ⟨rfl, rfl, rfl, by simp, fun i hi => hother _ i (by omega)⟩, by simp, hother _⟩
    · simp [Instr.mapUpdate, run_underlying hm, MapKept.run_getObj_map hb, MapKept.run_checkKey hd (hk k), MapKept.run_findKey hd g1, MapKept.run_setObj_map _ hb, Result.andThen]
    · refine ⟨_, _, (heap_set hb).1, by simp [hsz, hf], ?_, ?_, ?_⟩
      · simp only [Array.toList_push, List.map_append, List.map_cons, List.map_nil]
        refine List.nodup_append.2 ⟨hnd, by simp, ?_⟩
        intro a ha b hb'
        simp only [List.mem_singleton] at hb'
        subst hb'
        obtain ⟨x, hx, rfl⟩ := List.mem_map.1 ha
        exact g2 x hx
      · intro x hx
        simp only [Array.toList_push, List.mem_append, List.mem_singleton] at hx
        rcases hx with hx | rfl
        · obtain ⟨k', e1, e2⟩ := h1 x hx
          have hne : k' ≠ k := fun q => g2 x hx (by rw [e1, q])
          exact ⟨k', e1, by simp only [if_neg hne]; exact e2⟩
        · exact ⟨k, rfl, by simp⟩
      · intro k' v' hq
        by_cases c1 : k' = k
        · subst c1
          simp at hq
          subst hq
          exact ⟨{ key := key k', val := v, born := c }, by simp, rfl, rfl⟩
        · simp only [if_neg c1] at hq
          obtain ⟨x, hx, e1, e2⟩ := h2 k' v' hq
          exact ⟨x, by simp; exact .inl (Array.mem_toList_iff.1 hx), e1, e2⟩
  · have hj : es[j]? = some e := by simpa using g2
    have hx : e ∈ es.toList := List.mem_iff_getElem?.2 ⟨j, g2⟩
    obtain ⟨k', e1, e2⟩ := h1 e hx
    have : k' = k := hinj _ _ (by rw [← e1, g3])
    subst this
    have hkey : ∀ e', es[j]? = some e' → ({ e' with key := key k', val := v } : MapEntry).key = e'.key := fun e' he' => by rw [hj] at he'; cases he'; exact g3.symm
    refine ⟨{ w with heap := w.heap.setIfInBounds r (.map (es.modify j fun e => { e with key := key k', val := v }) c) }, ?_, ?_, ⟨rfl, rfl, rfl, by simp, fun i hi => hother _ i (by omega)⟩, by simp, hother _⟩
    · simp [Instr.mapUpdate, run_underlying hm, MapKept.run_getObj_map hb, MapKept.run_checkKey hd (hk k'), MapKept.run_findKey hd g1, hj, g3, run_keyThatStays (hk k'), MapKept.run_setObj_map _ hb, Result.andThen]
    · refine ⟨_, _, (heap_set hb).1, by simp [hsz, e2], ?_, ?_, ?_⟩
      · rw [modify_keys j _ hkey]; exact hnd
      · intro x hx'
        obtain ⟨i, hi⟩ := List.mem_iff_getElem?.1 hx'
        simp only [Array.getElem?_toList, Array.getElem?_modify] at hi
        by_cases ci : j = i
        · subst ci
          rw [if_pos rfl, hj] at hi
          simp at hi
          subst hi
          exact ⟨k', rfl, by simp⟩
        · rw [if_neg ci] at hi
          have hxm : x ∈ es.toList := List.mem_iff_getElem?.2 ⟨i, by simpa using hi⟩
          obtain ⟨q, q1, q2⟩ := h1 x hxm
          have hne : q ≠ k' := fun eq => by
            subst eq
            have l1 : (es.toList.map (·.key))[i]? = some (key q) := by rw [List.getElem?_map]; simp [hi, q1]
            have l2 : (es.toList.map (·.key))[j]? = some (key q) := by rw [List.getElem?_map]; simp [hj, g3]
            have := (List.getElem?_inj (by have := (List.getElem?_eq_some_iff.1 l2).1; exact this) hnd).1 (l2.trans l1.symm)
            exact ci this
          exact ⟨q, q1, by simp only [if_neg hne]; exact q2⟩
      · intro q v' hq
        by_cases c1 : q = k'
        · subst c1
          simp at hq
          subst hq
          refine ⟨{ e with key := key q, val := v }, List.mem_iff_getElem?.2 ⟨j, ?_⟩, rfl, rfl⟩
          simp [hj]
        · simp only [if_neg c1] at hq
          obtain ⟨x, hx', f1, f2⟩ := h2 q v' hq
          obtain ⟨i, hi⟩ := List.mem_iff_getElem?.1 hx'
          refine ⟨x, List.mem_iff_getElem?.2 ⟨i, ?_⟩, f1, f2⟩
          have hi' : es[i]? = some x := by simpa using hi
          have ci : j ≠ i := fun eq => by
            subst eq
            rw [hj] at hi'; cases hi'
            exact c1 (hinj _ _ (by rw [← f1, g3]))
          simp [ci, hi']

/-- delete(m, k). -/
theorem MapAt.drop [DecidableEq κ] (h : MapAt key w r f n) (hm : P.underlying mty = some (.map kt et)) (hd : P.underlying kt = some d) (hk : ∀ k, IsKey d (key k)) (hinj : ∀ a b, key a = key b → a = b) (k : κ) (ty : TypeId) :
    ∃ w', (Builtin.delete_ #[mty, kt] ty #[.map (some r), key k]).run P w = .ok (.tuple #[]) w' ∧ MapAt key w' r (fun x => if x = k then none else f x) (n - (if (f k).isSome then 1 else 0)) ∧ Below r w w' ∧ w'.heap.size = w.heap.size ∧ ∀ i, i ≠ r → w'.heap[i]? = w.heap[i]? := by
  obtain ⟨es, c, hb, hsz, hnd, h1, h2⟩ := h
  have hks : ∀ x ∈ es.toList, IsKey d x.key := fun x hx => by obtain ⟨k', e, _⟩ := h1 x hx; rw [e]; exact hk k'
  have hother : ∀ (o : Obj) i, i ≠ r → (w.heap.setIfInBounds r o)[i]? = w.heap[i]? := fun o i hi => (heap_set hb).2 i hi
  rcases findNow_spec (hk k) es.toList 0 hks with ⟨g1, g2⟩ | ⟨j, e, g1, g2, g3⟩
  · have hf : f k = none := by
      cases hq : f k with
      | none => rfl
      | some v =>
        obtain ⟨x, hx, e1, _⟩ := h2 k v hq
        exact (g2 x hx e1).elim
    refine ⟨{ w with heap := w.heap.setIfInBounds r (.map es c) }, ?_, ?_, ⟨rfl, rfl, rfl, by simp, fun i hi => hother _ i (by omega)⟩, by simp, hother _⟩
    · simp [Builtin.delete_, run_underlying hm, MapKept.run_getObj_map hb, MapKept.run_checkKey hd (hk k), MapKept.run_findKey hd g1, MapKept.run_setObj_map _ hb, Result.andThen]
    · refine ⟨_, _, (heap_set hb).1, by simp [hsz, hf], hnd, ?_, ?_⟩
      · intro x hx
        obtain ⟨q, q1, q2⟩ := h1 x hx
        have hne : q ≠ k := fun eq => g2 x hx (by rw [q1, eq])
        exact ⟨q, q1, by simp only [if_neg hne]; exact q2⟩
      · intro q v hq
        by_cases cq : q = k
        · simp only [if_pos cq] at hq; cases hq
        · simp only [if_neg cq] at hq; exact h2 q v hq
  · have hjl : j < es.size := by simpa using (List.getElem?_eq_some_iff.1 g2).1
    have hx : e ∈ es.toList := List.mem_iff_getElem?.2 ⟨j, g2⟩
    obtain ⟨k', e1, e2⟩ := h1 e hx
    have : k' = k := hinj _ _ (by rw [← e1, g3])
    subst this
    have hel : (es.eraseIdxIfInBounds j).toList = es.toList.eraseIdx j := by
      unfold Array.eraseIdxIfInBounds
      rw [dif_pos hjl, Array.toList_eraseIdx]
    refine ⟨{ w with heap := w.heap.setIfInBounds r (.map (es.eraseIdxIfInBounds j) c) }, ?_, ?_, ⟨rfl, rfl, rfl, by simp, fun i hi => hother _ i (by omega)⟩, by simp, hother _⟩
    · simp [Builtin.delete_, run_underlying hm, MapKept.run_getObj_map hb, MapKept.run_checkKey hd (hk k'), MapKept.run_findKey hd g1, MapKept.run_setObj_map _ hb, Result.andThen]
    · refine ⟨_, _, (heap_set hb).1, ?_, ?_, ?_, ?_⟩
      · rw [← Array.length_toList, hel, List.length_eraseIdx]
        rw [if_pos (by simpa using hjl)]
        simp [hsz, e2]
      · rw [hel]
        exact ((List.eraseIdx_sublist _ _).map _).nodup hnd
      · intro x hx'
        rw [hel, List.mem_eraseIdx_iff_getElem?] at hx'
        obtain ⟨i, ci, hi⟩ := hx'
        have hxm : x ∈ es.toList := List.mem_iff_getElem?.2 ⟨i, hi⟩
        obtain ⟨q, q1, q2⟩ := h1 x hxm
        have hne : q ≠ k' := fun eq => by
          subst eq
          have l1 : (es.toList.map (·.key))[i]? = some (key q) := by rw [List.getElem?_map]; simp [hi, q1]
          have l2 : (es.toList.map (·.key))[j]? = some (key q) := by rw [List.getElem?_map]; simp [g2, g3]
          have := (List.getElem?_inj (by have := (List.getElem?_eq_some_iff.1 l2).1; exact this) hnd).1 (l2.trans l1.symm)
          exact ci this.symm
        exact ⟨q, q1, by simp only [if_neg hne]; exact q2⟩
      · intro q v hq
        by_cases cq : q = k'
        · simp only [if_pos cq] at hq; cases hq
        · simp only [if_neg cq] at hq
          obtain ⟨x, hx', f1, f2⟩ := h2 q v hq
          obtain ⟨i, hi⟩ := List.mem_iff_getElem?.1 hx'
          refine ⟨x, ?_, f1, f2⟩
          rw [hel, List.mem_eraseIdx_iff_getElem?]
          refine ⟨i, fun eq => ?_, hi⟩
          subst eq
          rw [g2] at hi
          cases hi
          exact cq (hinj _ _ (by rw [← f1, g3]))

/-- len(m). -/
theorem MapAt.len (h : MapAt key w r f n) (hm : P.underlying mty = some (.map kt et)) (ty : TypeId) :
    (Builtin.len_ #[mty] ty #[.map (some r)]).run P w = .ok (.int .i64 n) w := by
  obtain ⟨es, c, hb, hsz, _⟩ := h
  simp [Builtin.len_, run_underlying hm, MapKept.run_getObj_map hb, Result.andThen, hsz, goInt]
end
end Go.Proofs.Ybulkaehe
