/-
  A REGION THAT DRAWS ITS ORDER AND WHOSE OPERATIONS ONLY MAKE NEW MEMORY: by what each slot is told to hold, whatever the order.
-/
import Derived.Test.YbulkaeheMap
import Derived.Orders
namespace Go.Proofs.Ybulkaehe
open Go.RowKit

/-- Nothing that was there has turned. -/
def Ext (w w' : World) : Prop := Below w.heap.size w w'
theorem Ext.refl (w : World) : Ext w w := Below.refl _ _
theorem Ext.trans {a b c : World} (h : Ext a b) (k : Ext b c) : Ext a c := Below.trans h (Below.mono k h.size)
theorem Ext.alloc {a b : World} (h : Ext a b) (o : Obj) : Ext a (b.alloc o) := Below.alloc h h.size o
theorem Ext.drew {a b : World} (h : Ext a b) : Ext a b.drew := Below.drew h
theorem Ext.some {a b : World} (h : Ext a b) {i : Nat} {o : Obj} (e : a.heap[i]? = some o) : b.heap[i]? = some o :=
  (h.block i (Array.getElem?_eq_some_iff.1 e).1).trans e

section
variable {P : Program} {l : List Oper} {Q : Exit → Act → World → Prop}

/-- What is told of a step: her slot. -/
def StepOK (P : Program) (l : List Oper) (Q : Exit → Act → World → Prop) (Φ : Nat → World → Value → Prop) (a0 : Act) (w0 : World) (o : Oper) : Prop :=
  ∀ s, o.dst = some s → ∀ (a : Act) (w : World), Ext w0 w →
    (∀ e ∈ o.after, Region.binds .any e = true → ∀ oj sj, l[e.on]? = some oj → oj.dst = some sj → Φ sj w (a.tmps.getD sj undef)) →
    (∀ t, (∀ o ∈ l, o.dst ≠ some t) → a.tmps.getD t undef = a0.tmps.getD t undef) →
    ∀ K : Act → World → Prop, (∀ v w', Ext w w' → Φ s w' v → K (a.put (some s) v) w') → o.wp P a w K Q

structure RInv (l : List Oper) (Φ : Nat → World → Value → Prop) (a0 : Act) (w0 : World) (listed : Array Bool) (a : Act) (w : World) : Prop where
  ext : Ext w0 w
  len : listed.size = l.length
  tmps : a.tmps.size = a0.tmps.size
  defs : a.defers = a0.defers
  out : ∀ t, (∀ o ∈ l, o.dst ≠ some t) → a.tmps.getD t undef = a0.tmps.getD t undef
  held : ∀ (i : Nat) (o : Oper) (s : Nat), l[i]? = some o → o.dst = some s → listed.getD i false = true → Φ s w (a.tmps.getD s undef)

theorem getD_put_other (a : Act) (s t : Nat) (v : Value) (h : s ≠ t) : (a.put (some s) v).tmps.getD t undef = a.tmps.getD t undef := by
  simp [Act.put, Array.getD_eq_getD_getElem?, h]
theorem getD_put_same (a : Act) (s : Nat) (v : Value) (h : s < a.tmps.size) : (a.put (some s) v).tmps.getD s undef = v := by
  simp [Act.put, Array.getD_eq_getD_getElem?, h]

theorem ready_iff {listed : Array Bool} {i : Nat} (h : i ∈ Region.ready .any l.toArray listed) :
    ∃ o, l[i]? = some o ∧ listed.getD i true = false ∧ ∀ e ∈ o.after, Region.binds .any e = true → listed.getD e.on false = true := by
  simp only [Region.ready, List.mem_filter, Bool.and_eq_true, Bool.not_eq_true'] at h
  obtain ⟨_, h1, h2⟩ := h
  cases ho : l[i]? with
  | none => simp [ho] at h2
  | some o =>
    refine ⟨o, rfl, h1, fun e he hb => ?_⟩
    simp only [List.getElem?_toArray, ho, Option.map_some, Option.getD_some] at h2
    rw [Array.all_eq_true'] at h2
    have := h2 e he
    rw [hb] at this
    simpa using this
theorem ready_of {listed : Array Bool} {i : Nat} {o : Oper} (ho : l[i]? = some o) (h1 : listed.getD i true = false) (h2 : ∀ e ∈ o.after, Region.binds .any e = true → listed.getD e.on false = true) : i ∈ Region.ready .any l.toArray listed := by
  simp only [Region.ready, List.mem_filter, Bool.and_eq_true, Bool.not_eq_true', List.mem_range]
  refine ⟨by simpa using (List.getElem?_eq_some_iff.1 ho).1, h1, ?_⟩
  simp only [List.getElem?_toArray, ho, Option.map_some, Option.getD_some]
  rw [Array.all_eq_true']
  intro e he
  cases hb : Region.binds .any e with
  | false => simp
  | true => simp [h2 e he hb]

/-- How many are not yet listed. -/
def left (listed : Array Bool) : Nat := listed.toList.countP (· == false)
theorem left_set {listed : Array Bool} {i : Nat} (h : listed.getD i true = false) : left (listed.setIfInBounds i true) + 1 = left listed := by
  have hi : i < listed.size := by
    rcases Nat.lt_or_ge i listed.size with h1 | h1
    · exact h1
    · rw [Array.getD_eq_getD_getElem?, Array.getElem?_eq_none h1] at h; cases h
  have he : listed.toList[i]'(by simpa using hi) = false := by
    rw [Array.getD_eq_getD_getElem?, Array.getElem?_eq_getElem hi] at h
    simpa using h
  unfold left
  rw [Array.toList_setIfInBounds, List.countP_set (by simpa using hi)]
  have hpos : 0 < listed.toList.countP (· == false) := List.countP_pos_iff.2 ⟨_, List.getElem_mem _, by rw [he]; rfl⟩
  rw [he]
  simp only [beq_self_eq_true, if_true, Bool.true_eq_false, beq_iff_eq, if_false]
  omega
theorem wpAny_makes {Φ : Nat → World → Value → Prop} {a0 : Act} {w0 : World}
    (hmono : ∀ s w w' v, Ext w w' → Φ s w v → Φ s w' v)
    (hg : ∀ (i : Nat) (o : Oper), l[i]? = some o → o.guard = none ∧ ∃ s, o.dst = some s ∧ s < a0.tmps.size)
    (hd : ∀ (i j : Nat) (oi oj : Oper) (s : Nat), l[i]? = some oi → l[j]? = some oj → oi.dst = some s → oj.dst = some s → i = j)
    (hac : ∀ (i : Nat) (o : Oper), l[i]? = some o → ∀ e ∈ o.after, e.on < i)
    (hstep : ∀ (i : Nat) (o : Oper), l[i]? = some o → StepOK P l Q Φ a0 w0 o)
    (hend : ∀ a w, RInv l Φ a0 w0 (Array.replicate l.length true) a w → Q .normal a w) :
    ∀ (fuel : Nat) (listed : Array Bool) (a : Act) (w : World), left listed ≤ fuel → RInv l Φ a0 w0 listed a w → wpAny P .any l.toArray Q fuel listed a w := by
  have fin : ∀ (listed : Array Bool) (a : Act) (w : World), RInv l Φ a0 w0 listed a w → Region.ready .any l.toArray listed = [] → Q .normal a w := by
    intro listed a w hI hr
    have all : ∀ i, i < l.length → listed.getD i true = true := by
      intro i
      induction i using Nat.strongRecOn with
      | ind i ih =>
        intro hi
        cases hb : listed.getD i true with
        | true => rfl
        | false =>
          obtain ⟨o, ho⟩ : ∃ o, l[i]? = some o := ⟨_, List.getElem?_eq_getElem hi⟩
          have : i ∈ Region.ready .any l.toArray listed := ready_of ho hb fun e he _ => by
            have h1 := hac i o ho e he
            have h2 := ih e.on h1 (by omega)
            have h3 : e.on < listed.size := by rw [hI.len]; omega
            rw [Array.getD_eq_getD_getElem?, Array.getElem?_eq_getElem h3] at h2 ⊢
            simpa using h2
          rw [hr] at this
          cases this
    have e : listed = Array.replicate l.length true := by
      apply Array.ext
      · rw [hI.len]; simp
      · intro i h1 h2
        have := all i (by rw [← hI.len]; exact h1)
        rw [Array.getD_eq_getD_getElem?, Array.getElem?_eq_getElem h1] at this
        simpa using this
    exact hend a w (e ▸ hI)
  intro fuel
  induction fuel with
  | zero =>
    intro listed a w hl hI
    have hr : Region.ready .any l.toArray listed = [] := by
      cases h : Region.ready .any l.toArray listed with
      | nil => rfl
      | cons i t =>
        obtain ⟨o, _, h1, _⟩ := ready_iff (l := l) (listed := listed) (i := i) (by rw [h]; exact List.mem_cons_self)
        have := left_set h1
        omega
    exact ⟨hr, fin listed a w hI hr⟩
  | succ fuel ih =>
    intro listed a w hl hI
    refine ⟨fin listed a w hI, fun i hi => ?_⟩
    obtain ⟨o, ho, h1, h2⟩ := ready_iff hi
    obtain ⟨hgu, s, hs, hss⟩ := hg i o ho
    have hwl := left_set h1
    unfold wpOp
    simp only [List.getElem?_toArray, ho]
    rw [if_pos (by simp [Region.wanted, hgu])]
    refine .inl (hstep i o ho s hs a w hI.ext (fun e he hb oj sj hj hsj => hI.held e.on oj sj hj hsj (h2 e he hb)) hI.out _ ?_)
    intro v w' hx hv
    refine ih _ _ _ (by omega) ⟨hI.ext.trans hx, by simp [hI.len], ?_, ?_, ?_, ?_⟩
    · simp [Act.put, hI.tmps]
    · simp [Act.put, hI.defs]
    · intro t ht
      rw [getD_put_other _ _ _ _ (fun e => ht o (List.mem_of_getElem? ho) (by rw [hs, e]))]
      exact hI.out t ht
    · intro j oj sj hj hsj hlj
      by_cases c : i = j
      · subst c
        rw [ho] at hj
        cases hj
        rw [hs] at hsj
        cases hsj
        rw [getD_put_same _ _ _ (by rw [hI.tmps]; exact hss)]
        exact hv
      · have hne : s ≠ sj := fun e => c (hd i j o oj s ho hj hs (by rw [hsj, e]))
        rw [getD_put_other _ _ _ _ hne]
        refine hmono _ _ _ _ hx (hI.held j oj sj hj hsj ?_)
        rw [Array.getD_eq_getD_getElem?, Array.getElem?_setIfInBounds, if_neg c] at hlj
        rw [Array.getD_eq_getD_getElem?]
        exact hlj

theorem wp_region_makes {id : Nat} {a0 : Act} {w : World} (Φ : Nat → World → Value → Prop) (hm : P.follows .mixedOrders = true)
    (hmono : ∀ s w w' v, Ext w w' → Φ s w v → Φ s w' v)
    (hg : ∀ (i : Nat) (o : Oper), l[i]? = some o → o.guard = none ∧ ∃ s, o.dst = some s ∧ s < a0.tmps.size)
    (hd : ∀ (i j : Nat) (oi oj : Oper) (s : Nat), l[i]? = some oi → l[j]? = some oj → oi.dst = some s → oj.dst = some s → i = j)
    (hac : ∀ (i : Nat) (o : Oper), l[i]? = some o → ∀ e ∈ o.after, e.on < i)
    (hstep : ∀ (i : Nat) (o : Oper), l[i]? = some o → StepOK P l Q Φ a0 w.drew o)
    (hend : ∀ a w', RInv l Φ a0 w.drew (Array.replicate l.length true) a w' → Q .normal a w') : (Code.region id l.toArray true).wp P Q a0 w := by
  refine wp_region_any hm ?_
  have hw : ({ w with drawn := w.drawn + 1 } : World) = w.drew := rfl
  rw [hw]
  refine wpAny_makes hmono hg hd hac hstep hend _ _ _ _ ?_ ⟨Ext.refl _, by simp, rfl, rfl, fun _ _ => rfl, ?_⟩
  · unfold left
    refine Nat.le_trans (List.countP_le_length) ?_
    simp
  · intro i o s _ _ h
    rw [Array.getD_eq_getD_getElem?, Array.getElem?_replicate] at h
    split at h <;> cases h
end
end Go.Proofs.Ybulkaehe
