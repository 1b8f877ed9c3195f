/-
  THE PLAIN LAW OF LawS1512BForget: lists of keys with lengths.
-/
import Derived.Test.YbulkaeheForget
namespace Go.Proofs.Ybulkaehe
open Go.RowKit Go.MapKept

/-- The last length that was given for x. -/
def lastN : List (Int × Nat) → Int → Option Nat
  | [], _ => none
  | (p, g) :: l, x => match lastN l x with
    | some h => some h
    | none => if x = p then some g else none
theorem lastN_push (l : List (Int × Nat)) (p : Int) (g : Nat) (x : Int) : lastN (l ++ [(p, g)]) x = if x = p then some g else lastN l x := by
  induction l with
  | nil => simp [lastN]
  | cons a l ih =>
    obtain ⟨q, h⟩ := a
    simp only [List.cons_append, lastN, ih]
    by_cases c : x = p
    · simp [c]
    · simp [c]
theorem lastN_take {l : List (Int × Nat)} {i : Nat} {p : Int} {g : Nat} (h : l[i]? = some (p, g)) (x : Int) : lastN (l.take (i + 1)) x = if x = p then some g else lastN (l.take i) x := by
  rw [List.take_add_one, h]
  exact lastN_push _ _ _ _

/-- What the map of the first places holds: how many. -/
def dist : Nat → List (Int × Nat) → Nat
  | 0, _ => 0
  | i + 1, l => dist i l + (match l[i]? with
    | some (p, _) => if (lastN (l.take i) p).isSome then 0 else 1
    | none => 0)
/-- What the law counts at the first places. -/
def cnt : Nat → List (Int × Nat) → Int → Nat
  | 0, _, _ => 0
  | i + 1, l, s => cnt i l s + (match l[i]? with
    | some (p, _) => if p = s ∨ (lastN (l.take i) p).isSome then 0 else 1
    | none => 0)
theorem dist_cnt (l : List (Int × Nat)) (s : Int) : ∀ i, dist i l = cnt i l s + (if (lastN (l.take i) s).isSome then 1 else 0)
  | 0 => by simp [dist, cnt, lastN]
  | i + 1 => by
    have ih := dist_cnt l s i
    unfold dist cnt
    cases h : l[i]? with
    | none =>
      have : l.take (i + 1) = l.take i := by rw [List.take_add_one, h]; simp
      rw [this]
      simpa using ih
    | some e =>
      obtain ⟨p, g⟩ := e
      rw [lastN_take h]
      simp only
      by_cases c : p = s
      · subst c
        simp only [true_or, if_true, Option.isSome_some]
        cases hq : lastN (l.take i) p with
        | none => rw [hq] at ih; simp at ih ⊢; omega
        | some v => rw [hq] at ih; simp at ih ⊢; omega
      · have c' : s ≠ p := fun q => c q.symm
        simp only [c, false_or, if_neg c']
        omega
theorem cnt_le (l : List (Int × Nat)) (s : Int) : ∀ i, cnt i l s ≤ i
  | 0 => by simp [cnt]
  | i + 1 => by
    have := cnt_le l s i
    unfold cnt
    split
    · split <;> omega
    · omega

/-- The map holds what the places say. -/
def Holds (f : Int → Option Value) (l : List (Int × Nat)) : Prop :=
  ∀ x, match lastN l x with
    | none => f x = none
    | some n => ∃ b, f x = some (acc x n b)
theorem Holds.off {f : Int → Option Value} {l : List (Int × Nat)} (h : Holds f l) {x : Int} (e : lastN l x = none) : f x = none := by
  have := h x
  rw [e] at this
  exact this
theorem Holds.on {f : Int → Option Value} {l : List (Int × Nat)} (h : Holds f l) {x : Int} {n : Nat} (e : lastN l x = some n) : ∃ b, f x = some (acc x n b) := by
  have := h x
  rw [e] at this
  exact this
theorem Holds.isSome {f : Int → Option Value} {l : List (Int × Nat)} (h : Holds f l) (x : Int) : (f x).isSome = (lastN l x).isSome := by
  cases e : lastN l x with
  | none => rw [h.off e]; rfl
  | some n =>
    obtain ⟨b, hb⟩ := h.on e
    rw [hb]; rfl
theorem Holds.push {f : Int → Option Value} {l : List (Int × Nat)} {i : Nat} {p : Int} {g : Nat} (h : Holds f (l.take i)) (hi : l[i]? = some (p, g)) (b : Option Addr) : Holds (fun x => if x = p then some (acc p g b) else f x) (l.take (i + 1)) := by
  intro x
  rw [lastN_take hi]
  by_cases c : x = p
  · subst c
    simp only [if_true]
    exact ⟨b, rfl⟩
  · simp only [if_neg c]
    exact h x
/-- The places of the law: each slot with its length. -/
def pairs (ks : List Int) (ls : List Nat) : List (Int × Nat) := ks.mapIdx fun i k => (k, lenAt ls i)
theorem pairs_at {ks : List Int} {ls : List Nat} {i : Nat} {k : Int} (h : ks[i]? = some k) : (pairs ks ls)[i]? = some (k, lenAt ls i) := by
  simp [pairs, List.getElem?_mapIdx, h]
theorem pairs_len (ks : List Int) (ls : List Nat) : (pairs ks ls).length = ks.length := by simp [pairs]
theorem lastN_lt {l : List (Int × Nat)} (h : ∀ (i : Nat) (e : Int × Nat), l[i]? = some e → e.2 < 256) {x : Int} {n : Nat} (e : lastN l x = some n) : n < 256 := by
  induction l with
  | nil => cases e
  | cons a l ih =>
    obtain ⟨p, g⟩ := a
    unfold lastN at e
    cases hq : lastN l x with
    | none =>
      rw [hq] at e
      simp only at e
      split at e
      · cases e
        exact h 0 (p, n) rfl
      · cases e
    | some v =>
      rw [hq] at e
      simp only at e
      cases e
      exact ih (fun i e' he => h (i + 1) e' (by simpa using he)) hq
theorem lastN_mem {l : List (Int × Nat)} {i : Nat} {p : Int} {g : Nat} (h : l[i]? = some (p, g)) : ∃ m, lastN l p = some m := by
  induction l generalizing i with
  | nil => simp at h
  | cons a l ih =>
    obtain ⟨q, r⟩ := a
    unfold lastN
    cases hq : lastN l p with
    | some v => exact ⟨v, rfl⟩
    | none =>
      cases i with
      | zero =>
        simp at h
        obtain ⟨rfl, rfl⟩ := h
        exact ⟨r, by simp⟩
      | succ i =>
        obtain ⟨m, hm⟩ := ih (i := i) (by simpa using h)
        rw [hq] at hm; cases hm
/-- What the law expects: -1 where the slot is not there. -/
def eOf : Option Nat → Int
  | none => -1
  | some n => n
/-- The weight behind forgetAccepted. -/
def wOf (x : Int) : Option Nat → Int
  | none => x
  | some m => IntKind.i64.wrap (x - (32 + (m : Int)))
end Go.Proofs.Ybulkaehe
