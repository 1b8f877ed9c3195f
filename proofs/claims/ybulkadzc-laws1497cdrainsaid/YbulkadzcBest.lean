/-
  THE LAW's OWN SEARCH FOR THE EARLIEST LIVE HANDLE: plain mathematics.
-/
import Derived.Test.YbulkadzcState
namespace Go.Proofs.Ybulkadzc

/-- What the search has found ahead of handle k. -/
def Bst (M : Mdl) (k : Nat) (bi : Int) : Prop :=
  (bi = -1 ∧ ∀ j : Nat, j < k → M.live[j]? ≠ some true) ∨
  ∃ (b : Nat) (db sb : Int), bi = (b : Int) ∧ b < k ∧ M.live[b]? = some true ∧ M.dl[b]? = some db ∧ M.sq[b]? = some sb ∧
    ∀ (j : Nat) (d s : Int), j < k → M.live[j]? = some true → M.dl[j]? = some d → M.sq[j]? = some s → db < d ∨ (db = d ∧ sb ≤ s)

theorem Bst.start (M : Mdl) : Bst M 0 (-1) := .inl ⟨rfl, fun j h => by omega⟩
theorem Bst.skip {M : Mdl} {k : Nat} {bi : Int} (h : Bst M k bi) (hk : M.live[k]? = some false) : Bst M (k + 1) bi := by
  rcases h with ⟨h1, h2⟩ | ⟨b, db, sb, h1, h2, h3, h4, h5, h6⟩
  · refine .inl ⟨h1, fun j hj hl => ?_⟩
    by_cases e : j = k
    · subst e; rw [hk] at hl; cases hl
    · exact h2 j (by omega) hl
  · refine .inr ⟨b, db, sb, h1, by omega, h3, h4, h5, fun j d s hj hl hd hs => ?_⟩
    by_cases e : j = k
    · subst e; rw [hk] at hl; cases hl
    · exact h6 j d s (by omega) hl hd hs
theorem Bst.first {M : Mdl} {k : Nat} {d s : Int} (h : Bst M k (-1)) (hk : M.live[k]? = some true) (hd : M.dl[k]? = some d) (hs : M.sq[k]? = some s) : Bst M (k + 1) k := by
  rcases h with ⟨_, h2⟩ | ⟨b, db, sb, h1, _⟩
  · refine .inr ⟨k, d, s, rfl, by omega, hk, hd, hs, fun j d' s' hj hl hd' hs' => ?_⟩
    by_cases e : j = k
    · subst e
      rw [hd] at hd'; injection hd' with hd'
      rw [hs] at hs'; injection hs' with hs'
      omega
    · exact (h2 j (by omega) hl).elim
  · omega
theorem Bst.take {M : Mdl} {k b : Nat} {d s db sb : Int} (h : Bst M k b) (hk : M.live[k]? = some true) (hd : M.dl[k]? = some d) (hs : M.sq[k]? = some s) (hdb : M.dl[b]? = some db) (hsb : M.sq[b]? = some sb) (hlt : d < db ∨ (d = db ∧ s < sb)) : Bst M (k + 1) k := by
  rcases h with ⟨h1, _⟩ | ⟨b', db', sb', h1, h2, h3, h4, h5, h6⟩
  · omega
  · have : b' = b := by omega
    subst this
    rw [h4] at hdb; injection hdb with hdb
    rw [h5] at hsb; injection hsb with hsb
    subst hdb; subst hsb
    refine .inr ⟨k, d, s, rfl, by omega, hk, hd, hs, fun j d' s' hj hl hd' hs' => ?_⟩
    by_cases e : j = k
    · subst e
      rw [hd] at hd'; injection hd' with hd'
      rw [hs] at hs'; injection hs' with hs'
      omega
    · have := h6 j d' s' (by omega) hl hd' hs'
      omega
theorem Bst.stay {M : Mdl} {k b : Nat} {d s db sb : Int} (h : Bst M k b) (hk : M.live[k]? = some true) (hd : M.dl[k]? = some d) (hs : M.sq[k]? = some s) (hdb : M.dl[b]? = some db) (hsb : M.sq[b]? = some sb) (hlt : ¬ (d < db ∨ (d = db ∧ s < sb))) : Bst M (k + 1) b := by
  rcases h with ⟨h1, _⟩ | ⟨b', db', sb', h1, h2, h3, h4, h5, h6⟩
  · omega
  · have : b' = b := by omega
    subst this
    rw [h4] at hdb; injection hdb with hdb
    rw [h5] at hsb; injection hsb with hsb
    subst hdb; subst hsb
    refine .inr ⟨b', db', sb', rfl, by omega, h3, h4, h5, fun j d' s' hj hl hd' hs' => ?_⟩
    by_cases e : j = k
    · subst e
      rw [hd] at hd'; injection hd' with hd'
      rw [hs] at hs'; injection hs' with hs'
      omega
    · exact h6 j d' s' (by omega) hl hd' hs'

/-- Nothing is live: nothing is pending. -/
theorem Bst.none {S : HSt} {M : Mdl} (hR : Rl S M) (h : Bst M M.hs.length (-1)) : S.ents.length = 0 := by
  rcases h with ⟨_, h2⟩ | ⟨b, _, _, h1, _⟩
  · cases hc : S.ents with
    | nil => rfl
    | cons x t =>
      obtain ⟨k, hh, e1, e2, _⟩ := hR.cov x (by rw [hc]; simp)
      exact (h2 k (List.getElem?_eq_some_iff.1 e1).1 e2).elim
  · omega

/-- The earliest live handle is the root's. -/
theorem Bst.root {S : HSt} {M : Mdl} {L P : List Nat} {b : Nat} (hI : HInv S L P) (hR : Rl S M) (h : Bst M M.hs.length (b : Int)) :
    ∃ (s : Nat) (y : Slt) (x : Ent) (hh : Hd), M.hs[b]? = some hh ∧ M.live[b]? = some true ∧ hh.s = (s : Int) ∧ S.slots[s]? = some y ∧ y.gen = hh.g ∧ S.ents[0]? = some x ∧ x.l = (s : Int) ∧ M.dl[b]? = some x.d ∧ M.vals[b]? = some y.v := by
  rcases h with ⟨h1, _⟩ | ⟨b', db, sb, h1, h2, h3, h4, h5, h6⟩
  · omega
  · have : b' = b := by omega
    subst this
    obtain ⟨hh, e4⟩ : ∃ h', M.hs[b']? = some h' := ⟨_, List.getElem?_eq_getElem h2⟩
    obtain ⟨s, p, y, x, f1, f2, f3, f4, f5, f6, f7, f8, f9⟩ := hR.found hI e4 h3
    have hp := (List.getElem?_eq_some_iff.1 f5).1
    obtain ⟨x0, hx0⟩ : ∃ x0, S.ents[0]? = some x0 := ⟨_, List.getElem?_eq_getElem (by omega)⟩
    have hm0 : x0 ∈ S.ents := List.mem_iff_getElem?.2 ⟨0, hx0⟩
    have hm : x ∈ S.ents := List.mem_iff_getElem?.2 ⟨p, f5⟩
    obtain ⟨k, hk, g1, g2, g3⟩ := hR.cov x0 hm0
    obtain ⟨_, z, hz, zl, zd, zs, _⟩ := hR.live k hk g1 g2
    have : z = x0 := hI.linj hz hm0 (by rw [zl, g3])
    subst this
    have a1 := h6 k z.d z.s (List.getElem?_eq_some_iff.1 g1).1 g2 zd zs
    have a2 := root_min hI.ord hx0 p p x (Nat.le_refl _) f5
    rw [bef_not] at a2
    rw [h4] at f7; injection f7 with f7
    rw [h5] at f8; injection f8 with f8
    subst f7; subst f8
    have : x = z := hI.sinj x hm z hm0 (by omega)
    subst this
    exact ⟨s, y, x, hh, e4, h3, f1, f2, f3, hx0, f6, h4, f9⟩
end Go.Proofs.Ybulkadzc
