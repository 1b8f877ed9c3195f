/-
  THE HEAP AND THE LAW's MODEL SAY THE SAME: plain mathematics.
-/
import Derived.Test.YbulkadzcModel
namespace Go.Proofs.Ybulkadzc

structure Rl (S : HSt) (M : Mdl) : Prop where
  l1 : M.dl.length = M.hs.length
  l2 : M.sq.length = M.hs.length
  l3 : M.vals.length = M.hs.length
  l4 : M.live.length = M.hs.length
  ar : M.armed = S.armed
  live : ∀ (k : Nat) (h : Hd), M.hs[k]? = some h → M.live[k]? = some true → 0 ≤ h.s ∧ ∃ x ∈ S.ents, x.l = h.s ∧ M.dl[k]? = some x.d ∧ M.sq[k]? = some x.s ∧ ∃ y : Slt, S.slots[h.s.toNat]? = some y ∧ y.gen = h.g ∧ M.vals[k]? = some y.v
  dead : ∀ (k : Nat) (h : Hd), M.hs[k]? = some h → M.live[k]? = some false → 0 ≤ h.s ∧ ∃ y : Slt, S.slots[h.s.toNat]? = some y ∧ h.g < y.gen
  uniq : ∀ (j k : Nat) (h h' : Hd), M.hs[j]? = some h → M.hs[k]? = some h' → M.live[j]? = some true → M.live[k]? = some true → h.s = h'.s → j = k
  cov : ∀ x ∈ S.ents, ∃ (k : Nat) (h : Hd), M.hs[k]? = some h ∧ M.live[k]? = some true ∧ h.s = x.l
  cnt : M.live.countP id = S.ents.length

/-- The root is the earliest. -/
theorem root_min {S : HSt} (h : Ord S) {x0 : Ent} (h0 : S.ents[0]? = some x0) : ∀ (n k : Nat) (x : Ent), k ≤ n → S.ents[k]? = some x → bef x x0 = false
  | 0, k, x, hk, hx => by
    have : k = 0 := by omega
    subst this; rw [h0] at hx; injection hx with hx; subst hx; exact bef_refl _
  | n + 1, k, x, hk, hx => by
    by_cases c : k = 0
    · subst c; rw [h0] at hx; injection hx with hx; subst hx; exact bef_refl _
    · have hkl := (List.getElem?_eq_some_iff.1 hx).1
      have hp : S.ents[(k - 1) / 4]? = some (S.ents[(k - 1) / 4]'(by omega)) := List.getElem?_eq_getElem (by omega)
      exact bef_trans (h k x _ (by omega) hx hp) (root_min h h0 n _ _ (by omega) hp)

theorem get_push {α : Type} (l : List α) (a : α) (k : Nat) (b : α) : (l ++ [a])[k]? = some b ↔ l[k]? = some b ∨ (k = l.length ∧ b = a) := by
  rw [List.getElem?_append]
  split
  · rename_i h
    constructor
    · exact fun e => .inl e
    · rintro (e | ⟨e, _⟩)
      · exact e
      · omega
  · rename_i h
    have hn : l[k]? = none := List.getElem?_eq_none_iff.2 (by omega)
    rw [hn]
    by_cases c : k = l.length
    · subst c
      simp
      exact ⟨fun e => e.symm, fun e => e.symm⟩
    · have : [a][k - l.length]? = none := List.getElem?_eq_none_iff.2 (by simp; omega)
      rw [this]
      simp [c]

theorem rl_add {T S' : HSt} {M : Mdl} {d p v : Int} {y : Slt} (hR : Rl T M) (A : AddFacts T S' ⟨d, T.armed + 1, T.takes, p⟩ v) (hy : S'.slots[T.takes]? = some y) : Rl S' (M.push ⟨T.takes, y.gen⟩ d v) := by
  obtain ⟨y', e1, e2, e3, e4⟩ := A.newslot
  rw [hy] at e1; injection e1 with e1; subst e1
  have hs : ∀ (k : Nat) (h : Hd), (M.push ⟨T.takes, y.gen⟩ d v).hs[k]? = some h ↔ M.hs[k]? = some h ∨ (k = M.hs.length ∧ h = ⟨T.takes, y.gen⟩) := fun k h => get_push _ _ _ _
  have hl : ∀ (k : Nat) (b : Bool), (M.push ⟨T.takes, y.gen⟩ d v).live[k]? = some b ↔ M.live[k]? = some b ∨ (k = M.live.length ∧ b = true) := fun k h => get_push _ _ _ _
  have hd : ∀ (k : Nat) (b : Int), (M.push ⟨T.takes, y.gen⟩ d v).dl[k]? = some b ↔ M.dl[k]? = some b ∨ (k = M.dl.length ∧ b = d) := fun k h => get_push _ _ _ _
  have hq : ∀ (k : Nat) (b : Int), (M.push ⟨T.takes, y.gen⟩ d v).sq[k]? = some b ↔ M.sq[k]? = some b ∨ (k = M.sq.length ∧ b = M.armed + 1) := fun k h => get_push _ _ _ _
  have hv : ∀ (k : Nat) (b : Int), (M.push ⟨T.takes, y.gen⟩ d v).vals[k]? = some b ↔ M.vals[k]? = some b ∨ (k = M.vals.length ∧ b = v) := fun k h => get_push _ _ _ _
  have L1 := hR.l1
  have L2 := hR.l2
  have L3 := hR.l3
  have L4 := hR.l4
  have old : ∀ (k : Nat) (h : Hd), M.hs[k]? = some h → k < M.hs.length := fun k h e => (List.getElem?_eq_some_iff.1 e).1
  refine ⟨by simp [Mdl.push, L1], by simp [Mdl.push, L2], by simp [Mdl.push, L3], by simp [Mdl.push, L4], by rw [A.armed]; simp [Mdl.push, hR.ar], ?_, ?_, ?_, ?_, ?_⟩
  · intro k h h1 h2
    rcases (hs k h).1 h1 with h1 | ⟨h1, rfl⟩
    · have hk := old k h h1
      have h2' : M.live[k]? = some true := by
        rcases (hl k true).1 h2 with h2 | ⟨h2, _⟩
        · exact h2
        · omega
      obtain ⟨a0, x, hx, xl, xd, xs, z, hz, zg, zv⟩ := hR.live k h h1 h2'
      have hne : h.s.toNat ≠ T.takes := by rw [← xl]; exact A.fresh x hx
      obtain ⟨z', f1, f2, f3⟩ := A.slot _ z hz hne
      exact ⟨a0, x, (A.mem x).2 (.inl hx), xl, (hd k _).2 (.inl xd), (hq k _).2 (.inl xs), z', f1, by rw [f3]; exact zg, by rw [f2]; exact (hv k _).2 (.inl zv)⟩
    · exact ⟨by simp, _, (A.mem _).2 (.inr rfl), rfl, (hd k _).2 (.inr ⟨by omega, rfl⟩), (hq k _).2 (.inr ⟨by omega, by rw [hR.ar]⟩), y, by simpa using hy, rfl, by rw [e2]; exact (hv k _).2 (.inr ⟨by omega, rfl⟩)⟩
  · intro k h h1 h2
    have h2' : M.live[k]? = some false := by
      rcases (hl k false).1 h2 with h2 | ⟨_, h2⟩
      · exact h2
      · cases h2
    rcases (hs k h).1 h1 with h1 | ⟨h1, rfl⟩
    · obtain ⟨a0, z, hz, zg⟩ := hR.dead k h h1 h2'
      refine ⟨a0, ?_⟩
      by_cases c : h.s.toNat = T.takes
      · rw [c] at hz ⊢
        exact ⟨y, hy, by rw [e3 z hz]; exact zg⟩
      · obtain ⟨z', f1, f2, f3⟩ := A.slot _ z hz c
        exact ⟨z', f1, by rw [f3]; exact zg⟩
    · have := (List.getElem?_eq_some_iff.1 h2').1
      omega
  · intro j k h h' hj hk lj lk e
    rcases (hs j h).1 hj with hj | ⟨hj, rfl⟩ <;> rcases (hs k h').1 hk with hk | ⟨hk, rfl⟩
    · have := old j h hj
      have := old k h' hk
      refine hR.uniq j k h h' hj hk ?_ ?_ e
      · rcases (hl j true).1 lj with q | ⟨q, _⟩
        · exact q
        · omega
      · rcases (hl k true).1 lk with q | ⟨q, _⟩
        · exact q
        · omega
    · exfalso
      have := old j h hj
      have lj' : M.live[j]? = some true := by
        rcases (hl j true).1 lj with q | ⟨q, _⟩
        · exact q
        · omega
      obtain ⟨a0, x, hx, xl, _⟩ := hR.live j h hj lj'
      exact A.fresh x hx (by rw [xl, e]; simp)
    · exfalso
      have := old k h' hk
      have lk' : M.live[k]? = some true := by
        rcases (hl k true).1 lk with q | ⟨q, _⟩
        · exact q
        · omega
      obtain ⟨a0, x, hx, xl, _⟩ := hR.live k h' hk lk'
      exact A.fresh x hx (by rw [xl, ← e]; simp)
    · omega
  · intro x hx
    rcases (A.mem x).1 hx with hx | rfl
    · obtain ⟨k, h, h1, h2, h3⟩ := hR.cov x hx
      exact ⟨k, h, (hs k h).2 (.inl h1), (hl k true).2 (.inl h2), h3⟩
    · exact ⟨M.hs.length, _, (hs _ _).2 (.inr ⟨rfl, rfl⟩), (hl _ _).2 (.inr ⟨by omega, rfl⟩), rfl⟩
  · rw [A.len, ← hR.cnt]; simp [Mdl.push, List.countP_append]

theorem rl_kept {S : HSt} {M : Mdl} (per : Int) (h : Rl S M) : Rl (S.keptP per) M := by
  have e1 : (S.keptP per).ents = S.ents := by unfold HSt.keptP; split <;> rfl
  have e2 : (S.keptP per).slots = S.slots := by unfold HSt.keptP; split <;> rfl
  have e3 : (S.keptP per).armed = S.armed := by unfold HSt.keptP; split <;> rfl
  exact ⟨h.l1, h.l2, h.l3, h.l4, by rw [e3]; exact h.ar, by rw [e1, e2]; exact h.live, by rw [e2]; exact h.dead, h.uniq, by rw [e1]; exact h.cov, by rw [e1]; exact h.cnt⟩

def Mdl.reset (M : Mdl) (k : Nat) (d : Int) : Mdl := { M with armed := M.armed + 1, dl := M.dl.set k d, sq := M.sq.set k (M.armed + 1) }
def Mdl.ceased (M : Mdl) (k : Nat) : Mdl := { M with live := M.live.set k false }

theorem rl_reset {S S' : HSt} {M : Mdl} {k : Nat} {h : Hd} {x : Ent} {d : Int} (hR : Rl S M) (hk : M.hs[k]? = some h) (hlk : M.live[k]? = some true) (hx : x ∈ S.ents) (hxl : x.l = h.s)
    (hmem : ∀ z, z ∈ S'.ents ↔ (z ∈ S.ents ∧ z ≠ x) ∨ z = ⟨d, S.armed + 1, x.l, x.p⟩) (hlen : S'.ents.length = S.ents.length) (har : S'.armed = S.armed + 1)
    (hslot : ∀ (k : Nat) (y : Slt), S.slots[k]? = some y → ∃ y' : Slt, S'.slots[k]? = some y' ∧ y'.v = y.v ∧ y'.gen = y.gen) : Rl S' (M.reset k d) := by
  have hkl := (List.getElem?_eq_some_iff.1 hk).1
  refine ⟨by simp [Mdl.reset, hR.l1], by simp [Mdl.reset, hR.l2], hR.l3, hR.l4, by rw [har]; simp [Mdl.reset, hR.ar], ?_, ?_, hR.uniq, ?_, by rw [hlen]; exact hR.cnt⟩
  · intro j h' h1 h2
    obtain ⟨a0, z, hz, zl, zd, zs, y, hy, yg, yv⟩ := hR.live j h' h1 h2
    obtain ⟨y', f1, f2, f3⟩ := hslot _ y hy
    by_cases c : j = k
    · subst c
      have e : h' = h := by
        have h1' : M.hs[j]? = some h' := h1
        rw [hk] at h1'; injection h1' with h1'; exact h1'.symm
      subst e
      refine ⟨a0, _, (hmem _).2 (.inr rfl), hxl, ?_, ?_, y', f1, by rw [f3]; exact yg, by rw [f2]; exact yv⟩
      · simp only [Mdl.reset]; rw [List.getElem?_set, if_pos rfl, if_pos (by rw [hR.l1]; exact hkl)]
      · simp only [Mdl.reset]; rw [List.getElem?_set, if_pos rfl, if_pos (by rw [hR.l2]; exact hkl), hR.ar]
    · refine ⟨a0, z, (hmem z).2 (.inl ⟨hz, fun q => c ?_⟩), zl, ?_, ?_, y', f1, by rw [f3]; exact yg, by rw [f2]; exact yv⟩
      · subst q
        exact hR.uniq j k h' h h1 hk h2 hlk (by rw [← zl, ← hxl])
      · simp only [Mdl.reset]; rw [List.getElem?_set, if_neg (Ne.symm c)]; exact zd
      · simp only [Mdl.reset]; rw [List.getElem?_set, if_neg (Ne.symm c)]; exact zs
  · intro j h' h1 h2
    obtain ⟨a0, y, hy, yg⟩ := hR.dead j h' h1 h2
    obtain ⟨y', f1, f2, f3⟩ := hslot _ y hy
    exact ⟨a0, y', f1, by rw [f3]; exact yg⟩
  · intro z hz
    rcases (hmem z).1 hz with ⟨hz, _⟩ | rfl
    · exact hR.cov z hz
    · exact ⟨k, h, hk, hlk, hxl.symm⟩

theorem countP_set_false (l : List Bool) (k : Nat) (h : l[k]? = some true) : (l.set k false).countP id + 1 = l.countP id := by
  induction l generalizing k with
  | nil => simp at h
  | cons b l ih =>
    cases k with
    | zero => simp at h; subst h; simp
    | succ k =>
      have := ih k (by simpa using h)
      simp only [List.set_cons_succ, List.countP_cons]
      omega

theorem rl_stop {S S1 : HSt} {L P : List Nat} {M : Mdl} {k s : Nat} {h : Hd} {x : Ent} {y y1 : Slt} (hI : HInv S L P) (hR : Rl S M) (hk : M.hs[k]? = some h) (hlk : M.live[k]? = some true) (hx : x ∈ S.ents) (hxl : x.l = h.s) (hs : h.s = (s : Int))
    (R : RemFacts S S1 x) (hy : S.slots[s]? = some y) (hg : y.gen = h.g) (hy1 : S1.slots[s]? = some y1) : Rl (S1.rel s y1 x.p) (M.ceased k) := by
  have hkl := (List.getElem?_eq_some_iff.1 hk).1
  have sl : ∀ i, (S1.rel s y1 x.p).slots[i]? = if i = s then (S1.slots[i]?).map (fun _ => ⟨0, S1.free, y1.gen + 1⟩) else S1.slots[i]? := fun i => by rw [rel_slots]; exact freed_slots S1 s y1 i
  have gy : y1.gen = y.gen := by
    obtain ⟨y', e1, _, e3, _⟩ := R.slot s y hy
    rw [hy1] at e1; injection e1 with e1; subst e1; exact e3
  have lv : ∀ j b, (M.ceased k).live[j]? = some b → (j = k ∧ b = false) ∨ (j ≠ k ∧ M.live[j]? = some b) := by
    intro j b hb
    simp only [Mdl.ceased] at hb
    rw [List.getElem?_set] at hb
    by_cases c : k = j
    · rw [if_pos c] at hb
      split at hb
      · injection hb with hb; exact .inl ⟨c.symm, hb.symm⟩
      · cases hb
    · rw [if_neg c] at hb
      exact .inr ⟨Ne.symm c, hb⟩
  refine ⟨hR.l1, hR.l2, hR.l3, by simp [Mdl.ceased, hR.l4], by rw [rel_armed, R.armed]; exact hR.ar, ?_, ?_, ?_, ?_, ?_⟩
  · intro j h' h1 h2
    rcases lv j true h2 with ⟨_, q⟩ | ⟨c, h2⟩
    · cases q
    · obtain ⟨a0, z, hz, zl, zd, zs, t, ht, tg, tv⟩ := hR.live j h' h1 h2
      have hzx : z ≠ x := fun q => c (hR.uniq j k h' h h1 hk h2 hlk (by rw [← zl, ← hxl, q]))
      have hne : h'.s.toNat ≠ s := fun q => hzx (hI.linj hz hx (by rw [zl, hxl, hs]; omega))
      obtain ⟨t', f1, f2, f3, _⟩ := R.slot _ t ht
      refine ⟨a0, z, by rw [rel_ents]; exact (R.mem z).2 ⟨hz, hzx⟩, zl, zd, zs, t', ?_, by rw [f3]; exact tg, by rw [f2]; exact tv⟩
      rw [sl, if_neg hne]; exact f1
  · intro j h' h1 h2
    rcases lv j false h2 with ⟨c, _⟩ | ⟨c, h2⟩
    · subst c
      have e : h' = h := by
        have h1' : M.hs[j]? = some h' := h1
        rw [hk] at h1'; injection h1' with h1'; exact h1'.symm
      subst e
      refine ⟨by omega, ⟨0, S1.free, y1.gen + 1⟩, ?_, by simp only; omega⟩
      rw [hs]; simp only [Int.toNat_natCast]
      rw [sl, if_pos rfl, hy1]; rfl
    · obtain ⟨a0, t, ht, tg⟩ := hR.dead j h' h1 h2
      refine ⟨a0, ?_⟩
      by_cases q : h'.s.toNat = s
      · rw [q] at ht ⊢
        rw [hy] at ht; injection ht with ht; subst ht
        exact ⟨⟨0, S1.free, y1.gen + 1⟩, by rw [sl, if_pos rfl, hy1]; rfl, by simp only; omega⟩
      · obtain ⟨t', f1, f2, f3, _⟩ := R.slot _ t ht
        exact ⟨t', by rw [sl, if_neg q]; exact f1, by rw [f3]; exact tg⟩
  · intro j j' h1 h1' e1 e2 q1 q2 e
    rcases lv j true q1 with ⟨_, t⟩ | ⟨_, q1⟩
    · cases t
    · rcases lv j' true q2 with ⟨_, t⟩ | ⟨_, q2⟩
      · cases t
      · exact hR.uniq j j' h1 h1' e1 e2 q1 q2 e
  · intro z hz
    rw [rel_ents] at hz
    obtain ⟨hz, hzx⟩ := (R.mem z).1 hz
    obtain ⟨j, h', e1, e2, e3⟩ := hR.cov z hz
    have c : k ≠ j := fun q => hzx (hI.linj hz hx (by
      subst q
      rw [hk] at e1; injection e1 with e1; subst e1
      rw [← e3, hxl]))
    exact ⟨j, h', e1, by simp only [Mdl.ceased]; rw [List.getElem?_set, if_neg c]; exact e2, e3⟩
  · rw [rel_ents]
    have h1 := countP_set_false M.live k hlk
    have h2 := hR.cnt
    have h3 := R.len
    simp only [Mdl.ceased]
    omega
end Go.Proofs.Ybulkadzc
