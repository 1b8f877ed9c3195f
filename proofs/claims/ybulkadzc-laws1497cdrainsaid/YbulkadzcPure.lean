/-
  THE PLAIN MATHEMATICS OF THE FOUR-ARY HEAP: no Go here.
-/
namespace Go.Proofs.Ybulkadzc

/-- The order of two entries, by deadline, then by seq. -/
def befB (d1 s1 d2 s2 : Int) : Bool := decide (d1 < d2) || (decide (d1 = d2) && decide (s1 < s2))

/-- An entry of the heap: deadline, seq, slot, period. -/
structure Ent where
  d : Int
  s : Int
  l : Int
  p : Int
/-- A slot: value, pos, gen. -/
structure Slt where
  v : Int
  pos : Int
  gen : Int
/-- The heap's state as data. -/
structure HSt where
  ents : List Ent
  slots : List Slt
  free : Int
  armed : Int
  pers : List Int
  fp : Int

def bef (a b : Ent) : Bool := befB a.d a.s b.d b.s

theorem bef_iff (a b : Ent) : bef a b = true ↔ a.d < b.d ∨ (a.d = b.d ∧ a.s < b.s) := by simp [bef, befB]
theorem bef_not (a b : Ent) : bef a b = false ↔ b.d < a.d ∨ (a.d = b.d ∧ b.s ≤ a.s) := by
  rw [← Bool.not_eq_true, bef_iff]; omega
theorem bef_asymm {a b : Ent} (h : bef a b = true) : bef b a = false := by
  rw [bef_iff] at h; rw [bef_not]; omega
theorem bef_trans {a b c : Ent} (h : bef a b = false) (k : bef b c = false) : bef a c = false := by
  rw [bef_not] at *; omega
theorem bef_mix {a b c : Ent} (h : bef a b = false) (k : bef c b = true) : bef a c = false := by
  rw [bef_iff] at k; rw [bef_not] at *; omega
theorem bef_refl (a : Ent) : bef a a = false := by rw [bef_not]; omega

def setPos (l : List Slt) (k : Nat) (i : Int) : List Slt := l.modify k (fun x => { x with pos := i })
theorem setPos_len (l : List Slt) (k : Nat) (i : Int) : (setPos l k i).length = l.length := by simp [setPos]
theorem setPos_get (l : List Slt) (k : Nat) (i : Int) (j : Nat) : (setPos l k i)[j]? = if k = j then (l[j]?).map (fun x => { x with pos := i }) else l[j]? := by
  unfold setPos
  rw [List.getElem?_modify]
  split <;> simp_all

def HSt.place (S : HSt) (i : Nat) (e : Ent) : HSt := { S with ents := S.ents.set i e, slots := setPos S.slots e.l.toNat i }

/-- Each entry's slot lies in range and names the entry's place. -/
def PosOK (T : HSt) : Prop := ∀ (k : Nat) (x : Ent), T.ents[k]? = some x → 0 ≤ x.l ∧ ∃ y, T.slots[x.l.toNat]? = some y ∧ y.pos = (k : Int)

def Ord (T : HSt) : Prop := ∀ k x y, 0 < k → T.ents[k]? = some x → T.ents[(k - 1) / 4]? = some y → bef x y = false

def OrdUp (T : HSt) (i : Nat) : Prop :=
  (∀ k x y, 0 < k → k ≠ i → T.ents[k]? = some x → T.ents[(k - 1) / 4]? = some y → bef x y = false) ∧
  (∀ k x y, 0 < k → (k - 1) / 4 = i → 0 < i → T.ents[k]? = some x → T.ents[(i - 1) / 4]? = some y → bef x y = false)

def OrdDown (T : HSt) (i : Nat) : Prop :=
  (∀ k x y, 0 < k → (k - 1) / 4 ≠ i → T.ents[k]? = some x → T.ents[(k - 1) / 4]? = some y → bef x y = false) ∧
  (∀ k x y, 0 < k → (k - 1) / 4 = i → 0 < i → T.ents[k]? = some x → T.ents[(i - 1) / 4]? = some y → bef x y = false)

/-- T' is a rearrangement of T. -/
structure Rel (T T' : HSt) : Prop where
  len : T'.ents.length = T.ents.length
  mem : ∀ x, x ∈ T'.ents ↔ x ∈ T.ents
  slen : T'.slots.length = T.slots.length
  slot : ∀ k y, T.slots[k]? = some y → ∃ y', T'.slots[k]? = some y' ∧ y'.v = y.v ∧ y'.gen = y.gen ∧ ((∀ x ∈ T.ents, x.l.toNat ≠ k) → y'.pos = y.pos)
  free : T'.free = T.free
  armed : T'.armed = T.armed
  pers : T'.pers = T.pers
  fp : T'.fp = T.fp

theorem Rel.refl (T : HSt) : Rel T T := ⟨rfl, fun _ => Iff.rfl, rfl, fun _ y h => ⟨y, h, rfl, rfl, fun _ => rfl⟩, rfl, rfl, rfl, rfl⟩
theorem Rel.trans {A B C : HSt} (h : Rel A B) (k : Rel B C) : Rel A C := by
  refine ⟨k.len.trans h.len, fun x => (k.mem x).trans (h.mem x), k.slen.trans h.slen, ?_, k.free.trans h.free, k.armed.trans h.armed, k.pers.trans h.pers, k.fp.trans h.fp⟩
  intro i y hy
  obtain ⟨y1, g1, v1, e1, p1⟩ := h.slot i y hy
  obtain ⟨y2, g2, v2, e2, p2⟩ := k.slot i y1 g1
  exact ⟨y2, g2, v2.trans v1, e2.trans e1, fun hx => (p2 (fun x hm => hx x ((h.mem x).1 hm))).trans (p1 hx)⟩

/-- Entries' places by their slots: two entries of one slot stand at one place. -/
theorem PosOK.inj {T : HSt} (h : PosOK T) {i j : Nat} {x y : Ent} (hx : T.ents[i]? = some x) (hy : T.ents[j]? = some y) (e : x.l = y.l) : i = j := by
  obtain ⟨_, a, ha, pa⟩ := h i x hx
  obtain ⟨_, b, hb, pb⟩ := h j y hy
  rw [e, hb] at ha
  injection ha with ha
  subst ha
  omega

section step
variable {S : HSt} {i p : Nat} {e x : Ent}

theorem place_get (S : HSt) (i : Nat) (e : Ent) (k : Nat) : (S.place i e).ents[k]? = if i = k then (if i < S.ents.length then some e else none) else S.ents[k]? := by
  simp only [HSt.place]; rw [List.getElem?_set]
theorem place_len (S : HSt) (i : Nat) (e : Ent) : (S.place i e).ents.length = S.ents.length := by simp [HSt.place]
theorem place_slen (S : HSt) (i : Nat) (e : Ent) : (S.place i e).slots.length = S.slots.length := by simp [HSt.place, setPos_len]
theorem place_slot (S : HSt) (i : Nat) (e : Ent) (k : Nat) : (S.place i e).slots[k]? = if e.l.toNat = k then (S.slots[k]?).map (fun x => { x with pos := (i : Int) }) else S.slots[k]? := by
  simp only [HSt.place]; rw [setPos_get]

/-- The step of a sift: the entry x of place p goes to place i, e (which stood virtually at i) to p. -/
theorem swap_get (hi : i < S.ents.length) (hp : p < S.ents.length) (_hne : i ≠ p) (k : Nat) :
    ((S.place i x).place p e).ents[k]? = if k = p then some e else if k = i then some x else S.ents[k]? := by
  rw [place_get, place_get, place_len]
  by_cases h1 : p = k
  · subst h1; simp [hp]
  · have h1' : k ≠ p := fun e => h1 e.symm
    by_cases h2 : i = k
    · subst h2; simp [h1', h1, hi]
    · have h2' : k ≠ i := fun e => h2 e.symm
      simp [h1, h1', h2, h2']

theorem virt_get (hi : i < S.ents.length) (k : Nat) : (S.place i e).ents[k]? = if k = i then some e else S.ents[k]? := by
  rw [place_get]
  by_cases h : i = k
  · subst h; simp [hi]
  · have h' : k ≠ i := fun e => h e.symm
    simp [h, h']

theorem step_pos (hi : i < S.ents.length) (hne : i ≠ p) (hx : S.ents[p]? = some x) (h : PosOK (S.place i e)) : PosOK ((S.place i x).place p e) := by
  have hp : p < S.ents.length := (List.getElem?_eq_some_iff.1 hx).1
  have vi : (S.place i e).ents[i]? = some e := by rw [virt_get hi]; simp
  have vp : (S.place i e).ents[p]? = some x := by rw [virt_get hi]; simp [Ne.symm hne, hx]
  obtain ⟨e0, ye, hye, pe⟩ := h i e vi
  obtain ⟨x0, yx, hyx, px⟩ := h p x vp
  have hle : x.l.toNat ≠ e.l.toNat := by
    intro c
    have : x.l = e.l := by omega
    exact hne (h.inj vi vp this.symm)
  rw [place_slot] at hye hyx
  intro k z hz
  rw [swap_get hi hp hne] at hz
  by_cases h1 : k = p
  · subst h1
    simp at hz; subst hz
    refine ⟨e0, ?_⟩
    rw [place_slot, if_pos rfl, place_slot, if_neg hle]
    simp at hye
    obtain ⟨a, ha, _⟩ := hye
    exact ⟨_, by rw [ha]; rfl, rfl⟩
  · by_cases h2 : k = i
    · subst h2
      simp [h1] at hz; subst hz
      refine ⟨x0, ?_⟩
      rw [place_slot, if_neg (Ne.symm hle), place_slot, if_pos rfl]
      rw [if_neg (Ne.symm hle)] at hyx
      exact ⟨_, by rw [hyx]; rfl, rfl⟩
    · simp [h1, h2] at hz
      have vk : (S.place i e).ents[k]? = some z := by rw [virt_get hi]; simp [h2, hz]
      obtain ⟨z0, yz, hyz, pz⟩ := h k z vk
      have ne1 : z.l.toNat ≠ e.l.toNat := fun c => h2 (h.inj vk vi (by omega))
      have ne2 : z.l.toNat ≠ x.l.toNat := fun c => h1 (h.inj vk vp (by omega))
      refine ⟨z0, yz, ?_, pz⟩
      rw [place_slot, if_neg (Ne.symm ne1), place_slot, if_neg (Ne.symm ne2)]
      rw [place_slot, if_neg (Ne.symm ne1)] at hyz
      exact hyz

theorem step_rel (hi : i < S.ents.length) (hne : i ≠ p) (hx : S.ents[p]? = some x) : Rel (S.place i e) ((S.place i x).place p e) := by
  have hp : p < S.ents.length := (List.getElem?_eq_some_iff.1 hx).1
  refine ⟨by simp [place_len], ?_, by simp [place_slen], ?_, rfl, rfl, rfl, rfl⟩
  · intro z
    rw [List.mem_iff_getElem?, List.mem_iff_getElem?]
    constructor
    · rintro ⟨k, hk⟩
      rw [swap_get hi hp hne] at hk
      by_cases h1 : k = p
      · subst h1; simp at hk; subst hk; exact ⟨i, by rw [virt_get hi]; simp⟩
      · by_cases h2 : k = i
        · subst h2; simp [h1] at hk; subst hk; exact ⟨p, by rw [virt_get hi]; simp [Ne.symm h1, hx]⟩
        · simp [h1, h2] at hk; exact ⟨k, by rw [virt_get hi]; simp [h2, hk]⟩
    · rintro ⟨k, hk⟩
      rw [virt_get hi] at hk
      by_cases h2 : k = i
      · subst h2; simp at hk; subst hk; exact ⟨p, by rw [swap_get hi hp hne]; simp⟩
      · simp [h2] at hk
        by_cases h1 : k = p
        · subst h1; rw [hx] at hk; injection hk with hk; subst hk; exact ⟨i, by rw [swap_get hi hp hne]; simp [hne]⟩
        · exact ⟨k, by rw [swap_get hi hp hne]; simp [h1, h2, hk]⟩
  · intro k y hy
    have he : e ∈ (S.place i e).ents := List.mem_iff_getElem?.2 ⟨i, by rw [virt_get hi]; simp⟩
    have hxm : x ∈ (S.place i e).ents := List.mem_iff_getElem?.2 ⟨p, by rw [virt_get hi]; simp [Ne.symm hne, hx]⟩
    rw [place_slot] at hy
    rw [place_slot, place_slot]
    by_cases h1 : e.l.toNat = k
    · rw [if_pos h1] at hy ⊢
      simp at hy
      obtain ⟨a, ha, rfl⟩ := hy
      by_cases h2 : x.l.toNat = k
      · rw [if_pos h2, ha]; exact ⟨_, rfl, rfl, rfl, fun c => absurd h1 (c e he)⟩
      · rw [if_neg h2, ha]; exact ⟨_, rfl, rfl, rfl, fun c => absurd h1 (c e he)⟩
    · rw [if_neg h1] at hy ⊢
      by_cases h2 : x.l.toNat = k
      · rw [if_pos h2, hy]; exact ⟨_, rfl, rfl, rfl, fun c => absurd h2 (c x hxm)⟩
      · rw [if_neg h2, hy]; exact ⟨_, rfl, rfl, rfl, fun _ => rfl⟩
end step

section up
variable {S : HSt} {i : Nat} {e x : Ent}

theorem up_step (hi : i < S.ents.length) (h0 : 0 < i) (hx : S.ents[(i - 1) / 4]? = some x) (hb : bef e x = true) (h : OrdUp (S.place i e) i) :
    OrdUp ((S.place i x).place ((i - 1) / 4) e) ((i - 1) / 4) := by
  have hp : (i - 1) / 4 < S.ents.length := (List.getElem?_eq_some_iff.1 hx).1
  have hne : i ≠ (i - 1) / 4 := by omega
  obtain ⟨h1, h2⟩ := h
  refine ⟨?_, ?_⟩
  · intro k a b k0 kne ha hb'
    rw [swap_get hi hp hne] at ha hb'
    by_cases c1 : k = i
    · subst c1
      simp [hne] at ha hb'
      subst ha; subst hb'
      exact bef_asymm hb
    · simp [c1, kne] at ha
      have va : (S.place i e).ents[k]? = some a := by rw [virt_get hi]; simp [c1, ha]
      by_cases c2 : (k - 1) / 4 = (i - 1) / 4
      · simp [c2] at hb'; subst hb'
        have := h1 k a x k0 c1 va (by rw [c2, virt_get hi]; simp [Ne.symm hne, hx])
        exact bef_mix this hb
      · by_cases c3 : (k - 1) / 4 = i
        · simp [c3, hne] at hb'; subst hb'
          exact h2 k a x k0 c3 h0 va (by rw [virt_get hi]; simp [Ne.symm hne, hx])
        · simp [c2, c3] at hb'
          exact h1 k a b k0 c1 va (by rw [virt_get hi]; simp [c3, hb'])
  · intro k a b k0 kp p0 ha hb'
    rw [swap_get hi hp hne] at ha hb'
    have q1 : ((i - 1) / 4 - 1) / 4 ≠ (i - 1) / 4 := by omega
    have q2 : ((i - 1) / 4 - 1) / 4 ≠ i := by omega
    simp [q1, q2] at hb'
    have gp := h1 ((i - 1) / 4) x b p0 (Ne.symm hne) (by rw [virt_get hi]; simp [Ne.symm hne, hx]) (by rw [virt_get hi]; simp [q2, hb'])
    by_cases c1 : k = i
    · subst c1; simp [hne] at ha; subst ha; exact gp
    · have c2 : k ≠ (i - 1) / 4 := by omega
      simp [c1, c2] at ha
      have := h1 k a x k0 c1 (by rw [virt_get hi]; simp [c1, ha]) (by rw [kp, virt_get hi]; simp [Ne.symm hne, hx])
      exact bef_trans this gp

theorem up_done (hi : i < S.ents.length) (h : OrdUp (S.place i e) i) (hx : i = 0 ∨ ∀ x, S.ents[(i - 1) / 4]? = some x → bef e x = false) : Ord (S.place i e) := by
  intro k a b k0 ha hb
  by_cases c : k = i
  · subst c
    rw [virt_get hi] at ha hb
    have q : (k - 1) / 4 ≠ k := by omega
    simp at ha; simp [q] at hb; subst ha
    rcases hx with hx | hx
    · omega
    · exact hx b hb
  · exact h.1 k a b k0 c ha hb

/-- c is the earliest child of i. -/
def MinChild (S : HSt) (i c : Nat) (x : Ent) : Prop :=
  0 < c ∧ (c - 1) / 4 = i ∧ S.ents[c]? = some x ∧ ∀ k y, 0 < k → (k - 1) / 4 = i → S.ents[k]? = some y → bef y x = false

theorem down_step {c : Nat} (hi : i < S.ents.length) (hc : MinChild S i c x) (hb : bef x e = true) (h : OrdDown (S.place i e) i) :
    OrdDown ((S.place i x).place c e) c := by
  obtain ⟨c0, cp, hx, hmin⟩ := hc
  have hcl : c < S.ents.length := (List.getElem?_eq_some_iff.1 hx).1
  have hne : i ≠ c := by omega
  obtain ⟨h1, h2⟩ := h
  refine ⟨?_, ?_⟩
  · intro k a b k0 kne ha hb'
    rw [swap_get hi hcl hne] at ha hb'
    by_cases k1 : k = i
    · subst k1
      have q1 : (k - 1) / 4 ≠ c := by omega
      have q2 : (k - 1) / 4 ≠ k := by omega
      simp [hne] at ha; simp [q1, q2] at hb'; subst ha
      exact h2 c x b c0 cp k0 (by rw [virt_get hi]; simp [Ne.symm hne, hx]) (by rw [virt_get hi]; simp [q2, hb'])
    · by_cases k2 : k = c
      · subst k2
        simp at ha; simp [cp, hne] at hb'; subst ha; subst hb'
        exact bef_asymm hb
      · simp [k1, k2] at ha
        by_cases k3 : (k - 1) / 4 = i
        · simp [k3, hne] at hb'; subst hb'
          exact hmin k a k0 k3 ha
        · simp [kne, k3] at hb'
          exact h1 k a b k0 k3 (by rw [virt_get hi]; simp [k1, ha]) (by rw [virt_get hi]; simp [k3, hb'])
  · intro k a b k0 kc _ ha hb'
    rw [swap_get hi hcl hne] at ha hb'
    have q1 : k ≠ c := by omega
    have q2 : k ≠ i := by omega
    simp [q1, q2] at ha; simp [cp, hne] at hb'; subst hb'
    exact h1 k a x k0 (by omega) (by rw [virt_get hi]; simp [q2, ha]) (by rw [kc, virt_get hi]; simp [Ne.symm hne, hx])

theorem down_done_leaf (_hi : i < S.ents.length) (h : OrdDown (S.place i e) i) (hl : S.ents.length ≤ 4 * i + 1) : Ord (S.place i e) := by
  intro k a b k0 ha hb
  have hk : k < (S.place i e).ents.length := (List.getElem?_eq_some_iff.1 ha).1
  rw [place_len] at hk
  exact h.1 k a b k0 (by omega) ha hb

theorem down_done {c : Nat} (hi : i < S.ents.length) (h : OrdDown (S.place i e) i) (hc : MinChild S i c x) (hb : bef x e = false) : Ord (S.place i e) := by
  intro k a b k0 ha hb'
  by_cases c1 : (k - 1) / 4 = i
  · rw [virt_get hi] at ha hb'
    have q : k ≠ i := by omega
    simp [q] at ha; simp [c1] at hb'; subst hb'
    exact bef_trans (hc.2.2.2 k a k0 c1 ha) hb
  · exact h.1 k a b k0 c1 ha hb'

/-- fix: to the upper side. -/
theorem fix_up {p : Ent} (hi : i < S.ents.length) (h : Ord S) (h0 : 0 < i) (hp : S.ents[(i - 1) / 4]? = some p) (hb : bef e p = true) : OrdUp (S.place i e) i := by
  have hold := List.getElem?_eq_getElem hi
  have e1 := h i _ p h0 hold hp
  have qq : (i - 1) / 4 ≠ i := by omega
  refine ⟨?_, ?_⟩
  · intro k a b k0 kne ha hb'
    rw [virt_get hi] at ha hb'
    simp [kne] at ha
    by_cases c : (k - 1) / 4 = i
    · simp [c] at hb'; subst hb'
      exact bef_mix (bef_trans (h k a _ k0 ha (by rw [c]; exact hold)) e1) hb
    · simp [c] at hb'
      exact h k a b k0 ha hb'
  · intro k a b k0 kp _ ha hb'
    rw [virt_get hi] at ha hb'
    have q : k ≠ i := by omega
    simp [q] at ha; simp [qq] at hb'
    rw [hp] at hb'; injection hb' with hb'; subst hb'
    exact bef_trans (h k a _ k0 ha (by rw [kp]; exact hold)) e1

/-- fix: to the lower side. -/
theorem fix_down (hi : i < S.ents.length) (h : Ord S) (hx : i = 0 ∨ ∀ p, S.ents[(i - 1) / 4]? = some p → bef e p = false) : OrdDown (S.place i e) i := by
  have hold := List.getElem?_eq_getElem hi
  refine ⟨?_, ?_⟩
  · intro k a b k0 kne ha hb
    rw [virt_get hi] at ha hb
    simp [kne] at hb
    by_cases c : k = i
    · subst c; simp at ha; subst ha
      rcases hx with hx | hx
      · omega
      · exact hx b hb
    · simp [c] at ha
      exact h k a b k0 ha hb
  · intro k a b k0 kp i0 ha hb
    rw [virt_get hi] at ha hb
    have q : k ≠ i := by omega
    have qq : (i - 1) / 4 ≠ i := by omega
    simp [q] at ha; simp [qq] at hb
    exact bef_trans (h k a _ k0 ha (by rw [kp]; exact hold)) (h i _ b i0 hold hb)

/-- A new entry at the end. -/
theorem push_up (h : Ord S) : OrdUp { S with ents := S.ents ++ [e] } S.ents.length := by
  refine ⟨?_, ?_⟩
  · intro k a b k0 kne ha hb
    have hk : k < S.ents.length := by
      have := (List.getElem?_eq_some_iff.1 ha).1
      simp at this; omega
    simp only at ha hb
    rw [List.getElem?_append_left hk] at ha
    rw [List.getElem?_append_left (by omega)] at hb
    exact h k a b k0 ha hb
  · intro k a b k0 kp _ ha hb
    have := (List.getElem?_eq_some_iff.1 ha).1
    simp at this; omega
end up
end Go.Proofs.Ybulkadzc
