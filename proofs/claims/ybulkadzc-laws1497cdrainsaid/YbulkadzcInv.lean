/-
  THE HEAP's INVARIANT ACROSS ITS METHODS: plain mathematics.
-/
import Derived.Test.YbulkadzcPeriod
namespace Go.Proofs.Ybulkadzc

/-- A free list: from the head h (1 + an index; 0: the end) through the places of L, each holding the next. -/
def Chain (nx : Nat → Option Int) : Int → List Nat → Prop
  | h, [] => h = 0
  | h, a :: L => h = (a : Int) + 1 ∧ ∃ v, nx a = some v ∧ Chain nx v L

theorem Chain.congr {nx nx' : Nat → Option Int} : ∀ {L : List Nat} {h : Int}, (∀ a ∈ L, nx' a = nx a) → Chain nx h L → Chain nx' h L
  | [], _, _, c => c
  | a :: L, h, e, ⟨c1, v, c2, c3⟩ => ⟨c1, v, by rw [e a (by simp)]; exact c2, Chain.congr (fun b hb => e b (by simp [hb])) c3⟩
theorem Chain.nonneg {nx : Nat → Option Int} {L : List Nat} {h : Int} (c : Chain nx h L) : 0 ≤ h := by
  cases L with
  | nil => simp only [Chain] at c; omega
  | cons a L => obtain ⟨c1, _⟩ := c; omega
theorem Chain.zero {nx : Nat → Option Int} {L : List Nat} (c : Chain nx 0 L) : L = [] := by
  cases L with
  | nil => rfl
  | cons a L => obtain ⟨c1, _⟩ := c; omega
theorem Chain.pos {nx : Nat → Option Int} {L : List Nat} {h : Int} (c : Chain nx h L) (hne : h ≠ 0) : ∃ a L' v, L = a :: L' ∧ h = (a : Int) + 1 ∧ nx a = some v ∧ Chain nx v L' := by
  cases L with
  | nil => exact absurd c hne
  | cons a L => obtain ⟨c1, v, c2, c3⟩ := c; exact ⟨a, L, v, rfl, c1, c2, c3⟩

structure HInv (S : HSt) (L P : List Nat) : Prop where
  ord : Ord S
  pos : PosOK S
  fch : Chain (fun a => (S.slots[a]?).map Slt.pos) S.free L
  fnd : L.Nodup
  fdis : ∀ x ∈ S.ents, x.l.toNat ∉ L
  pch : Chain (fun a => S.pers[a]?) S.fp P
  pnd : P.Nodup
  pper : ∀ x ∈ S.ents, x.p = 0 ∨ (1 ≤ x.p ∧ (x.p - 1).toNat < S.pers.length ∧ (x.p - 1).toNat ∉ P)
  pinj : ∀ x ∈ S.ents, ∀ y ∈ S.ents, x.p = y.p → x.p ≠ 0 → x = y
  sle : ∀ x ∈ S.ents, x.s ≤ S.armed
  sinj : ∀ x ∈ S.ents, ∀ y ∈ S.ents, x.s = y.s → x = y
  dle : ∀ x ∈ S.ents, x.d ≤ 9223372036854775807
  gen : ∀ (k : Nat) (y : Slt), S.slots[k]? = some y → 1 ≤ y.gen

/-- Sizes. -/
structure Bnd (S : HSt) (N : Nat) : Prop where
  n : S.ents.length ≤ N
  m : S.slots.length ≤ N
  p : S.pers.length ≤ N
  a0 : 0 ≤ S.armed
  a : S.armed ≤ N
  g : ∀ (k : Nat) (y : Slt), S.slots[k]? = some y → y.gen ≤ N + 1

theorem Bnd.mono {S : HSt} {N M : Nat} (h : Bnd S N) (hM : N ≤ M) : Bnd S M :=
  ⟨by have := h.n; omega, by have := h.m; omega, by have := h.p; omega, h.a0, by have := h.a; omega, fun k y hy => by have := h.g k y hy; omega⟩

theorem HInv.linj {S : HSt} {L P : List Nat} (h : HInv S L P) {x y : Ent} (hx : x ∈ S.ents) (hy : y ∈ S.ents) (e : x.l = y.l) : x = y := by
  obtain ⟨i, hi⟩ := List.mem_iff_getElem?.1 hx
  obtain ⟨j, hj⟩ := List.mem_iff_getElem?.1 hy
  have := h.pos.inj hi hj e
  subst this
  rw [hi] at hj; injection hj
theorem HInv.l0 {S : HSt} {L P : List Nat} (h : HInv S L P) {x : Ent} (hx : x ∈ S.ents) : 0 ≤ x.l ∧ x.l.toNat < S.slots.length := by
  obtain ⟨i, hi⟩ := List.mem_iff_getElem?.1 hx
  obtain ⟨a, y, hy, _⟩ := h.pos i x hi
  exact ⟨a, (List.getElem?_eq_some_iff.1 hy).1⟩

theorem HInv.takes {S : HSt} {L P : List Nat} (h : HInv S L P) :
    (S.free = 0 ∧ L = [] ∧ S.takes = S.slots.length) ∨ (∃ L' y, S.free ≠ 0 ∧ L = S.takes :: L' ∧ S.free = (S.takes : Int) + 1 ∧ S.slots[S.takes]? = some y ∧ S.took.free = y.pos ∧ Chain (fun a => (S.slots[a]?).map Slt.pos) y.pos L') := by
  by_cases c : S.free = 0
  · have hc := h.fch
    rw [c] at hc
    exact .inl ⟨c, hc.zero, by simp [HSt.takes, c]⟩
  · obtain ⟨a, L', v, e1, e2, e3, e4⟩ := h.fch.pos c
    have ht : S.takes = a := by simp only [HSt.takes, if_neg c]; omega
    simp only [Option.map_eq_some_iff] at e3
    obtain ⟨y, hy, rfl⟩ := e3
    refine .inr ⟨L', y, c, by rw [ht]; exact e1, by rw [ht]; exact e2, by rw [ht]; exact hy, ?_, e4⟩
    simp only [HSt.took, if_neg c]
    rw [show (S.free - 1).toNat = a from by omega, hy]

theorem HInv.good {S : HSt} {L P : List Nat} {N : Nat} (h : HInv S L P) (b : Bnd S N) (hN : N ≤ 50000) : Good S := by
  refine ⟨h.ord, h.pos, by have := b.n; omega, by have := b.m; omega, ⟨b.a0, by have := b.a; omega⟩, ?_, ?_⟩
  · rcases h.takes with ⟨c, _⟩ | ⟨L', y, c, e1, e2, e3, _⟩
    · exact .inl c
    · have := (List.getElem?_eq_some_iff.1 e3).1
      exact .inr ⟨by omega, by omega⟩
  · intro x hx
    rcases h.takes with ⟨c, _, e⟩ | ⟨L', y, c, e1, e2, e3, _⟩
    · have := h.l0 hx; omega
    · intro q
      exact h.fdis x hx (by rw [e1, q]; simp)

theorem toAdd_slots (T : HSt) (d p v : Int) (e : Ent) (he : e.l = (T.takes : Int)) (k : Nat) :
    ((T.toAdd d p v).place T.ents.length e).slots[k]? = if k = T.takes then (T.took.slots[k]?).map (fun y => { y with v := v, pos := (T.ents.length : Int) }) else T.took.slots[k]? := by
  rw [place_slot, he]
  simp only [Int.toNat_natCast, HSt.toAdd]
  rw [List.getElem?_modify]
  by_cases c : k = T.takes
  · subst c
    simp only [if_true]
    cases T.took.slots[T.takes]? <;> simp
  · rw [if_neg (Ne.symm c), if_neg c]
    simp [Ne.symm c]

structure AddFacts (T S' : HSt) (e : Ent) (v : Int) : Prop where
  mem : ∀ x, x ∈ S'.ents ↔ x ∈ T.ents ∨ x = e
  len : S'.ents.length = T.ents.length + 1
  armed : S'.armed = T.armed + 1
  slot : ∀ (k : Nat) (y : Slt), T.slots[k]? = some y → k ≠ T.takes → ∃ y', S'.slots[k]? = some y' ∧ y'.v = y.v ∧ y'.gen = y.gen
  newslot : ∃ y', S'.slots[T.takes]? = some y' ∧ y'.v = v ∧ (∀ y, T.slots[T.takes]? = some y → y'.gen = y.gen) ∧ (T.slots[T.takes]? = none → y'.gen = 1)
  fresh : ∀ x ∈ T.ents, x.l.toNat ≠ T.takes
  pers : S'.pers = T.pers
  fp : S'.fp = T.fp
  slen : T.slots.length ≤ S'.slots.length ∧ S'.slots.length ≤ T.slots.length + 1

theorem took_none (T : HSt) (h : T.slots[T.takes]? = none) (hf : T.free = 0 ∨ (0 < T.free ∧ (T.free - 1).toNat < T.slots.length)) : T.took.slots[T.takes]? = some ⟨0, 0, 1⟩ := by
  have c : T.free = 0 := by
    rcases hf with c | ⟨c1, c2⟩
    · exact c
    · simp only [HSt.takes, if_neg (show ¬ T.free = 0 by omega)] at h
      rw [List.getElem?_eq_none_iff] at h; omega
  simp [HSt.took, HSt.takes, c]

theorem added_facts {T S' : HSt} {d p v : Int} (hG : Good T) (hs : Sifted ((T.toAdd d p v).place T.ents.length ⟨d, T.armed + 1, T.takes, p⟩) S') : AddFacts T S' ⟨d, T.armed + 1, T.takes, p⟩ v := by
  obtain ⟨_, _, r⟩ := hs
  have sl := toAdd_slots T d p v ⟨d, T.armed + 1, T.takes, p⟩ rfl
  have hl := took_lt T hG.f
  refine ⟨?_, ?_, ?_, ?_, ?_, hG.u, by rw [r.pers]; exact took_pers T, ?_, ?_⟩
  · intro x
    rw [r.mem, toAdd_place_ents]; simp
  · rw [r.len, toAdd_place_ents]; simp
  · rw [r.armed]; simp [HSt.place, HSt.toAdd, took_armed]
  · intro k y hy hne
    have h1 := sl k
    rw [if_neg hne, took_slot T k y hy] at h1
    obtain ⟨y', e1, e2, e3, _⟩ := r.slot k y h1
    exact ⟨y', e1, e2, e3⟩
  · have h1 := sl T.takes
    rw [if_pos rfl, List.getElem?_eq_getElem hl] at h1
    simp only [Option.map_some] at h1
    obtain ⟨y', e1, e2, e3, _⟩ := r.slot _ _ h1
    simp only at e2 e3
    refine ⟨y', e1, e2, ?_, ?_⟩
    · intro y hy
      have h2 := took_slot T _ y hy
      rw [List.getElem?_eq_getElem hl] at h2
      injection h2 with h2
      rw [e3, h2]
    · intro hnone
      have h2 := took_none T hnone hG.f
      rw [List.getElem?_eq_getElem hl] at h2
      injection h2 with h2
      rw [e3, h2]
  · rw [r.fp]; simp only [HSt.place, HSt.toAdd]; unfold HSt.took; split <;> (try split) <;> rfl
  · have h1 : S'.slots.length = T.took.slots.length := by rw [r.slen, place_slen]; simp [HSt.toAdd]
    have := took_slen T
    omega

theorem added_inv {T S' : HSt} {L P : List Nat} {d p v : Int} (h : HInv T L P) (hG : Good T) (hd : d ≤ 9223372036854775807)
    (hp : p = 0 ∨ (1 ≤ p ∧ (p - 1).toNat < T.pers.length ∧ (p - 1).toNat ∉ P ∧ ∀ x ∈ T.ents, x.p ≠ p))
    (hs : Sifted ((T.toAdd d p v).place T.ents.length ⟨d, T.armed + 1, T.takes, p⟩) S') : ∃ L', HInv S' L' P := by
  have A := added_facts hG hs
  obtain ⟨o1, p1, r⟩ := hs
  have sl := toAdd_slots T d p v ⟨d, T.armed + 1, T.takes, p⟩ rfl
  have hfree : S'.free = T.took.free := by rw [r.free]; rfl
  have keep : ∀ a, a ≠ T.takes → (∀ x ∈ T.ents, x.l.toNat ≠ a) → a < T.slots.length → (S'.slots[a]?).map Slt.pos = (T.slots[a]?).map Slt.pos := by
    intro a hne hx ha
    have h1 := sl a
    rw [if_neg hne, took_slot T a _ (List.getElem?_eq_getElem ha)] at h1
    obtain ⟨y', e1, _, _, e4⟩ := r.slot a _ h1
    rw [e1, List.getElem?_eq_getElem ha]
    simp only [Option.map_some, Option.some.injEq]
    apply e4
    intro x hx'
    rw [toAdd_place_ents] at hx'
    simp at hx'
    rcases hx' with hx' | rfl
    · exact hx x hx'
    · simpa using Ne.symm hne
  have base : ∀ L', (∀ x ∈ S'.ents, x.l.toNat ∉ L') → L'.Nodup → Chain (fun a => (S'.slots[a]?).map Slt.pos) S'.free L' → HInv S' L' P := by
    intro L' f1 f2 f3
    refine ⟨o1, p1, f3, f2, f1, ?_, h.pnd, ?_, ?_, ?_, ?_, ?_, ?_⟩
    · rw [A.fp, A.pers]; exact h.pch
    · intro x hx
      rw [A.pers]
      rcases (A.mem x).1 hx with hx | rfl
      · exact h.pper x hx
      · rcases hp with hp | ⟨a, b, c, _⟩
        · exact .inl hp
        · exact .inr ⟨a, b, c⟩
    · intro x hx y hy e hne
      rcases (A.mem x).1 hx with hx | rfl <;> rcases (A.mem y).1 hy with hy | rfl
      · exact h.pinj x hx y hy e hne
      · simp only at e
        rcases hp with hp | ⟨_, _, _, c⟩
        · exact absurd (e.trans hp) hne
        · exact absurd e (c x hx)
      · simp only at e hne
        rcases hp with hp | ⟨_, _, _, c⟩
        · exact absurd hp hne
        · exact absurd e.symm (c y hy)
      · rfl
    · intro x hx
      rw [A.armed]
      rcases (A.mem x).1 hx with hx | rfl
      · have := h.sle x hx; omega
      · simp
    · intro x hx y hy e
      rcases (A.mem x).1 hx with hx | rfl <;> rcases (A.mem y).1 hy with hy | rfl
      · exact h.sinj x hx y hy e
      · have := h.sle x hx; simp only at e; omega
      · have := h.sle y hy; simp only at e; omega
      · rfl
    · intro x hx
      rcases (A.mem x).1 hx with hx | rfl
      · exact h.dle x hx
      · exact hd
    · intro k y hy
      by_cases c : k = T.takes
      · subst c
        obtain ⟨y', e1, _, e3, e4⟩ := A.newslot
        rw [hy] at e1; injection e1 with e1; subst e1
        cases hq : T.slots[T.takes]? with
        | none => rw [e4 hq]; omega
        | some z => rw [e3 z hq]; exact h.gen _ z hq
      · have hk : k < T.slots.length := by
          have h1 := (List.getElem?_eq_some_iff.1 hy).1
          have h2 := A.slen
          have h3 := took_lt T hG.f
          have h4 : S'.slots.length = T.took.slots.length := by rw [r.slen, place_slen]; simp [HSt.toAdd]
          by_cases hf : T.free = 0
          · have : T.takes = T.slots.length := by simp [HSt.takes, hf]
            omega
          · have : T.took.slots.length = T.slots.length := by
              simp only [HSt.took, if_neg hf]; split <;> rfl
            omega
        obtain ⟨y', e1, _, e3⟩ := A.slot k _ (List.getElem?_eq_getElem hk) c
        rw [hy] at e1; injection e1 with e1; subst e1
        rw [e3]; exact h.gen k _ (List.getElem?_eq_getElem hk)
  rcases h.takes with ⟨c, e1, e2⟩ | ⟨L', y, c, e1, e2, e3, e4, e5⟩
  · refine ⟨[], base [] (fun _ _ => by simp) (by simp) ?_⟩
    show S'.free = 0
    rw [hfree]; simp [HSt.took, c]
  · have nd := h.fnd
    rw [e1] at nd
    have nd' := List.nodup_cons.1 nd
    refine ⟨L', base L' ?_ nd'.2 ?_⟩
    · intro x hx
      rcases (A.mem x).1 hx with hx | rfl
      · intro q; exact h.fdis x hx (by rw [e1]; simp [q])
      · simpa using nd'.1
    · rw [hfree, e4]
      refine Chain.congr (fun a ha => ?_) e5
      have haL : a ∈ L := by rw [e1]; simp [ha]
      refine keep a (fun q => nd'.1 (q ▸ ha)) (fun x hx q => h.fdis x hx (q ▸ haL)) ?_
      cases hq : T.slots[a]? with
      | some z => exact (List.getElem?_eq_some_iff.1 hq).1
      | none =>
        exfalso
        have : ∀ (L0 : List Nat) (hh : Int), Chain (fun a => (T.slots[a]?).map Slt.pos) hh L0 → a ∈ L0 → False := by
          intro L0
          induction L0 with
          | nil => intro _ _ hm; simp at hm
          | cons b L0 ih =>
            intro hh ⟨_, v', c2, c3⟩ hm
            rcases List.mem_cons.1 hm with rfl | hm
            · simp [hq] at c2
            · exact ih _ c3 hm
        exact this _ _ e5 ha

theorem HInv.kept_per {S : HSt} {L P : List Nat} (h : HInv S L P) (per : Int) :
    ∃ P', HInv (S.keptP per) L P' ∧ (1 ≤ S.keeps ∧ (S.keeps - 1).toNat < (S.keptP per).pers.length ∧ (S.keeps - 1).toNat ∉ P' ∧ ∀ x ∈ (S.keptP per).ents, x.p ≠ S.keeps) ∧
      (S.fp = 0 ∨ (0 < S.fp ∧ ∃ nx, S.pers[(S.fp - 1).toNat]? = some nx ∧ 0 ≤ nx ∧ nx ≤ S.pers.length)) ∧ (S.keptP per).pers.length ≤ S.pers.length + 1 := by
  by_cases c : S.fp = 0
  · have hP : P = [] := by have := h.pch; rw [c] at this; exact this.zero
    subst hP
    have e : S.keptP per = { S with pers := S.pers ++ [per] } := by simp [HSt.keptP, c]
    have ek : S.keeps = (S.pers.length : Int) + 1 := by simp [HSt.keeps, c]
    refine ⟨[], ?_, ?_, .inl c, by rw [e]; simp⟩
    · rw [e]
      exact ⟨h.ord, h.pos, h.fch, h.fnd, h.fdis, c, by simp, fun x hx => by
        rcases h.pper x hx with q | ⟨q1, q2, q3⟩
        · exact .inl q
        · exact .inr ⟨q1, by simp; omega, by simp⟩, h.pinj, h.sle, h.sinj, h.dle, h.gen⟩
    · rw [e, ek]
      refine ⟨by omega, by simp, by simp, ?_⟩
      intro x hx q
      rcases h.pper x hx with r | ⟨r1, r2, _⟩ <;> omega
  · obtain ⟨a, P', v, e1, e2, e3, e4⟩ := h.pch.pos c
    have ha : (S.fp - 1).toNat = a := by omega
    have e3' : S.pers[a]? = some v := e3
    have e : S.keptP per = { S with fp := v, pers := S.pers.set a per } := by
      simp only [HSt.keptP, if_neg c, ha]
      rw [List.getD_eq_getElem?_getD, e3']; rfl
    have ek : S.keeps = (a : Int) + 1 := by simp only [HSt.keeps, if_neg c]; exact e2
    have nd := h.pnd
    rw [e1] at nd
    have nd' := List.nodup_cons.1 nd
    have hal := (List.getElem?_eq_some_iff.1 e3').1
    refine ⟨P', ?_, ?_, .inr ⟨by omega, v, by rw [ha]; exact e3', e4.nonneg, ?_⟩, by rw [e]; simp⟩
    · rw [e]
      refine ⟨h.ord, h.pos, h.fch, h.fnd, h.fdis, ?_, nd'.2, fun x hx => ?_, h.pinj, h.sle, h.sinj, h.dle, h.gen⟩
      · refine Chain.congr (fun b hb => ?_) e4
        show (S.pers.set a per)[b]? = S.pers[b]?
        rw [List.getElem?_set, if_neg (fun q : a = b => nd'.1 (q ▸ hb))]
      · rcases h.pper x hx with q | ⟨q1, q2, q3⟩
        · exact .inl q
        · exact .inr ⟨q1, by simpa using q2, fun q => q3 (by rw [e1]; exact List.mem_cons_of_mem _ q)⟩
    · rw [e, ek]
      refine ⟨by omega, by simp; omega, by simpa using nd'.1, ?_⟩
      intro x hx q
      rcases h.pper x hx with r | ⟨r1, r2, r3⟩
      · omega
      · exact r3 (by rw [e1, q]; simp)
    · cases P' with
      | nil => have : v = 0 := e4; omega
      | cons b P'' =>
        obtain ⟨c1, v2, c2, _⟩ := e4
        have := (List.getElem?_eq_some_iff.1 (show S.pers[b]? = some v2 from c2)).1
        omega

theorem reset_inv {S S' : HSt} {L P : List Nat} {i : Nat} {x : Ent} {dl : Int} (h : HInv S L P) (hx : S.ents[i]? = some x) (hd : dl ≤ 9223372036854775807)
    (hs : Sifted ((({ S with armed := S.armed + 1 } : HSt)).place i ⟨dl, S.armed + 1, x.l, x.p⟩) S') :
    HInv S' L P ∧ (∀ z, z ∈ S'.ents ↔ (z ∈ S.ents ∧ z ≠ x) ∨ z = ⟨dl, S.armed + 1, x.l, x.p⟩) ∧ S'.ents.length = S.ents.length ∧ S'.slots.length = S.slots.length ∧ S'.armed = S.armed + 1 ∧ S'.pers = S.pers ∧
      (∀ (k : Nat) (y : Slt), S.slots[k]? = some y → ∃ y', S'.slots[k]? = some y' ∧ y'.v = y.v ∧ y'.gen = y.gen) := by
  obtain ⟨o1, p1, r⟩ := hs
  have hil := (List.getElem?_eq_some_iff.1 hx).1
  have hxm : x ∈ S.ents := List.mem_iff_getElem?.2 ⟨i, hx⟩
  have memk : ∀ z, z ∈ (({ S with armed := S.armed + 1 } : HSt).place i ⟨dl, S.armed + 1, x.l, x.p⟩).ents ↔ (z ∈ S.ents ∧ z ≠ x) ∨ z = ⟨dl, S.armed + 1, x.l, x.p⟩ := by
    intro z
    rw [List.mem_iff_getElem?]
    constructor
    · rintro ⟨k, hk⟩
      rw [virt_get (by exact hil)] at hk
      by_cases c : k = i
      · subst c; simp at hk; exact .inr hk.symm
      · simp [c] at hk
        refine .inl ⟨List.mem_iff_getElem?.2 ⟨k, hk⟩, fun q => c ?_⟩
        subst q
        exact h.pos.inj hk hx rfl
    · rintro (⟨hz, hne⟩ | rfl)
      · obtain ⟨k, hk⟩ := List.mem_iff_getElem?.1 hz
        have c : k ≠ i := fun q => hne (by subst q; rw [hk] at hx; injection hx)
        exact ⟨k, by rw [virt_get (by exact hil)]; simp [c]; exact hk⟩
      · exact ⟨i, by rw [virt_get (by exact hil)]; simp⟩
  have hmem : ∀ z, z ∈ S'.ents ↔ (z ∈ S.ents ∧ z ≠ x) ∨ z = ⟨dl, S.armed + 1, x.l, x.p⟩ := fun z => (r.mem z).trans (memk z)
  have hslot : ∀ (k : Nat) (y : Slt), S.slots[k]? = some y → ∃ y', S'.slots[k]? = some y' ∧ y'.v = y.v ∧ y'.gen = y.gen ∧ (k ∈ L → y'.pos = y.pos) := by
    intro k y hy
    have h1 : (({ S with armed := S.armed + 1 } : HSt).place i ⟨dl, S.armed + 1, x.l, x.p⟩).slots[k]? = if x.l.toNat = k then some { y with pos := (i : Int) } else some y := by
      rw [place_slot]
      simp only
      rw [hy]; split <;> rfl
    by_cases c : x.l.toNat = k
    · rw [if_pos c] at h1
      obtain ⟨y', e1, e2, e3, _⟩ := r.slot k _ h1
      exact ⟨y', e1, e2, e3, fun q => absurd (c ▸ q) (h.fdis x hxm)⟩
    · rw [if_neg c] at h1
      obtain ⟨y', e1, e2, e3, e4⟩ := r.slot k _ h1
      refine ⟨y', e1, e2, e3, fun q => e4 (fun z hz => ?_)⟩
      rcases (memk z).1 hz with ⟨hz, _⟩ | rfl
      · exact fun t => h.fdis z hz (t ▸ q)
      · exact c
  refine ⟨⟨o1, p1, ?_, h.fnd, ?_, ?_, h.pnd, ?_, ?_, ?_, ?_, ?_, ?_⟩, hmem, by rw [r.len, place_len], by rw [r.slen, place_slen], by rw [r.armed]; rfl, by rw [r.pers]; rfl, fun k y hy => ?_⟩
  · have hfree : S'.free = S.free := by rw [r.free]; rfl
    rw [hfree]
    refine Chain.congr (fun a ha => ?_) h.fch
    cases hq : S.slots[a]? with
    | some y =>
      obtain ⟨y', e1, _, _, e4⟩ := hslot a y hq
      rw [e1]; simp [e4 ha]
    | none =>
      have : S'.slots[a]? = none := by
        rw [List.getElem?_eq_none_iff] at hq ⊢
        have : S'.slots.length = S.slots.length := by rw [r.slen, place_slen]
        omega
      rw [this]
  · intro z hz
    rcases (hmem z).1 hz with ⟨hz, _⟩ | rfl
    · exact h.fdis z hz
    · exact h.fdis x hxm
  · have e1 : S'.fp = S.fp := by rw [r.fp]; rfl
    have e2 : S'.pers = S.pers := by rw [r.pers]; rfl
    rw [e1, e2]; exact h.pch
  · have e2 : S'.pers = S.pers := by rw [r.pers]; rfl
    intro z hz
    rw [e2]
    rcases (hmem z).1 hz with ⟨hz, _⟩ | rfl
    · exact h.pper z hz
    · exact h.pper x hxm
  · intro z hz t ht e hne
    rcases (hmem z).1 hz with ⟨hz, hz'⟩ | rfl <;> rcases (hmem t).1 ht with ⟨ht, ht'⟩ | rfl
    · exact h.pinj z hz t ht e hne
    · exact absurd (h.pinj z hz x hxm e hne) hz'
    · exact absurd (h.pinj x hxm t ht e hne).symm ht'
    · rfl
  · have e1 : S'.armed = S.armed + 1 := by rw [r.armed]; rfl
    intro z hz
    rw [e1]
    rcases (hmem z).1 hz with ⟨hz, _⟩ | rfl
    · have := h.sle z hz; omega
    · simp
  · intro z hz t ht e
    rcases (hmem z).1 hz with ⟨hz, hz'⟩ | rfl <;> rcases (hmem t).1 ht with ⟨ht, ht'⟩ | rfl
    · exact h.sinj z hz t ht e
    · have := h.sle z hz; simp only at e; omega
    · have := h.sle t ht; simp only at e; omega
    · rfl
  · intro z hz
    rcases (hmem z).1 hz with ⟨hz, _⟩ | rfl
    · exact h.dle z hz
    · exact hd
  · intro k y hy
    have hk : k < S.slots.length := by
      have h1 := (List.getElem?_eq_some_iff.1 hy).1
      have : S'.slots.length = S.slots.length := by rw [r.slen, place_slen]
      omega
    obtain ⟨y', e1, _, e3, _⟩ := hslot k _ (List.getElem?_eq_getElem hk)
    rw [hy] at e1; injection e1 with e1; subst e1
    rw [e3]; exact h.gen k _ (List.getElem?_eq_getElem hk)
  · obtain ⟨y', e1, e2, e3, _⟩ := hslot k y hy
    exact ⟨y', e1, e2, e3⟩

theorem freed_slots (S : HSt) (l : Nat) (y : Slt) (k : Nat) : (S.freed l y).slots[k]? = if k = l then (S.slots[k]?).map (fun _ => ⟨0, S.free, y.gen + 1⟩) else S.slots[k]? := by
  simp only [HSt.freed]
  rw [setPos_get, List.getElem?_modify, List.getElem?_modify]
  by_cases c : k = l
  · subst c
    simp only [if_true]
    cases S.slots[k]? <;> simp
  · rw [if_neg (Ne.symm c), if_neg c]
    simp [Ne.symm c]

theorem rel_ents (S : HSt) (l : Nat) (y : Slt) (p : Int) : (S.rel l y p).ents = S.ents := by unfold HSt.rel; split <;> rfl
theorem rel_slots (S : HSt) (l : Nat) (y : Slt) (p : Int) : (S.rel l y p).slots = (S.freed l y).slots := by unfold HSt.rel; split <;> rfl
theorem rel_free (S : HSt) (l : Nat) (y : Slt) (p : Int) : (S.rel l y p).free = (l : Int) + 1 := by unfold HSt.rel; split <;> rfl
theorem rel_armed (S : HSt) (l : Nat) (y : Slt) (p : Int) : (S.rel l y p).armed = S.armed := by unfold HSt.rel; split <;> rfl
theorem rel_plen (S : HSt) (l : Nat) (y : Slt) (p : Int) : (S.rel l y p).pers.length = S.pers.length := by
  unfold HSt.rel; split
  · rfl
  · simp [HSt.freedP, HSt.freed]

theorem stop_inv {S S1 : HSt} {L P : List Nat} {s : Nat} {x : Ent} {y1 : Slt} (h : HInv S L P) (hxm : x ∈ S.ents) (hxl : x.l = (s : Int)) (R : RemFacts S S1 x) (hy : S1.slots[s]? = some y1) :
    ∃ P', HInv (S1.rel s y1 x.p) (s :: L) P' := by
  have hne : ∀ z ∈ S1.ents, z.l.toNat ≠ s := by
    intro z hz q
    obtain ⟨hz', hn⟩ := (R.mem z).1 hz
    exact hn (h.linj hz' hxm (by have := (h.l0 hz').1; omega))
  have sl := freed_slots S1 s y1
  have hmemS : ∀ z ∈ S1.ents, z ∈ S.ents := fun z hz => ((R.mem z).1 hz).1
  have hpos : PosOK (S1.rel s y1 x.p) := by
    intro k z hz
    rw [rel_ents] at hz
    obtain ⟨z0, y, hy, py⟩ := R.pos k z hz
    refine ⟨z0, y, ?_, py⟩
    rw [rel_slots, sl, if_neg (hne z (List.mem_iff_getElem?.2 ⟨k, hz⟩))]
    exact hy
  have hord : Ord (S1.rel s y1 x.p) := by
    intro k a b k0 ha hb
    rw [rel_ents] at ha hb
    exact R.ord k a b k0 ha hb
  have hsL : s ∉ L := by have := h.fdis x hxm; rw [hxl] at this; simpa using this
  have hch : Chain (fun a => ((S1.rel s y1 x.p).slots[a]?).map Slt.pos) (S1.rel s y1 x.p).free (s :: L) := by
    refine ⟨rel_free _ _ _ _, S.free, ?_, ?_⟩
    · simp only
      rw [rel_slots, sl, if_pos rfl, hy]
      simp [R.free]
    · refine Chain.congr (fun a ha => ?_) h.fch
      have hane : a ≠ s := fun q => hsL (q ▸ ha)
      rw [rel_slots, sl, if_neg hane]
      cases hq : S.slots[a]? with
      | some y =>
        obtain ⟨y', e1, _, _, e4⟩ := R.slot a y hq
        rw [e1]
        simp [e4 (fun z hz q => h.fdis z (hmemS z hz) (q ▸ ha))]
      | none =>
        have : S1.slots[a]? = none := by
          rw [List.getElem?_eq_none_iff] at hq ⊢
          have := R.slen; omega
        rw [this]
  have base : ∀ P', (S1.rel s y1 x.p).pers.length = S.pers.length → Chain (fun a => (S1.rel s y1 x.p).pers[a]?) (S1.rel s y1 x.p).fp P' → P'.Nodup → (∀ z ∈ S1.ents, z.p = 0 ∨ (z.p - 1).toNat ∉ P') → HInv (S1.rel s y1 x.p) (s :: L) P' := by
    intro P' b0 b1 b2 b3
    refine ⟨hord, hpos, hch, List.nodup_cons.2 ⟨hsL, h.fnd⟩, ?_, b1, b2, ?_, ?_, ?_, ?_, ?_, ?_⟩
    · intro z hz q
      rw [rel_ents] at hz
      rcases List.mem_cons.1 q with q | q
      · exact hne z hz q
      · exact h.fdis z (hmemS z hz) q
    · intro z hz
      rw [rel_ents] at hz
      rw [b0]
      rcases h.pper z (hmemS z hz) with q | ⟨q1, q2, _⟩
      · exact .inl q
      · rcases b3 z hz with t | t
        · exact .inl t
        · exact .inr ⟨q1, q2, t⟩
    · intro z hz t ht
      rw [rel_ents] at hz ht
      exact h.pinj z (hmemS z hz) t (hmemS t ht)
    · intro z hz
      rw [rel_ents] at hz
      rw [rel_armed, R.armed]; exact h.sle z (hmemS z hz)
    · intro z hz t ht
      rw [rel_ents] at hz ht
      exact h.sinj z (hmemS z hz) t (hmemS t ht)
    · intro z hz
      rw [rel_ents] at hz
      exact h.dle z (hmemS z hz)
    · intro k y hyk
      rw [rel_slots, sl] at hyk
      by_cases c : k = s
      · subst c
        rw [if_pos rfl, hy] at hyk
        simp at hyk; subst hyk
        simp only
        have hk : k < S.slots.length := by have := (List.getElem?_eq_some_iff.1 hy).1; have := R.slen; omega
        obtain ⟨y', e1, _, e3, _⟩ := R.slot k _ (List.getElem?_eq_getElem hk)
        rw [hy] at e1; injection e1 with e1; subst e1
        have := h.gen k _ (List.getElem?_eq_getElem hk)
        omega
      · rw [if_neg c] at hyk
        have hk : k < S.slots.length := by have := (List.getElem?_eq_some_iff.1 hyk).1; have := R.slen; omega
        obtain ⟨y', e1, _, e3, _⟩ := R.slot k _ (List.getElem?_eq_getElem hk)
        rw [hyk] at e1; injection e1 with e1; subst e1
        rw [e3]; exact h.gen k _ (List.getElem?_eq_getElem hk)
  have hplen : (S1.rel s y1 x.p).pers.length = S.pers.length := by rw [rel_plen, R.pers]
  by_cases c : x.p = 0
  · refine ⟨P, base P hplen ?_ h.pnd ?_⟩
    · simp only [HSt.rel, if_pos c, HSt.freed]
      rw [R.fp, R.pers]; exact h.pch
    · intro z hz
      rcases h.pper z (hmemS z hz) with q | ⟨_, _, q⟩
      · exact .inl q
      · exact .inr q
  · obtain ⟨q1, q2, q3⟩ := (h.pper x hxm).resolve_left c
    refine ⟨(x.p - 1).toNat :: P, base _ hplen ?_ (List.nodup_cons.2 ⟨q3, h.pnd⟩) ?_⟩
    · simp only [HSt.rel, if_neg c, HSt.freedP, HSt.freed]
      refine ⟨rfl, S.fp, ?_, ?_⟩
      · show (S1.pers.set (x.p - 1).toNat S1.fp)[(x.p - 1).toNat]? = some S.fp
        rw [List.getElem?_set, R.pers, if_pos rfl, if_pos q2, R.fp]
      · refine Chain.congr (fun a ha => ?_) h.pch
        show (S1.pers.set (x.p - 1).toNat S1.fp)[a]? = S.pers[a]?
        rw [List.getElem?_set, if_neg (fun q : (x.p - 1).toNat = a => q3 (q ▸ ha)), R.pers]
    · intro z hz
      rcases h.pper z (hmemS z hz) with t | ⟨t1, _, t3⟩
      · exact .inl t
      · refine .inr (fun q => ?_)
        rcases List.mem_cons.1 q with q | q
        · have : z.p = x.p := by omega
          exact ((R.mem z).1 hz).2 (h.pinj z (hmemS z hz) x hxm this (by omega))
        · exact t3 q
end Go.Proofs.Ybulkadzc
