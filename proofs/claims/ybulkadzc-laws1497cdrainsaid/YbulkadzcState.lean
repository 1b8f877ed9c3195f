import Derived.Test.YbulkadzcCheck
namespace Go.Proofs.Ybulkadzc
open Go.RowKit

/-- Heap and model side by side, apart from each other and from the blocks of N; nothing older than w has turned. -/
def St (w wr : World) (hb mb : Nat) (S : HSt) (M : Mdl) (N : Nat → Prop) : Prop :=
  ∃ F FM : Nat → Prop, HP wr F hb S ∧ MP wr FM mb M ∧ (∀ k, F k → ¬ FM k) ∧ (∀ b, N b → b < wr.heap.size ∧ ¬ F b ∧ ¬ FM b) ∧ Fr w wr (fun _ => False) (fun k => F k ∨ FM k)

section
variable {w wr w' : World} {hb mb : Nat} {S S' : HSt} {M M' : Mdl} {N : Nat → Prop}
theorem St.ext (h : St w wr hb mb S M N) (e : Ext wr w') : St w w' hb mb S M N ∧ ∀ b, N b → w'.heap[b]? = wr.heap[b]? := by
  obtain ⟨F, FM, h1, h2, h3, h4, h5⟩ := h
  exact ⟨⟨F, FM, h1.ext e, h2.ext e, h3, fun b hb => ⟨Nat.lt_of_lt_of_le (h4 b hb).1 e.size, (h4 b hb).2⟩, h5.trans (e.fr _)⟩, fun b hb => e.blk (h4 b hb).1⟩
/-- A new block joins those that are kept. -/
theorem St.new (h : St w wr hb mb S M N) (o : Obj) : St w (wr.alloc o) hb mb S M (fun b => N b ∨ b = wr.heap.size) := by
  obtain ⟨F, FM, h1, h2, h3, h4, h5⟩ := h
  have e : Ext wr (wr.alloc o) := (Ext.refl wr).alloc o
  refine ⟨F, FM, h1.ext e, h2.ext e, h3, ?_, h5.trans (e.fr _)⟩
  intro b hb'
  rcases hb' with hb' | rfl
  · exact ⟨Nat.lt_of_lt_of_le (h4 b hb').1 e.size, (h4 b hb').2⟩
  · obtain ⟨_, _, _, H⟩ := h1
    obtain ⟨_, H2⟩ := h2
    exact ⟨by simp, fun f => by have := H.Flt _ f; omega, fun f => by have := H2.Flt _ f; omega⟩
theorem St.setN (h : St w wr hb mb S M N) {p : Addr} (hp : N p.block) (hw : w.heap.size ≤ p.block) (u : Value) : St w (wr.setCell p u) hb mb S M N := by
  obtain ⟨F, FM, h1, h2, h3, h4, h5⟩ := h
  obtain ⟨ev, sv, pv, H⟩ := h1
  obtain ⟨v, H2⟩ := h2
  exact ⟨F, FM, ⟨_, _, _, H.setOther (h4 _ hp).2.1 u⟩, ⟨_, H2.setOther (h4 _ hp).2.2 u⟩, h3, fun b hb => ⟨by simpa [World.setCell] using (h4 b hb).1, (h4 b hb).2⟩, h5.setNew hw u⟩
theorem St.forget (h : St w wr hb mb S M N) (N' : Nat → Prop) (hN : ∀ b, N' b → N b) : St w wr hb mb S M N' := by
  obtain ⟨F, FM, h1, h2, h3, h4, h5⟩ := h
  exact ⟨F, FM, h1, h2, h3, fun b hb => h4 b (hN b hb), h5⟩
end

section
variable {w wr : World} {hb mb : Nat} {S : HSt} {M : Mdl} {N : Nat → Prop}
/-- What a method of the heap needs, and what the state is behind it. -/
theorem St.heap (h : St w wr hb mb S M N) : ∃ F, HP wr F hb S ∧ ∀ (w' : World) (S' : HSt) (F' : Nat → Prop), HP w' F' hb S' → Fr wr w' F F' → St w w' hb mb S' M N ∧ ∀ b, N b → w'.heap[b]? = wr.heap[b]? := by
  obtain ⟨F, FM, h1, h2, h3, h4, h5⟩ := h
  refine ⟨F, h1, fun w' S' F' hp fr => ⟨⟨F', FM, hp, h2.fr fr (fun k hk f => h3 k f hk), ?_, ?_, ?_⟩, fun b hb => fr.block b (h4 b hb).1 (h4 b hb).2.1⟩⟩
  · obtain ⟨v, H2⟩ := h2
    intro k hk hm
    exact h3 k (fr.foot k (H2.Flt k hm) hk) hm
  · intro b hb'
    exact ⟨Nat.lt_of_lt_of_le (h4 b hb').1 fr.size, fun f => (h4 b hb').2.1 (fr.foot b (h4 b hb').1 f), (h4 b hb').2.2⟩
  · refine h5.trans ⟨fr.os, fr.tape, fr.output, fr.size, fun k hk hn => fr.block k hk (fun f => hn (.inl f)), fun k hk hh => ?_⟩
    rcases hh with hh | hh
    · exact .inl (fr.foot k hk hh)
    · exact .inr hh
theorem St.model (h : St w wr hb mb S M N) : ∃ FM, MP wr FM mb M ∧ ∀ (w' : World) (M' : Mdl) (F' : Nat → Prop), MP w' F' mb M' → Fr wr w' FM F' → St w w' hb mb S M' N ∧ ∀ b, N b → w'.heap[b]? = wr.heap[b]? := by
  obtain ⟨F, FM, h1, h2, h3, h4, h5⟩ := h
  refine ⟨FM, h2, fun w' M' F' hp fr => ⟨⟨F, F', h1.frG fr h3, hp, ?_, ?_, ?_⟩, fun b hb => fr.block b (h4 b hb).1 (h4 b hb).2.2⟩⟩
  · obtain ⟨_, _, _, H⟩ := h1
    intro k hk hm
    exact h3 k hk (fr.foot k (H.Flt k hk) hm)
  · intro b hb'
    exact ⟨Nat.lt_of_lt_of_le (h4 b hb').1 fr.size, (h4 b hb').2.1, fun f => (h4 b hb').2.2 (fr.foot b (h4 b hb').1 f)⟩
  · refine h5.trans ⟨fr.os, fr.tape, fr.output, fr.size, fun k hk hn => fr.block k hk (fun f => hn (.inr f)), fun k hk hh => ?_⟩
    rcases hh with hh | hh
    · exact .inl hh
    · exact .inr (fr.foot k hk hh)
theorem St.below (h : St w wr hb mb S M N) : Below w.heap.size w wr := by
  obtain ⟨F, FM, h1, h2, h3, h4, h5⟩ := h
  exact h5.below _ (Nat.le_refl _) (fun k hk => hk.elim)
theorem St.old (h : St w wr hb mb S M N) {k : Nat} (hk : k < w.heap.size) : wr.heap[k]? = w.heap[k]? := by
  obtain ⟨F, FM, h1, h2, h3, h4, h5⟩ := h
  exact h5.block k hk (fun f => f)
theorem St.size (h : St w wr hb mb S M N) : w.heap.size ≤ wr.heap.size := by
  obtain ⟨F, FM, h1, h2, h3, h4, h5⟩ := h
  exact h5.size
end

/-- The bookkeeping that run keeps. -/
structure Book (S : HSt) (M : Mdl) (n : Nat) (per : Bool) : Prop where
  inv : ∃ L P, HInv S L P
  bnd : Bnd S n
  rl : Rl S M
  len : M.hs.length ≤ n
  one : per = false → ∀ x ∈ S.ents, x.p = 0

def emptyM : Mdl := ⟨[], [], [], [], [], 0⟩
theorem empty_book (per : Bool) : Book emptyH emptyM 0 per := by
  refine ⟨⟨[], [], ?_⟩, ?_, ?_, by simp [emptyM], fun _ x h => by simp [emptyH] at h⟩
  · refine ⟨empty_good.ord, empty_good.pos, rfl, by simp, fun x h => by simp [emptyH] at h, rfl, by simp, fun x h => by simp [emptyH] at h, fun x h => by simp [emptyH] at h, fun x h => by simp [emptyH] at h, fun x h => by simp [emptyH] at h, fun x h => by simp [emptyH] at h, fun k y h => by simp [emptyH] at h⟩
  · exact ⟨by simp [emptyH], by simp [emptyH], by simp [emptyH], by simp [emptyH], by simp [emptyH], fun k y h => by simp [emptyH] at h⟩
  · exact ⟨rfl, rfl, rfl, rfl, rfl, fun k h e => by simp [emptyM] at e, fun k h e => by simp [emptyM] at e, fun j k h h' e => by simp [emptyM] at e, fun x h => by simp [emptyH] at h, rfl⟩

theorem Book.mono {S : HSt} {M : Mdl} {n m : Nat} {per : Bool} (h : Book S M n per) (hm : n ≤ m) : Book S M m per :=
  ⟨h.inv, h.bnd.mono hm, h.rl, by have := h.len; omega, h.one⟩
theorem Book.good {S : HSt} {M : Mdl} {n : Nat} {per : Bool} (h : Book S M n per) (hn : n ≤ 2000) : Good S := by
  obtain ⟨L, P, hI⟩ := h.inv
  exact hI.good h.bnd (by omega)

/-- An arming. -/
theorem book_add {T S' : HSt} {L P : List Nat} {M : Mdl} {n : Nat} {per : Bool} {d p v : Int} {y : Slt} (hI : HInv T L P) (hG : Good T) (bn : T.ents.length ≤ n) (bm : T.slots.length ≤ n) (bp : T.pers.length ≤ n + 1) (ba0 : 0 ≤ T.armed) (ba : T.armed ≤ n)
    (bg : ∀ (k : Nat) (y : Slt), T.slots[k]? = some y → y.gen ≤ n + 1) (hR : Rl T M) (hl : M.hs.length ≤ n) (hone : per = false → p = 0 ∧ ∀ x ∈ T.ents, x.p = 0) (hd : d ≤ 9223372036854775807)
    (hp : p = 0 ∨ (1 ≤ p ∧ (p - 1).toNat < T.pers.length ∧ (p - 1).toNat ∉ P ∧ ∀ x ∈ T.ents, x.p ≠ p))
    (hs : Sifted ((T.toAdd d p v).place T.ents.length ⟨d, T.armed + 1, T.takes, p⟩) S') (hy : S'.slots[T.takes]? = some y) : Book S' (M.push ⟨T.takes, y.gen⟩ d v) (n + 1) per := by
  have A := added_facts hG hs
  obtain ⟨L', hI'⟩ := added_inv hI hG hd hp hs
  refine ⟨⟨L', P, hI'⟩, ⟨by rw [A.len]; omega, by have := A.slen; omega, by rw [A.pers]; omega, by rw [A.armed]; omega, by rw [A.armed]; omega, ?_⟩, rl_add hR A hy, by simp [Mdl.push]; exact hl, ?_⟩
  · intro k z hz
    by_cases c : k = T.takes
    · subst c
      obtain ⟨y', e1, _, e3, e4⟩ := A.newslot
      rw [hz] at e1; injection e1 with e1; subst e1
      cases hq : T.slots[T.takes]? with
      | none => rw [e4 hq]; omega
      | some t => rw [e3 t hq]; have := bg _ t hq; omega
    · cases hq : T.slots[k]? with
      | some t =>
        obtain ⟨z', e1, _, e3⟩ := A.slot k t hq c
        rw [hz] at e1; injection e1 with e1; subst e1
        rw [e3]; have := bg _ t hq; omega
      | none =>
        exfalso
        have h1 := (List.getElem?_eq_some_iff.1 hz).1
        rw [List.getElem?_eq_none_iff] at hq
        have h2 := A.slen
        have h3 : k = T.slots.length := by omega
        have h4 : S'.slots.length = T.slots.length + 1 := by omega
        by_cases hf : T.free = 0
        · exact c (by simp [HSt.takes, hf, h3])
        · have h5 : S'.slots.length = T.took.slots.length := by rw [hs.2.2.slen, place_slen]; simp [HSt.toAdd]
          have h6 : T.took.slots.length = T.slots.length := by simp only [HSt.took, if_neg hf]; split <;> rfl
          omega
  · intro hq x hx
    rcases (A.mem x).1 hx with hx | rfl
    · exact (hone hq).2 x hx
    · exact (hone hq).1

/-- One-shot. -/
theorem Book.add {S S' : HSt} {M : Mdl} {n : Nat} {per : Bool} {d v : Int} {y : Slt} (h : Book S M n per) (hn : n ≤ 2000) (hd : d ≤ 9223372036854775807)
    (hs : Sifted ((S.toAdd d 0 v).place S.ents.length ⟨d, S.armed + 1, S.takes, 0⟩) S') (hy : S'.slots[S.takes]? = some y) : Book S' (M.push ⟨S.takes, y.gen⟩ d v) (n + 1) per := by
  obtain ⟨L, P, hI⟩ := h.inv
  have b := h.bnd
  exact book_add hI (h.good hn) b.n b.m (by have := b.p; omega) b.a0 b.a b.g h.rl h.len (fun q => ⟨rfl, h.one q⟩) hd (.inl rfl) hs hy

theorem kept_same (S : HSt) (per : Int) : (S.keptP per).ents = S.ents ∧ (S.keptP per).slots = S.slots ∧ (S.keptP per).armed = S.armed ∧ (S.keptP per).free = S.free := by
  unfold HSt.keptP; split <;> exact ⟨rfl, rfl, rfl, rfl⟩

/-- Periodic. -/
theorem Book.goodP {S : HSt} {M : Mdl} {n : Nat} (h : Book S M n true) (hn : n ≤ 2000) (q : Int) :
    Good (S.keptP q) ∧ (S.fp = 0 ∨ (0 < S.fp ∧ ∃ nx, S.pers[(S.fp - 1).toNat]? = some nx ∧ 0 ≤ nx ∧ nx ≤ 1000000)) := by
  obtain ⟨L, P, hI⟩ := h.inv
  have b := h.bnd
  obtain ⟨P', hK, _, hf, hpl⟩ := hI.kept_per q
  obtain ⟨e1, e2, e3, e4⟩ := kept_same S q
  refine ⟨hK.good (N := n + 1) ⟨by rw [e1]; have := b.n; omega, by rw [e2]; have := b.m; omega, by have := b.p; omega, by rw [e3]; exact b.a0, by rw [e3]; have := b.a; omega, fun k y hy => by rw [e2] at hy; have := b.g k y hy; omega⟩ (by omega), ?_⟩
  rcases hf with hf | ⟨h1, nx, h2, h3, h4⟩
  · exact .inl hf
  · exact .inr ⟨h1, nx, h2, h3, by have := b.p; omega⟩
theorem Book.addP {S S' : HSt} {M : Mdl} {n : Nat} {d v q : Int} {y : Slt} (h : Book S M n true) (hn : n ≤ 2000) (hd : d ≤ 9223372036854775807)
    (hs : Sifted (((S.keptP q).toAdd d S.keeps v).place (S.keptP q).ents.length ⟨d, (S.keptP q).armed + 1, (S.keptP q).takes, S.keeps⟩) S') (hy : S'.slots[(S.keptP q).takes]? = some y) : Book S' (M.push ⟨(S.keptP q).takes, y.gen⟩ d v) (n + 1) true := by
  obtain ⟨L, P, hI⟩ := h.inv
  have b := h.bnd
  obtain ⟨P', hK, hk, hf, hpl⟩ := hI.kept_per q
  obtain ⟨e1, e2, e3, e4⟩ := kept_same S q
  exact book_add hK (h.goodP hn q).1 (by rw [e1]; exact b.n) (by rw [e2]; exact b.m) (by have := b.p; omega) (by rw [e3]; exact b.a0) (by rw [e3]; exact b.a) (by rw [e2]; exact b.g) (rl_kept q h.rl) h.len (fun c => by cases c) hd (.inr hk) hs hy

theorem Book.reset {S S' : HSt} {M : Mdl} {n k s p : Nat} {per : Bool} {h : Hd} {x : Ent} {d : Int} (hB : Book S M n per) (hd : d ≤ 9223372036854775807) (hk : M.hs[k]? = some h) (hl : M.live[k]? = some true) (hx : S.ents[p]? = some x) (hxl : x.l = (s : Int)) (hs : h.s = (s : Int))
    (hsf : Sifted ((({ S with armed := S.armed + 1 } : HSt)).place p ⟨d, S.armed + 1, s, x.p⟩) S') : Book S' (M.reset k d) (n + 1) per := by
  obtain ⟨L, P, hI⟩ := hB.inv
  have b := hB.bnd
  rw [← hxl] at hsf
  obtain ⟨i1, i2, i3, i4, i5, i6, i7⟩ := reset_inv hI hx hd hsf
  have hxm : x ∈ S.ents := List.mem_iff_getElem?.2 ⟨p, hx⟩
  refine ⟨⟨L, P, i1⟩, ⟨by rw [i3]; have := b.n; omega, by rw [i4]; have := b.m; omega, by rw [i6]; have := b.p; omega, by rw [i5]; have := b.a0; omega, by rw [i5]; have := b.a; omega, ?_⟩, rl_reset hB.rl hk hl hxm (by rw [hxl, hs]) i2 i3 i5 i7, by have := hB.len; simp [Mdl.reset]; omega, ?_⟩
  · intro j y hy
    have hj : j < S.slots.length := by have := (List.getElem?_eq_some_iff.1 hy).1; omega
    obtain ⟨y', e1, _, e3⟩ := i7 j _ (List.getElem?_eq_getElem hj)
    rw [hy] at e1; injection e1 with e1; subst e1
    rw [e3]; have := b.g j _ (List.getElem?_eq_getElem hj); omega
  · intro hq z hz
    rcases (i2 z).1 hz with ⟨hz, _⟩ | rfl
    · exact hB.one hq z hz
    · exact hB.one hq x hxm

theorem Book.ceased {S S1 : HSt} {M : Mdl} {n k s p : Nat} {per : Bool} {h : Hd} {x : Ent} {y y1 : Slt} (hB : Book S M n per) (hk : M.hs[k]? = some h) (hl : M.live[k]? = some true) (hx : S.ents[p]? = some x) (hxl : x.l = (s : Int)) (hs : h.s = (s : Int))
    (hy : S.slots[s]? = some y) (hg : y.gen = h.g) (hrem : Removed S p S1) (hy1 : S1.slots[s]? = some y1) : Book (S1.rel s y1 x.p) (M.ceased k) (n + 1) per := by
  obtain ⟨L, P, hI⟩ := hB.inv
  have b := hB.bnd
  have hxm : x ∈ S.ents := List.mem_iff_getElem?.2 ⟨p, hx⟩
  have R := removed_facts hI.ord hI.pos hx hrem
  obtain ⟨P', hI'⟩ := stop_inv hI hxm hxl R hy1
  refine ⟨⟨_, P', hI'⟩, ⟨?_, ?_, by rw [rel_plen, R.pers]; have := b.p; omega, by rw [rel_armed, R.armed]; exact b.a0, by rw [rel_armed, R.armed]; have := b.a; omega, ?_⟩, rl_stop hI hB.rl hk hl hxm (by rw [hxl, hs]) hs R hy hg hy1, by have := hB.len; simp [Mdl.ceased]; omega, ?_⟩
  · rw [rel_ents]; have := R.len; have := b.n; omega
  · rw [rel_slots]
    have : (S1.freed s y1).slots.length = S1.slots.length := by simp [HSt.freed, setPos_len]
    rw [this, R.slen]; have := b.m; omega
  · intro j z hz
    rw [rel_slots, freed_slots] at hz
    have hj : j < S.slots.length := by
      by_cases c : j = s
      · rw [c]; exact (List.getElem?_eq_some_iff.1 hy).1
      · rw [if_neg c] at hz; have := (List.getElem?_eq_some_iff.1 hz).1; have := R.slen; omega
    obtain ⟨y', e1, _, e3, _⟩ := R.slot j _ (List.getElem?_eq_getElem hj)
    have hb := b.g j _ (List.getElem?_eq_getElem hj)
    by_cases c : j = s
    · subst c
      rw [if_pos rfl, hy1] at hz
      rw [hy1] at e1; injection e1 with e1; subst e1
      simp at hz; subst hz
      simp only; omega
    · rw [if_neg c, e1] at hz
      injection hz with hz; subst hz
      omega
  · intro hq z hz
    rw [rel_ents] at hz
    exact hB.one hq z ((R.mem z).1 hz).1
end Go.Proofs.Ybulkadzc
