import Derived.Test.YbulkadzcRelease
namespace Go.Proofs.Ybulkadzc
open Go.RowKit

/-- What remove leaves. -/
def Removed (S : HSt) (i : Nat) (S' : HSt) : Prop :=
  (i + 1 = S.ents.length ∧ S' = S.cut) ∨ (i + 1 < S.ents.length ∧ ∃ x, S.ents[S.ents.length - 1]? = some x ∧ Sifted (S.cut.place i x) S')

theorem cut_get (S : HSt) (k : Nat) : S.cut.ents[k]? = if k + 1 < S.ents.length then S.ents[k]? else none := by
  simp only [HSt.cut]
  rw [List.getElem?_dropLast]
  split <;> split <;> first | rfl | omega

theorem cut_ord {S : HSt} (h : Ord S) : Ord S.cut := by
  intro k x y k0 hx hy
  rw [cut_get] at hx hy
  split at hx
  · split at hy
    · exact h k x y k0 hx hy
    · cases hy
  · cases hx

theorem cut_pos {S : HSt} (h : PosOK S) : PosOK S.cut := by
  intro k x hx
  rw [cut_get] at hx
  split at hx
  · exact h k x hx
  · cases hx

theorem cutplace_pos {S : HSt} {i : Nat} {x : Ent} (h : PosOK S) (hi : i + 1 < S.ents.length) (hx : S.ents[S.ents.length - 1]? = some x) : PosOK (S.cut.place i x) := by
  have hl : S.cut.ents.length = S.ents.length - 1 := by simp [HSt.cut]
  intro k z hz
  rw [virt_get (by omega)] at hz
  by_cases c : k = i
  · subst c
    simp at hz; subst hz
    obtain ⟨x0, y, hy, _⟩ := h _ x hx
    refine ⟨x0, ?_⟩
    rw [place_slot, if_pos rfl]
    exact ⟨_, by simp only [HSt.cut]; rw [hy]; rfl, rfl⟩
  · simp [c] at hz
    rw [cut_get] at hz
    split at hz
    · obtain ⟨z0, y, hy, py⟩ := h k z hz
      have hne : x.l.toNat ≠ z.l.toNat := fun q => by
        have := h.inj hz hx (by have := (h _ x hx).1; omega)
        omega
      exact ⟨z0, y, by rw [place_slot, if_neg hne]; exact hy, py⟩
    · cases hz

/-- Everything that remove keeps. -/
structure RemFacts (S S' : HSt) (e : Ent) : Prop where
  ord : Ord S'
  pos : PosOK S'
  mem : ∀ x, x ∈ S'.ents ↔ x ∈ S.ents ∧ x ≠ e
  len : S'.ents.length + 1 = S.ents.length
  slen : S'.slots.length = S.slots.length
  slot : ∀ k y, S.slots[k]? = some y → ∃ y', S'.slots[k]? = some y' ∧ y'.v = y.v ∧ y'.gen = y.gen ∧ ((∀ x ∈ S'.ents, x.l.toNat ≠ k) → y'.pos = y.pos)
  free : S'.free = S.free
  armed : S'.armed = S.armed
  pers : S'.pers = S.pers
  fp : S'.fp = S.fp

theorem removed_facts {S S' : HSt} {i : Nat} {e : Ent} (ho : Ord S) (h : PosOK S) (he : S.ents[i]? = some e) (hr : Removed S i S') : RemFacts S S' e := by
  have memk : ∀ x, (x ∈ S.ents ∧ x ≠ e) ↔ ∃ k, k ≠ i ∧ S.ents[k]? = some x := by
    intro x
    constructor
    · rintro ⟨hx, hne⟩
      obtain ⟨k, hk⟩ := List.mem_iff_getElem?.1 hx
      exact ⟨k, fun c => hne (by subst c; rw [hk] at he; injection he), hk⟩
    · rintro ⟨k, hne, hk⟩
      exact ⟨List.mem_iff_getElem?.2 ⟨k, hk⟩, fun c => hne (by subst c; exact h.inj hk he rfl)⟩
  have hil := (List.getElem?_eq_some_iff.1 he).1
  rcases hr with ⟨hi, rfl⟩ | ⟨hi, x, hx, hs⟩
  · refine ⟨cut_ord ho, cut_pos h, ?_, by simp [HSt.cut]; omega, rfl, fun k y hy => ⟨y, hy, rfl, rfl, fun _ => rfl⟩, rfl, rfl, rfl, rfl⟩
    intro x
    rw [memk, List.mem_iff_getElem?]
    constructor
    · rintro ⟨k, hk⟩
      rw [cut_get] at hk
      split at hk
      · exact ⟨k, by omega, hk⟩
      · cases hk
    · rintro ⟨k, hne, hk⟩
      have := (List.getElem?_eq_some_iff.1 hk).1
      exact ⟨k, by rw [cut_get, if_pos (by omega)]; exact hk⟩
  · obtain ⟨o1, p1, r1⟩ := hs
    have hl : S.cut.ents.length = S.ents.length - 1 := by simp [HSt.cut]
    have hmem : ∀ z, z ∈ (S.cut.place i x).ents ↔ z ∈ S.ents ∧ z ≠ e := by
      intro z
      rw [memk, List.mem_iff_getElem?]
      constructor
      · rintro ⟨k, hk⟩
        rw [virt_get (by omega)] at hk
        by_cases c : k = i
        · subst c; simp at hk; subst hk; exact ⟨_, by omega, hx⟩
        · simp [c] at hk
          rw [cut_get] at hk
          split at hk
          · exact ⟨k, c, hk⟩
          · cases hk
      · rintro ⟨k, hne, hk⟩
        have hkl := (List.getElem?_eq_some_iff.1 hk).1
        by_cases c : k = S.ents.length - 1
        · subst c
          rw [hx] at hk; injection hk with hk; subst hk
          exact ⟨i, by rw [virt_get (by omega)]; simp⟩
        · exact ⟨k, by rw [virt_get (by omega)]; simp [hne]; rw [cut_get, if_pos (by omega)]; exact hk⟩
    refine ⟨o1, p1, fun z => (r1.mem z).trans (hmem z), by rw [r1.len, place_len, hl]; omega, by rw [r1.slen, place_slen]; rfl, ?_, r1.free, r1.armed, r1.pers, r1.fp⟩
    intro k y hy
    have hy0 : (S.cut.place i x).slots[k]? = if x.l.toNat = k then some { y with pos := (i : Int) } else some y := by
      rw [place_slot]
      have : S.cut.slots[k]? = some y := hy
      rw [this]; split <;> rfl
    by_cases c : x.l.toNat = k
    · rw [if_pos c] at hy0
      obtain ⟨y', e1, e2, e3, e4⟩ := r1.slot k _ hy0
      refine ⟨y', e1, e2, e3, fun hz => absurd c (hz x ((r1.mem x).2 (List.mem_iff_getElem?.2 ⟨i, by rw [virt_get (by omega)]; simp⟩)))⟩
    · rw [if_neg c] at hy0
      obtain ⟨y', e1, e2, e3, e4⟩ := r1.slot k _ hy0
      exact ⟨y', e1, e2, e3, fun hz => e4 (fun z hz' => hz z ((r1.mem z).2 hz'))⟩

theorem remove_any (F : Nat → Prop) (hb : Nat) (S : HSt) (i : Nat) (w : World) (hS : HP w F hb S) (hi : i < S.ents.length) (hn : S.ents.length ≤ 1000000) (hsl : S.slots.length ≤ 1000000) (ho : Ord S) (hp : PosOK S) :
    Calls Yba.prog 24 #[.pointer (some ⟨hb, 0, none⟩), .int .i64 i] w
      fun r w' => r = .returned (.tuple #[]) ∧ ∃ S', Removed S i S' ∧ HP w' F hb S' ∧ Fr w w' F F := by
  obtain ⟨m, hm⟩ : ∃ m, S.ents.length = m + 1 := ⟨S.ents.length - 1, by omega⟩
  by_cases c : i = m
  · subst c
    refine (remove_last F hb S i w hS hm hn).mono ?_
    rintro r w' ⟨rfl, h1, h2⟩
    exact ⟨rfl, _, .inl ⟨hm.symm, rfl⟩, h1, h2⟩
  · have hx : S.ents[m]? = some (S.ents[m]'(by omega)) := List.getElem?_eq_getElem (by omega)
    have hx' : S.ents[S.ents.length - 1]? = some (S.ents[m]'(by omega)) := by rw [show S.ents.length - 1 = m from by omega]; exact hx
    refine (remove_mid F hb S i m _ w hS hm (by omega) hn hsl hx (cut_ord ho) (cutplace_pos hp (by omega) hx')).mono ?_
    rintro r w' ⟨rfl, S', hs, h1, h2⟩
    exact ⟨rfl, S', .inr ⟨by omega, _, hx', hs⟩, h1, h2⟩

/-- release's state, whatever the period. -/
def HSt.rel (S : HSt) (l : Nat) (y : Slt) (p : Int) : HSt := if p = 0 then S.freed l y else (S.freed l y).freedP (p - 1).toNat

theorem release_any (F : Nat → Prop) (hb : Nat) (S : HSt) (d s p : Int) (l : Nat) (y : Slt) (w : World) (hS : HP w F hb S) (hm : S.slots.length ≤ 1000000) (hy : S.slots[l]? = some y) (hg : 0 ≤ y.gen ∧ y.gen ≤ 1000000)
    (hp : p = 0 ∨ (1 ≤ p ∧ (p - 1).toNat < S.pers.length)) (hqb : S.pers.length ≤ 1000000) (hfp : 0 ≤ S.fp ∧ S.fp ≤ 1000000) :
    Calls Yba.prog 25 #[.pointer (some ⟨hb, 0, none⟩), .agg #[.int .i64 d, .int .u64 s, .int .u32 l, .int .u32 p]] w
      fun r w' => r = .returned (.int .i64 y.v) ∧ HP w' F hb (S.rel l y p) ∧ Fr w w' F F := by
  by_cases c : p = 0
  · subst c
    exact release_one F hb S d s l y w hS hm hy hg
  · obtain ⟨h1, h2⟩ := hp.resolve_left c
    unfold HSt.rel
    rw [if_neg c]
    obtain ⟨q, hq⟩ : ∃ q : Nat, p = (q : Int) + 1 := ⟨(p - 1).toNat, by omega⟩
    subst hq
    have e : ((q : Int) + 1 - 1).toNat = q := by omega
    rw [e] at h2 ⊢
    exact release_per F hb S d s l q y w hS hm hy hg h2 hqb hfp

set_option maxHeartbeats 1000000 in
theorem Stop_dead (F : Nat → Prop) (hb : Nat) (S : HSt) (s : Nat) (g : Int) (w : World) (hS : HP w F hb S) (hm : S.slots.length ≤ 1000000) (hp : pendB S s g = false) :
    Calls Yba.prog 20 #[.pointer (some ⟨hb, 0, none⟩), .agg #[.int .u32 s, .int .u32 g]] w
      fun r w' => r = .returned (.bool false) ∧ Ext w w' := by
  go_enter Yba.func20, Yba.ntmps20
  go_wp2_with fail
  refine (pending_ext F hb S s g _ (hS.ext ((Ext.refl w).alloc _)) hm).mono ?_
  rintro r W1 ⟨rfl, e1⟩
  rw [hp]
  go_wp2_with fail
  go_ret
  exact ⟨rfl, ((Ext.refl w).alloc _).trans e1⟩

set_option maxHeartbeats 2000000 in
theorem Stop_live (F : Nat → Prop) (hb : Nat) (S : HSt) (s p : Nat) (g : Int) (y : Slt) (x : Ent) (w : World) (hS : HP w F hb S) (hm : S.slots.length ≤ 1000000) (hn : S.ents.length ≤ 1000000)
    (hy : S.slots[s]? = some y) (hg : y.gen = g) (hp : y.pos = (p : Int)) (hx : S.ents[p]? = some x) (hxl : x.l = (s : Int)) (ho : Ord S) (hpos : PosOK S) (hgb : 0 ≤ g ∧ g ≤ 1000000)
    (hper : x.p = 0 ∨ (1 ≤ x.p ∧ (x.p - 1).toNat < S.pers.length)) (hqb : S.pers.length ≤ 1000000) (hfp : 0 ≤ S.fp ∧ S.fp ≤ 1000000) :
    Calls Yba.prog 20 #[.pointer (some ⟨hb, 0, none⟩), .agg #[.int .u32 s, .int .u32 g]] w
      fun r w' => r = .returned (.bool true) ∧ ∃ S1 y1, Removed S p S1 ∧ S1.slots[s]? = some y1 ∧ HP w' F hb (S1.rel s y1 x.p) ∧ Fr w w' F F := by
  have hpe : pendB S s g = true := by simp [pendB, hy, hg]
  have hsl := (List.getElem?_eq_some_iff.1 hy).1
  have hpl := (List.getElem?_eq_some_iff.1 hx).1
  go_enter Yba.func20, Yba.ntmps20
  go_wp2_with fail
  have bx : Hnd (w.alloc (.cells #[.int .u32 s, .int .u32 g] 29)) w.heap.size s g := heap_new_at _ _ _ rfl
  have hS1 := hS.ext ((Ext.refl w).alloc (.cells #[.int .u32 s, .int .u32 g] 29))
  refine (pending_ext F hb S s g _ hS1 hm).mono ?_
  rintro r W1 ⟨rfl, e1⟩
  rw [hpe]
  have hS2 := hS1.ext e1
  have bx2 := bx.ext e1
  have ew : Ext w W1 := ((Ext.refl w).alloc _).trans e1
  clear hS1 bx e1 hS
  obtain ⟨ev, sv, pv, H⟩ := hS2
  obtain ⟨eb, ec, rfl, hec, hlt1⟩ := ownsRow_form H.ents (by omega)
  obtain ⟨sb, sc, rfl, hsc, hlt2⟩ := ownsRow_form H.slots (by omega)
  obtain ⟨h0, h1, _⟩ := H.cells
  obtain ⟨_, q1, _⟩ := H.sltAt hy
  obtain ⟨c0, c1, c2, c3⟩ := H.entAt hx
  obtain ⟨d0, d1⟩ := bx2.cells
  rw [hp] at q1
  rw [hxl] at c2
  have i1 : (0 : Int) ≤ (s : Int) := by omega
  have i2 : (s : Int) < (S.slots.length : Int) := by omega
  have i3 : (0 : Int) ≤ (p : Int) := by omega
  have i4 : (p : Int) < (S.ents.length : Int) := by omega
  have HF : Hid (S.slots[s]? = some y ∧ y.gen = g ∧ S.ents[p]? = some x) := ⟨hy, hg, hx⟩
  have HO : Hid (Ord S ∧ PosOK S) := ⟨ho, hpos⟩
  have HL : Hid (x.l = (s : Int)) := hxl
  clear hy hp hx hg hpe ho hpos hxl
  generalize w.heap.size = B at bx2 d0 d1 ⊢
  go_wp2_with fail
  go_quiet (fail)
  have eq : Ext W1 (W1.drewN nq) := (Ext.refl W1).drewN nq
  have H2 := H.ext eq
  have ew2 := ew.trans eq
  clear eq H h0 h1 q1 c0 c1 c2 c3 d0 d1 bx2 ew
  generalize W1.drewN nq = W2 at H2 ew2 ⊢
  obtain ⟨c0, c1, c2, c3⟩ := H2.entAt HF.out.2.2
  rw [HL.out] at c2
  obtain ⟨h0, h1, _⟩ := H2.cells
  go_wp2_with fail
  have e3 : Ext W2 (W2.alloc (.cells #[.int .i64 x.d, .int .u64 x.s, .int .u32 s, .int .u32 x.p] 36)) := (Ext.refl W2).alloc _
  have b3 : Box (W2.alloc (.cells #[.int .i64 x.d, .int .u64 x.s, .int .u32 s, .int .u32 x.p] 36)) W2.heap.size x.d x.s s x.p := heap_new_at _ _ _ rfl
  have nB : ¬ F W2.heap.size := fun f => by have := H2.Flt _ f; omega
  have H3 := H2.ext e3
  have ew3 := ew2.trans e3
  clear H2 e3 ew2 h0 h1 c0 c1 c2 c3
  generalize W2.heap.size = Bx at b3 nB ⊢
  generalize W2.alloc (.cells #[.int .i64 x.d, .int .u64 x.s, .int .u32 s, .int .u32 x.p] 36) = W3 at H3 b3 ew3 ⊢
  refine (remove_any F hb S p _ ⟨_, _, _, H3⟩ hpl hn hm HO.out.1 HO.out.2).mono ?_
  rintro r W4 ⟨rfl, S1, hrem, hS4, fr4⟩
  have RF := removed_facts HO.out.1 HO.out.2 HF.out.2.2 hrem
  obtain ⟨y1, hy1, _, hgen, _⟩ := RF.slot s y HF.out.1
  have b4 := b3.kept (fr4.block _ b3.lt nB)
  have fw4 := (ew3.fr F).trans fr4
  obtain ⟨c0, c1, c2, c3⟩ := b4.cells
  have HR : Hid (Removed S p S1 ∧ S1.slots[s]? = some y1) := ⟨hrem, hy1⟩
  have HG : Hid (y1.gen = g) := hgen.trans HF.out.2.1
  have HPQ : Hid (S1.pers = S.pers ∧ S1.fp = S.fp ∧ S1.slots.length = S.slots.length) := ⟨RF.pers, RF.fp, RF.slen⟩
  clear hrem hy1 hgen RF H3 b3 fr4 ew3
  go_wp2_with fail
  refine (release_any F hb S1 x.d x.s x.p s y1 _ hS4 (by rw [HPQ.out.2.2]; exact hm) HR.out.2 (by rw [HG.out]; exact hgb) (by rw [HPQ.out.1]; exact hper) (by rw [HPQ.out.1]; exact hqb) (by rw [HPQ.out.2.1]; exact hfp)).mono ?_
  rintro r W5 ⟨rfl, hS5, fr5⟩
  go_wp2_with fail
  go_ret
  exact ⟨rfl, S1, y1, HR.out.1, HR.out.2, hS5, fw4.trans fr5⟩
end Go.Proofs.Ybulkadzc
