import Derived.Test.YbulkadzcDown
namespace Go.Proofs.Ybulkadzc
open Go.RowKit

theorem HPv.drewN {w : World} {F : Nat → Prop} {hb : Nat} {S : HSt} {ev sv pv : Value} (H : HPv w F hb S ev sv pv) (n : Nat) : HPv (w.drewN n) F hb S ev sv pv := H.congr (Nat.le_refl _) (fun _ _ => rfl)
theorem Fr.drewN {a w : World} {F G : Nat → Prop} (h : Fr a w F G) (n : Nat) : Fr a (w.drewN n) F G := ⟨h.os, h.tape, h.output, h.size, h.block, h.foot⟩

/-- A sift's invariant. -/
def SInv (O : HSt → Nat → Prop) (S0 : HSt) (e : Ent) (T : HSt) (k : Nat) : Prop :=
  k < T.ents.length ∧ T.ents.length ≤ 1000000 ∧ T.slots.length ≤ 1000000 ∧ O (T.place k e) k ∧ PosOK (T.place k e) ∧ Rel S0 (T.place k e)

theorem SInv.fits {O : HSt → Nat → Prop} {S0 : HSt} {e : Ent} {T : HSt} {k : Nat} (h : SInv O S0 e T k) : Fits e T k := by
  obtain ⟨h1, h2, h3, _, h5, _⟩ := h
  have he := h5 k e (by rw [virt_get h1]; simp)
  obtain ⟨e0, y, hy, _⟩ := he
  have := (List.getElem?_eq_some_iff.1 hy).1
  rw [place_slen] at this
  refine ⟨h1, h2, h3, e0, this, fun j x hj hx => ?_⟩
  obtain ⟨x0, y, hy, _⟩ := h5 j x (by rw [virt_get h1]; simp [hj, hx])
  have := (List.getElem?_eq_some_iff.1 hy).1
  rw [place_slen] at this
  exact ⟨x0, this⟩

theorem SInv.len {O : HSt → Nat → Prop} {S0 : HSt} {e : Ent} {T : HSt} {k : Nat} (h : SInv O S0 e T k) : T.ents.length = S0.ents.length := by
  have := h.2.2.2.2.2.len
  rw [place_len] at this
  exact this

theorem SInv.next {O O' : HSt → Nat → Prop} {S0 : HSt} {e x : Ent} {T : HSt} {k c : Nat} (h : SInv O S0 e T k) (hne : k ≠ c) (hx : T.ents[c]? = some x)
    (ho : O' ((T.place k x).place c e) c) : SInv O' S0 e (T.place k x) c := by
  obtain ⟨h1, h2, h3, _, h5, h6⟩ := h
  have hc := (List.getElem?_eq_some_iff.1 hx).1
  exact ⟨by rw [place_len]; exact hc, by rw [place_len]; exact h2, by rw [place_slen]; exact h3, ho, step_pos h1 hne hx h5, h6.trans (step_rel h1 hne hx)⟩

/-- What a sift leaves. -/
def Sifted (S0 S' : HSt) : Prop := Ord S' ∧ PosOK S' ∧ Rel S0 S'

theorem up_ok (F : Nat → Prop) (hb : Nat) (S : HSt) (i : Nat) (e : Ent) (w : World) (S0 : HSt) (hS : HP w F hb S) (h0 : SInv OrdUp S0 e S i) :
    Calls Yba.prog 15 #[.pointer (some ⟨hb, 0, none⟩), .int .i64 i, .agg #[.int .i64 e.d, .int .u64 e.s, .int .u32 e.l, .int .u32 e.p]] w
      fun r w' => r = .returned (.tuple #[]) ∧ ∃ S', Sifted S0 S' ∧ HP w' F hb S' ∧ Fr w w' F F := by
  refine (up_any F hb S i e w (SInv OrdUp S0 e) hS h0 (fun T k h => h.fits) ?_).mono ?_
  · intro T k x h k0 hx hb
    exact h.next (by omega) hx (up_step h.1 k0 hx hb h.2.2.2.1)
  · rintro r w' ⟨rfl, T, k, hI, hx, hp, fr⟩
    exact ⟨rfl, _, ⟨up_done hI.1 hI.2.2.2.1 hx, hI.2.2.2.2.1, hI.2.2.2.2.2⟩, hp, fr⟩

theorem down_ok (F : Nat → Prop) (hb : Nat) (S : HSt) (i : Nat) (e : Ent) (w : World) (S0 : HSt) (hS : HP w F hb S) (h0 : SInv OrdDown S0 e S i) :
    Calls Yba.prog 16 #[.pointer (some ⟨hb, 0, none⟩), .int .i64 i, .agg #[.int .i64 e.d, .int .u64 e.s, .int .u32 e.l, .int .u32 e.p]] w
      fun r w' => r = .returned (.tuple #[]) ∧ ∃ S', Sifted S0 S' ∧ HP w' F hb S' ∧ Fr w w' F F := by
  refine (down_any F hb S i e w (SInv OrdDown S0 e) hS h0 (fun T k h => h.fits) (fun T k h => h.len.trans h0.len.symm) ?_).mono ?_
  · intro T k c x h hc hb
    exact h.next (by have := hc.2.1; have := hc.1; omega) hc.2.2.1 (down_step h.1 hc hb h.2.2.2.1)
  · rintro r w' ⟨rfl, T, k, hI, hx, hp, fr⟩
    refine ⟨rfl, _, ⟨?_, hI.2.2.2.2.1, hI.2.2.2.2.2⟩, hp, fr⟩
    rcases hx with hx | ⟨c, x, hc, hb⟩
    · exact down_done_leaf hI.1 hI.2.2.2.1 hx
    · exact down_done hI.1 hI.2.2.2.1 hc hb

set_option maxHeartbeats 1000000 in
theorem fix_ok (F : Nat → Prop) (hb : Nat) (S : HSt) (i : Nat) (e : Ent) (w : World) (hS : HP w F hb S) (hi : i < S.ents.length) (hn : S.ents.length ≤ 1000000) (hm : S.slots.length ≤ 1000000)
    (ho : Ord S) (hp : PosOK (S.place i e)) :
    Calls Yba.prog 8 #[.pointer (some ⟨hb, 0, none⟩), .int .i64 i, .agg #[.int .i64 e.d, .int .u64 e.s, .int .u32 e.l, .int .u32 e.p]] w
      fun r w' => r = .returned (.tuple #[]) ∧ ∃ S', Sifted (S.place i e) S' ∧ HP w' F hb S' ∧ Fr w w' F F := by
  have hnF : ¬ F w.heap.size := by
    obtain ⟨_, _, _, H⟩ := hS
    intro f; have := H.Flt _ f; omega
  obtain ⟨ev, sv, pv, H⟩ := hS
  by_cases hk : i = 0
  · have hi0 : SInv OrdDown (S.place i e) e S i := ⟨hi, hn, hm, fix_down hi ho (.inl hk), hp, Rel.refl _⟩
    have HI := (show Hid _ from hi0)
    clear hi0 ho hp
    have hd : decide (0 < i) = false := by simp [hk]
    clear hk
    go_enter Yba.func8, Yba.ntmps8
    go_wp2_with fail
    go_quiet (fail)
    go_wp2_with fail
    refine (down_ok F hb S i e _ (S.place i e) ⟨_, _, _, (H.alloc _).drewN _⟩ HI.out).mono ?_
    rintro r w' ⟨rfl, S', hs, hp, fr⟩
    go_wp2_with fail
    go_end0
    exact ⟨rfl, S', hs, hp, (((Fr.refl w F).alloc _).drewN _).trans fr⟩
  · obtain ⟨x, hx⟩ : ∃ x, S.ents[(i - 1) / 4]? = some x := ⟨_, List.getElem?_eq_getElem (by omega)⟩
    obtain ⟨eb, ec, rfl, hec, hlt1⟩ := ownsRow_form H.ents (by omega)
    obtain ⟨q, hq⟩ : ∃ q, q = (i - 1) / 4 := ⟨_, rfl⟩
    have hX : Hid (S.ents[(i - 1) / 4]? = some x) := hx
    have HO : Hid (Ord S ∧ PosOK (S.place i e)) := ⟨ho, hp⟩
    clear hx ho hp
    have hq' : Hid (q = (i - 1) / 4) := hq
    clear hq
    have k1 : (0 : Int) < (i : Int) := by omega
    have k2 : IntKind.i64.wrap ((i : Int) - 1) = (i : Int) - 1 := IntWalk.i64_in _ (by omega)
    have k2' : IntKind.i64.wrap (((i : Int) - 1).tdiv 4) = (q : Int) := by rw [IntWalk.i64_quo _ _ (by omega)]; have := hq'.out; omega
    have k3 : (0 : Int) ≤ (q : Int) := by omega
    have k4 : (q : Int) < (S.ents.length : Int) := by have := hq'.out; omega
    have k5 : 0 < i := by omega
    by_cases hbf : befB e.d e.s x.d x.s = true
    · have HI : Hid (SInv OrdUp (S.place i e) e S i) := ⟨hi, hn, hm, fix_up hi HO.out.1 (by omega) hX.out hbf, HO.out.2, Rel.refl _⟩
      go_enter Yba.func8, Yba.ntmps8
      go_wp2_with fail
      obtain ⟨b0, b1, b2, b3, bs⟩ := box_cells e (Fr.refl (w.alloc (.cells #[.int .i64 e.d, .int .u64 e.s, .int .u32 e.l, .int .u32 e.p] 36)) F) hnF
      have H1 := H.alloc (.cells #[.int .i64 e.d, .int .u64 e.s, .int .u32 e.l, .int .u32 e.p] 36)
      have hf1 := (Fr.refl w F).alloc (.cells #[.int .i64 e.d, .int .u64 e.s, .int .u32 e.l, .int .u32 e.p] 36)
      generalize w.alloc (.cells #[.int .i64 e.d, .int .u64 e.s, .int .u32 e.l, .int .u32 e.p] 36) = W1 at H1 b0 b1 b2 b3 bs hf1 ⊢
      obtain ⟨h0, _⟩ := H1.cells
      obtain ⟨c0, c1, c2, c3⟩ := H1.entAt hX.out
      rw [← hq'.out] at c0 c1 c2 c3
      go_region_held3 (fun w' => w'.cell? ⟨hb, 0, none⟩ = some (.slice (some ⟨eb, 0, none⟩) S.ents.length ec) ∧ w'.cell? ⟨w.heap.size, 0, none⟩ = some (.int .i64 e.d) ∧ w'.cell? ⟨w.heap.size, 1, none⟩ = some (.int .u64 e.s) ∧ w'.cell? ⟨w.heap.size, 2, none⟩ = some (.int .u32 e.l) ∧ w'.cell? ⟨w.heap.size, 3, none⟩ = some (.int .u32 e.p) ∧ w'.cell? ⟨eb, q * 4, none⟩ = some (.int .i64 x.d) ∧ w'.cell? ⟨eb, q * 4 + 1, none⟩ = some (.int .u64 x.s) ∧ w'.cell? ⟨eb, q * 4 + 2, none⟩ = some (.int .u32 x.l) ∧ w'.cell? ⟨eb, q * 4 + 3, none⟩ = some (.int .u32 x.p)) (go_keep)
        (first | (go_at_call 9; refine (before_any _ _ _ _ _ _ _ _ _).mono ?_; rintro r w' ⟨rfl, rfl⟩))
      go_wp2_with fail
      refine (up_ok F hb S i e _ (S.place i e) ⟨_, _, _, ((H1.alloc _).alloc _).drew⟩ HI.out).mono ?_
      rintro r w' ⟨rfl, S', hs, hp, fr⟩
      go_wp2_with fail
      go_end0
      exact ⟨rfl, S', hs, hp, (((hf1.alloc _).alloc _).drew).trans fr⟩
    · have HI : Hid (SInv OrdDown (S.place i e) e S i) := ⟨hi, hn, hm, fix_down hi HO.out.1 (.inr (fun y hy => by rw [hX.out] at hy; injection hy with hy; subst hy; simpa [bef] using hbf)), HO.out.2, Rel.refl _⟩
      go_enter Yba.func8, Yba.ntmps8
      go_wp2_with fail
      obtain ⟨b0, b1, b2, b3, bs⟩ := box_cells e (Fr.refl (w.alloc (.cells #[.int .i64 e.d, .int .u64 e.s, .int .u32 e.l, .int .u32 e.p] 36)) F) hnF
      have H1 := H.alloc (.cells #[.int .i64 e.d, .int .u64 e.s, .int .u32 e.l, .int .u32 e.p] 36)
      have hf1 := (Fr.refl w F).alloc (.cells #[.int .i64 e.d, .int .u64 e.s, .int .u32 e.l, .int .u32 e.p] 36)
      generalize w.alloc (.cells #[.int .i64 e.d, .int .u64 e.s, .int .u32 e.l, .int .u32 e.p] 36) = W1 at H1 b0 b1 b2 b3 bs hf1 ⊢
      obtain ⟨h0, _⟩ := H1.cells
      obtain ⟨c0, c1, c2, c3⟩ := H1.entAt hX.out
      rw [← hq'.out] at c0 c1 c2 c3
      go_region_held3 (fun w' => w'.cell? ⟨hb, 0, none⟩ = some (.slice (some ⟨eb, 0, none⟩) S.ents.length ec) ∧ w'.cell? ⟨w.heap.size, 0, none⟩ = some (.int .i64 e.d) ∧ w'.cell? ⟨w.heap.size, 1, none⟩ = some (.int .u64 e.s) ∧ w'.cell? ⟨w.heap.size, 2, none⟩ = some (.int .u32 e.l) ∧ w'.cell? ⟨w.heap.size, 3, none⟩ = some (.int .u32 e.p) ∧ w'.cell? ⟨eb, q * 4, none⟩ = some (.int .i64 x.d) ∧ w'.cell? ⟨eb, q * 4 + 1, none⟩ = some (.int .u64 x.s) ∧ w'.cell? ⟨eb, q * 4 + 2, none⟩ = some (.int .u32 x.l) ∧ w'.cell? ⟨eb, q * 4 + 3, none⟩ = some (.int .u32 x.p)) (go_keep)
        (first | (go_at_call 9; refine (before_any _ _ _ _ _ _ _ _ _).mono ?_; rintro r w' ⟨rfl, rfl⟩))
      go_wp2_with fail
      refine (down_ok F hb S i e _ (S.place i e) ⟨_, _, _, ((H1.alloc _).alloc _).drew⟩ HI.out).mono ?_
      rintro r w' ⟨rfl, S', hs, hp, fr⟩
      go_wp2_with fail
      go_end0
      exact ⟨rfl, S', hs, hp, (((hf1.alloc _).alloc _).drew).trans fr⟩
end Go.Proofs.Ybulkadzc
