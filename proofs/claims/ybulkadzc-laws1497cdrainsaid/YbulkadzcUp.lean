import Derived.Test.YbulkadzcPlace
namespace Go.Proofs.Ybulkadzc
open Go.RowKit

/-- What a sift's invariant must give: places in range. -/
def Fits (e : Ent) (T : HSt) (k : Nat) : Prop :=
  k < T.ents.length ∧ T.ents.length ≤ 1000000 ∧ T.slots.length ≤ 1000000 ∧ 0 ≤ e.l ∧ e.l.toNat < T.slots.length ∧
  ∀ (j : Nat) (x : Ent), j ≠ k → T.ents[j]? = some x → 0 ≤ x.l ∧ x.l.toNat < T.slots.length

/-- The box of an entry, behind whatever kept it. -/
theorem box_cells {w w' : World} {F F' : Nat → Prop} (e : Ent) (h : Fr (w.alloc (.cells #[.int .i64 e.d, .int .u64 e.s, .int .u32 e.l, .int .u32 e.p] 36)) w' F F') (hn : ¬ F w.heap.size) :
    w'.cell? ⟨w.heap.size, 0, none⟩ = some (.int .i64 e.d) ∧ w'.cell? ⟨w.heap.size, 1, none⟩ = some (.int .u64 e.s) ∧ w'.cell? ⟨w.heap.size, 2, none⟩ = some (.int .u32 e.l) ∧ w'.cell? ⟨w.heap.size, 3, none⟩ = some (.int .u32 e.p) ∧ w.heap.size < w'.heap.size := by
  have hs := h.size
  simp at hs
  refine ⟨?_, ?_, ?_, ?_, by omega⟩
  all_goals
    rw [h.cell (by simp) hn, World.cell?_alloc_at _ _ _ _ rfl]
    rfl

set_option maxHeartbeats 1000000 in
theorem up_any (F : Nat → Prop) (hb : Nat) (S : HSt) (i : Nat) (e : Ent) (w : World) (Inv : HSt → Nat → Prop) (hS : HP w F hb S) (h0 : Inv S i)
    (hfit : ∀ T k, Inv T k → Fits e T k)
    (hstep : ∀ T k x, Inv T k → 0 < k → T.ents[(k - 1) / 4]? = some x → bef e x = true → Inv (T.place k x) ((k - 1) / 4)) :
    Calls Yba.prog 15 #[.pointer (some ⟨hb, 0, none⟩), .int .i64 i, .agg #[.int .i64 e.d, .int .u64 e.s, .int .u32 e.l, .int .u32 e.p]] w
      fun r w' => r = .returned (.tuple #[]) ∧ ∃ T k, Inv T k ∧ (k = 0 ∨ ∀ x, T.ents[(k - 1) / 4]? = some x → bef e x = false) ∧ HP w' F hb (T.place k e) ∧ Fr w w' F F := by
  have hnF : ¬ F w.heap.size := by
    obtain ⟨_, _, _, H⟩ := hS
    intro f; have := H.Flt _ f; omega
  go_enter Yba.func15, Yba.ntmps15
  go_wp2
  go_loopw [1] (fun iv wr => ∃ (k : Nat) (T : HSt), iv = .int .i64 k ∧ Inv T k ∧ HP wr F hb T ∧ Fr (w.alloc (.cells #[.int .i64 e.d, .int .u64 e.s, .int .u32 e.l, .int .u32 e.p] 36)) wr F F) (fun iv _ => (intOf iv).toNat)
  case atStart =>
    obtain ⟨_, _, _, H⟩ := hS
    exact ⟨i, S, rfl, h0, ⟨_, _, _, H.alloc _⟩, Fr.refl _ _⟩
  case round =>
    obtain ⟨k, T, rfl, hI, hT, hfr⟩ := hrel
    obtain ⟨fk, fn, fm, fl0, fl, fx⟩ := hfit T k hI
    have hT' := hT
    obtain ⟨ev, sv, pv, H⟩ := hT'
    obtain ⟨b0, b1, b2, b3, bs⟩ := box_cells e hfr hnF
    by_cases hk : k = 0
    · subst hk
      go_wp2_with fail
      refine (place_any F hb T 0 e _ hT fk fn fm fl0 fl).mono ?_
      rintro r w' ⟨rfl, hp, fr⟩
      go_wp2_with fail
      go_end0
      exact ⟨rfl, T, 0, hI, .inl rfl, hp, ((Fr.refl w F).alloc _).trans (hfr.trans fr)⟩
    · obtain ⟨x, hx⟩ : ∃ x, T.ents[(k - 1) / 4]? = some x := ⟨_, List.getElem?_eq_getElem (by omega)⟩
      obtain ⟨g0, gl⟩ := fx _ x (by omega) hx
      obtain ⟨eb, ec, rfl, hec, hlt1⟩ := ownsRow_form H.ents (by omega)
      obtain ⟨h0, _⟩ := H.cells
      obtain ⟨c0, c1, c2, c3⟩ := H.entAt hx
      have hI' : Hid (Inv T k) := hI
      have hX : Hid (T.ents[(k - 1) / 4]? = some x) := hx
      obtain ⟨q, hq⟩ : ∃ q, q = (k - 1) / 4 := ⟨_, rfl⟩
      rw [← hq] at c0 c1 c2 c3
      have hq' : Hid (q = (k - 1) / 4) := hq
      clear hx hI hq
      have k1 : (0 : Int) < (k : Int) := by omega
      have k2 : ((k : Int) - 1) / 4 = (q : Int) := by have := hq'.out; omega
      have k3 : (0 : Int) ≤ (q : Int) := by omega
      have k4 : (q : Int) < (T.ents.length : Int) := by have := hq'.out; omega
      by_cases hbf : befB e.d e.s x.d x.s = true
      · 
        go_wp2_with fail
        simp only [k2]
        go_region_held3 (fun w' => w'.cell? ⟨hb, 0, none⟩ = some (.slice (some ⟨eb, 0, none⟩) T.ents.length ec) ∧ w'.cell? ⟨w.heap.size, 0, none⟩ = some (.int .i64 e.d) ∧ w'.cell? ⟨w.heap.size, 1, none⟩ = some (.int .u64 e.s) ∧ w'.cell? ⟨w.heap.size, 2, none⟩ = some (.int .u32 e.l) ∧ w'.cell? ⟨w.heap.size, 3, none⟩ = some (.int .u32 e.p) ∧ w'.cell? ⟨eb, q * 4, none⟩ = some (.int .i64 x.d) ∧ w'.cell? ⟨eb, q * 4 + 1, none⟩ = some (.int .u64 x.s) ∧ w'.cell? ⟨eb, q * 4 + 2, none⟩ = some (.int .u32 x.l) ∧ w'.cell? ⟨eb, q * 4 + 3, none⟩ = some (.int .u32 x.p)) (go_keep)
          (first | (go_at_call 9; refine (before_any _ _ _ _ _ _ _ _ _).mono ?_; rintro r w' ⟨rfl, rfl⟩))
        go_wp2_with fail
        refine (place_any F hb T k x _ ⟨_, _, _, ((H.alloc _).alloc _).drew⟩ fk fn fm g0 gl).mono ?_
        rintro r w' ⟨rfl, hp, fr⟩
        go_wp2_with fail
        go_roundw
        case rel => exact ⟨q, T.place k x, rfl, by rw [hq'.out]; exact hstep T k x hI'.out (by omega) hX.out hbf, hp, ((hfr.alloc _).alloc _).drew.trans fr⟩
        case measure => simp [intOf]; omega
      · 
        go_wp2_with fail
        simp only [k2]
        go_region_held3 (fun w' => w'.cell? ⟨hb, 0, none⟩ = some (.slice (some ⟨eb, 0, none⟩) T.ents.length ec) ∧ w'.cell? ⟨w.heap.size, 0, none⟩ = some (.int .i64 e.d) ∧ w'.cell? ⟨w.heap.size, 1, none⟩ = some (.int .u64 e.s) ∧ w'.cell? ⟨w.heap.size, 2, none⟩ = some (.int .u32 e.l) ∧ w'.cell? ⟨w.heap.size, 3, none⟩ = some (.int .u32 e.p) ∧ w'.cell? ⟨eb, q * 4, none⟩ = some (.int .i64 x.d) ∧ w'.cell? ⟨eb, q * 4 + 1, none⟩ = some (.int .u64 x.s) ∧ w'.cell? ⟨eb, q * 4 + 2, none⟩ = some (.int .u32 x.l) ∧ w'.cell? ⟨eb, q * 4 + 3, none⟩ = some (.int .u32 x.p)) (go_keep)
          (first | (go_at_call 9; refine (before_any _ _ _ _ _ _ _ _ _).mono ?_; rintro r w' ⟨rfl, rfl⟩))
        go_wp2_with fail
        refine (place_any F hb T k e _ ⟨_, _, _, ((H.alloc _).alloc _).drew⟩ fk fn fm fl0 fl).mono ?_
        rintro r w' ⟨rfl, hp, fr⟩
        go_wp2_with fail
        go_end0
        refine ⟨rfl, T, k, hI'.out, .inr (fun y hy => ?_), hp, ((Fr.refl w F).alloc _).trans ((((hfr.alloc _).alloc _).drew).trans fr)⟩
        rw [hX.out] at hy; injection hy with hy; subst hy; simpa [bef] using hbf
end Go.Proofs.Ybulkadzc
