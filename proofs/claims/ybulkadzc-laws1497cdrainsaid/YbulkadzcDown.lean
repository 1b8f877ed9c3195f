import Derived.Test.YbulkadzcUp
namespace Go.Proofs.Ybulkadzc
open Go.RowKit

set_option maxHeartbeats 1000000 in
theorem down_any (F : Nat → Prop) (hb : Nat) (S : HSt) (i : Nat) (e : Ent) (w : World) (Inv : HSt → Nat → Prop) (hS : HP w F hb S) (h0 : Inv S i)
    (hfit : ∀ T k, Inv T k → Fits e T k) (hlen : ∀ T k, Inv T k → T.ents.length = S.ents.length)
    (hstep : ∀ T k c x, Inv T k → MinChild T k c x → bef x e = true → Inv (T.place k x) c) :
    Calls Yba.prog 16 #[.pointer (some ⟨hb, 0, none⟩), .int .i64 i, .agg #[.int .i64 e.d, .int .u64 e.s, .int .u32 e.l, .int .u32 e.p]] w
      fun r w' => r = .returned (.tuple #[]) ∧ ∃ T k, Inv T k ∧ (T.ents.length ≤ 4 * k + 1 ∨ ∃ c x, MinChild T k c x ∧ bef x e = false) ∧ HP w' F hb (T.place k e) ∧ Fr w w' F F := by
  have hnF : ¬ F w.heap.size := by
    obtain ⟨_, _, _, H⟩ := hS
    intro f; have := H.Flt _ f; omega
  obtain ⟨ev, sv, pv, H⟩ := hS
  obtain ⟨n, hn⟩ : ∃ n, n = S.ents.length := ⟨_, rfl⟩
  have hfS := hfit S i h0
  obtain ⟨eb, ec, rfl, hec, hlt1⟩ := ownsRow_form H.ents (by have := hfS.1; omega)
  obtain ⟨h00, _⟩ := H.cells
  have hlt := H.lt
  have hn' : Hid (n = S.ents.length) := hn
  rw [← hn] at h00
  have nb : n ≤ 1000000 := by have := hfS.2.1; omega
  clear hn hfS
  go_enter Yba.func16, Yba.ntmps16
  go_wp2
  go_loopw [1] (fun iv wr => ∃ (k : Nat) (T : HSt), iv = .int .i64 k ∧ Inv T k ∧ HP wr F hb T ∧ Fr (w.alloc (.cells #[.int .i64 e.d, .int .u64 e.s, .int .u32 e.l, .int .u32 e.p] 36)) wr F F) (fun iv _ => n - (intOf iv).toNat)
  case atStart =>
    exact ⟨i, S, rfl, h0, ⟨_, _, _, H.alloc _⟩, Fr.refl _ _⟩
  case round =>
    clear H h00 hlt1 hlt hec
    obtain ⟨k, T, rfl, hI, hT, hfr⟩ := hrel
    obtain ⟨fk, fn, fm, fl0, fl, fx⟩ := hfit T k hI
    have hl : T.ents.length = n := (hlen T k hI).trans hn'.out.symm
    have hT' := hT
    obtain ⟨ev, sv, pv, H⟩ := hT'
    obtain ⟨b0, b1, b2, b3, bs⟩ := box_cells e hfr hnF
    have Hl : Hid (T.ents.length = n) := hl
    have kn : k < n := by omega
    clear hl
    by_cases hk : n ≤ 4 * k + 1
    · go_wp2_with fail
      refine (place_any F hb T k e _ hT fk fn fm fl0 fl).mono ?_
      rintro r w' ⟨rfl, hp, fr⟩
      go_wp2_with fail
      go_end0
      exact ⟨rfl, T, k, hI, .inl (by rw [Hl.out]; exact hk), hp, ((Fr.refl w F).alloc _).trans (hfr.trans fr)⟩
    · have hI' : Hid (Inv T k) := hI
      clear hI
      have hT0 := hT
      clear H hT b0 b1 b2 b3 bs ev sv pv
      by_cases hm : 4 * k + 5 ≤ n
      all_goals
        go_wp2_with fail
        go_loopw [8, 10] (fun cv jv wq => ∃ (c j : Nat) (x : Ent), cv = .int .i64 c ∧ jv = .int .i64 j ∧ 4 * k + 1 ≤ c ∧ c < j ∧ j ≤ 4 * k + 5 ∧ j ≤ n ∧ Hid (T.ents[c]? = some x ∧ ∀ m y, 4 * k + 1 ≤ m → m < j → T.ents[m]? = some y → bef y x = false) ∧ HP wq F hb T ∧ Fr (w.alloc (.cells #[.int .i64 e.d, .int .u64 e.s, .int .u32 e.l, .int .u32 e.p] 36)) wq F F) (fun _ jv _ => n - (intOf jv).toNat)
        case atStart =>
          obtain ⟨x, hx⟩ : ∃ x, T.ents[4 * k + 1]? = some x := ⟨_, List.getElem?_eq_getElem (by rw [Hl.out]; omega)⟩
          exact ⟨4 * k + 1, 4 * k + 2, x, by go_num, by go_num, by omega, by omega, by omega, by omega, ⟨hx, fun m y h1 h2 hy => by
            have : m = 4 * k + 1 := by omega
            subst this; rw [hx] at hy; injection hy with hy; subst hy; exact bef_refl _⟩, hT0, hfr⟩
        case round =>
          clear hfr
          obtain ⟨c, j, x, rfl, rfl, cj0, cj1, cj2, cj3, HX, hT, hfr⟩ := hrel
          have hT' := hT
          obtain ⟨ev, sv, pv, H⟩ := hT'
          obtain ⟨b0, b1, b2, b3, bs⟩ := box_cells e hfr hnF
          obtain ⟨gb, gc, rfl, hec, hlt1⟩ := ownsRow_form H.ents (by omega)
          obtain ⟨h0, _⟩ := H.cells
          obtain ⟨c0, c1, c2, c3⟩ := H.entAt HX.out.1
          obtain ⟨g0, gl⟩ := fx c x (by omega) HX.out.1
          have hcl : (c : Int) < (T.ents.length : Int) := by have := Hl.out; omega
          by_cases hj : j < 4 * k + 5 ∧ j < n
          · obtain ⟨y, hy⟩ : ∃ y, T.ents[j]? = some y := ⟨_, List.getElem?_eq_getElem (by rw [Hl.out]; omega)⟩
            obtain ⟨d0, d1, d2, d3⟩ := H.entAt hy
            have hjl : (j : Int) < (T.ents.length : Int) := by have := Hl.out; omega
            have HY : Hid (T.ents[j]? = some y) := hy
            clear hy
            by_cases hbf : befB y.d y.s x.d x.s = true
            · go_wp2_with fail
              go_region_held3 (fun w' => w'.cell? ⟨hb, 0, none⟩ = some (.slice (some ⟨gb, 0, none⟩) T.ents.length gc) ∧ w'.cell? ⟨gb, j * 4, none⟩ = some (.int .i64 y.d) ∧ w'.cell? ⟨gb, j * 4 + 1, none⟩ = some (.int .u64 y.s) ∧ w'.cell? ⟨gb, j * 4 + 2, none⟩ = some (.int .u32 y.l) ∧ w'.cell? ⟨gb, j * 4 + 3, none⟩ = some (.int .u32 y.p) ∧ w'.cell? ⟨gb, c * 4, none⟩ = some (.int .i64 x.d) ∧ w'.cell? ⟨gb, c * 4 + 1, none⟩ = some (.int .u64 x.s) ∧ w'.cell? ⟨gb, c * 4 + 2, none⟩ = some (.int .u32 x.l) ∧ w'.cell? ⟨gb, c * 4 + 3, none⟩ = some (.int .u32 x.p)) (go_keep)
                (first | (go_at_call 9; refine (before_any _ _ _ _ _ _ _ _ _).mono ?_; rintro r w' ⟨rfl, rfl⟩))
              go_wp2_with fail
              go_roundw
              case rel =>
                exact ⟨j, j + 1, y, rfl, by go_num, by omega, by omega, by omega, by omega, ⟨HY.out, fun m z h1 h2 hz => by
                  by_cases e1 : m = j
                  · subst e1; rw [HY.out] at hz; injection hz with hz; subst hz; exact bef_refl _
                  · exact bef_mix (HX.out.2 m z h1 (by omega) hz) hbf⟩, ⟨_, _, _, ((H.alloc _).alloc _).drew⟩, ((hfr.alloc _).alloc _).drew⟩
              case measure => simp [intOf]; omega
            · go_wp2_with fail
              go_region_held3 (fun w' => w'.cell? ⟨hb, 0, none⟩ = some (.slice (some ⟨gb, 0, none⟩) T.ents.length gc) ∧ w'.cell? ⟨gb, j * 4, none⟩ = some (.int .i64 y.d) ∧ w'.cell? ⟨gb, j * 4 + 1, none⟩ = some (.int .u64 y.s) ∧ w'.cell? ⟨gb, j * 4 + 2, none⟩ = some (.int .u32 y.l) ∧ w'.cell? ⟨gb, j * 4 + 3, none⟩ = some (.int .u32 y.p) ∧ w'.cell? ⟨gb, c * 4, none⟩ = some (.int .i64 x.d) ∧ w'.cell? ⟨gb, c * 4 + 1, none⟩ = some (.int .u64 x.s) ∧ w'.cell? ⟨gb, c * 4 + 2, none⟩ = some (.int .u32 x.l) ∧ w'.cell? ⟨gb, c * 4 + 3, none⟩ = some (.int .u32 x.p)) (go_keep)
                (first | (go_at_call 9; refine (before_any _ _ _ _ _ _ _ _ _).mono ?_; rintro r w' ⟨rfl, rfl⟩))
              go_wp2_with fail
              go_roundw
              case rel =>
                exact ⟨c, j + 1, x, rfl, by go_num, by omega, by omega, by omega, by omega, ⟨HX.out.1, fun m z h1 h2 hz => by
                  by_cases e1 : m = j
                  · subst e1; rw [HY.out] at hz; injection hz with hz; subst hz; simpa [bef] using hbf
                  · exact HX.out.2 m z h1 (by omega) hz⟩, ⟨_, _, _, ((H.alloc _).alloc _).drew⟩, ((hfr.alloc _).alloc _).drew⟩
              case measure => simp [intOf]; omega
          · have hmin : Hid (MinChild T k c x) := ⟨by omega, by omega, HX.out.1, fun m y m0 mk hy => by
              have hml : m < T.ents.length := (List.getElem?_eq_some_iff.1 hy).1
              rw [Hl.out] at hml
              exact HX.out.2 m y (by omega) (by omega) hy⟩
            by_cases hbf : befB x.d x.s e.d e.s = true
            · go_wp2_with fail
              go_region_held3 (fun w' => w'.cell? ⟨hb, 0, none⟩ = some (.slice (some ⟨gb, 0, none⟩) T.ents.length gc) ∧ w'.cell? ⟨gb, c * 4, none⟩ = some (.int .i64 x.d) ∧ w'.cell? ⟨gb, c * 4 + 1, none⟩ = some (.int .u64 x.s) ∧ w'.cell? ⟨gb, c * 4 + 2, none⟩ = some (.int .u32 x.l) ∧ w'.cell? ⟨gb, c * 4 + 3, none⟩ = some (.int .u32 x.p) ∧ w'.cell? ⟨w.heap.size, 0, none⟩ = some (.int .i64 e.d) ∧ w'.cell? ⟨w.heap.size, 1, none⟩ = some (.int .u64 e.s) ∧ w'.cell? ⟨w.heap.size, 2, none⟩ = some (.int .u32 e.l) ∧ w'.cell? ⟨w.heap.size, 3, none⟩ = some (.int .u32 e.p)) (go_keep)
                (first | (go_at_call 9; refine (before_any _ _ _ _ _ _ _ _ _).mono ?_; rintro r w' ⟨rfl, rfl⟩))
              go_wp2_with fail
              refine (place_any F hb T k x _ ⟨_, _, _, ((H.alloc _).alloc _).drew⟩ fk fn fm g0 gl).mono ?_
              rintro r w' ⟨rfl, hp, fr⟩
              go_wp2_with fail
              go_roundw
              case rel => exact ⟨c, T.place k x, rfl, hstep T k c x hI'.out hmin.out hbf, hp, ((hfr.alloc _).alloc _).drew.trans fr⟩
              case measure => simp [intOf]; omega
            · go_wp2_with fail
              go_region_held3 (fun w' => w'.cell? ⟨hb, 0, none⟩ = some (.slice (some ⟨gb, 0, none⟩) T.ents.length gc) ∧ w'.cell? ⟨gb, c * 4, none⟩ = some (.int .i64 x.d) ∧ w'.cell? ⟨gb, c * 4 + 1, none⟩ = some (.int .u64 x.s) ∧ w'.cell? ⟨gb, c * 4 + 2, none⟩ = some (.int .u32 x.l) ∧ w'.cell? ⟨gb, c * 4 + 3, none⟩ = some (.int .u32 x.p) ∧ w'.cell? ⟨w.heap.size, 0, none⟩ = some (.int .i64 e.d) ∧ w'.cell? ⟨w.heap.size, 1, none⟩ = some (.int .u64 e.s) ∧ w'.cell? ⟨w.heap.size, 2, none⟩ = some (.int .u32 e.l) ∧ w'.cell? ⟨w.heap.size, 3, none⟩ = some (.int .u32 e.p)) (go_keep)
                (first | (go_at_call 9; refine (before_any _ _ _ _ _ _ _ _ _).mono ?_; rintro r w' ⟨rfl, rfl⟩))
              go_wp2_with fail
              refine (place_any F hb T k e _ ⟨_, _, _, ((H.alloc _).alloc _).drew⟩ fk fn fm fl0 fl).mono ?_
              rintro r w' ⟨rfl, hp, fr⟩
              go_wp2_with fail
              go_end0
              exact ⟨rfl, T, k, hI'.out, .inr ⟨c, x, hmin.out, by simpa [bef] using hbf⟩, hp, ((Fr.refl w F).alloc _).trans ((((hfr.alloc _).alloc _).drew).trans fr)⟩
end Go.Proofs.Ybulkadzc
