import Derived.Test.YbulkadzcTake
import Derived.Deep.RegionLaw
import Derived.Deep.DeepCutAuto
namespace Go.Proofs.Ybulkadzc
open Go.RowKit

/-- A box that holds an entry; a box that holds a handle. -/
def Box (w : World) (B : Nat) (d s l p : Int) : Prop := w.heap[B]? = some (.cells #[.int .i64 d, .int .u64 s, .int .u32 l, .int .u32 p] 36 (0, 0))
def Hnd (w : World) (B : Nat) (a b : Int) : Prop := w.heap[B]? = some (.cells #[.int .u32 a, .int .u32 b] 29 (0, 0))

section
variable {w w' : World} {B : Nat} {d s l p a b : Int}
theorem Box.lt (h : Box w B d s l p) : B < w.heap.size := lt_of_block h
theorem Hnd.lt (h : Hnd w B a b) : B < w.heap.size := lt_of_block h
theorem Box.cells (h : Box w B d s l p) : w.cell? ⟨B, 0, none⟩ = some (.int .i64 d) ∧ w.cell? ⟨B, 1, none⟩ = some (.int .u64 s) ∧ w.cell? ⟨B, 2, none⟩ = some (.int .u32 l) ∧ w.cell? ⟨B, 3, none⟩ = some (.int .u32 p) := by
  unfold Box at h; simp [World.cell?, h]
theorem Box.thaw (h : Box w B d s l p) (j : Nat) : w.frozen? ⟨B, j, none⟩ = false := by unfold Box at h; simp [World.frozen?, h]
theorem Hnd.cells (h : Hnd w B a b) : w.cell? ⟨B, 0, none⟩ = some (.int .u32 a) ∧ w.cell? ⟨B, 1, none⟩ = some (.int .u32 b) := by
  unfold Hnd at h; simp [World.cell?, h]
theorem Hnd.thaw (h : Hnd w B a b) (j : Nat) : w.frozen? ⟨B, j, none⟩ = false := by unfold Hnd at h; simp [World.frozen?, h]
theorem Box.kept (h : Box w B d s l p) (e : w'.heap[B]? = w.heap[B]?) : Box w' B d s l p := by unfold Box at *; rw [e]; exact h
theorem Hnd.kept (h : Hnd w B a b) (e : w'.heap[B]? = w.heap[B]?) : Hnd w' B a b := by unfold Hnd at *; rw [e]; exact h
theorem Box.setL (h : Box w B d s l p) (q : Int) : Box (w.setCell ⟨B, 2, none⟩ (.int .u32 q)) B d s q p := by unfold Box at *; rw [blk_set h]; rfl
theorem Box.setS (h : Box w B d s l p) (q : Int) : Box (w.setCell ⟨B, 1, none⟩ (.int .u64 q)) B d q l p := by unfold Box at *; rw [blk_set h]; rfl
end

theorem heap_new_at (w : World) (o : Obj) (n : Nat) (hn : n = w.heap.size) : (w.alloc o).heap[n]? = some o := by subst hn; exact heap_alloc_new w o

/-- The state ahead of add's sift. -/
def HSt.toAdd (S : HSt) (d p v : Int) : HSt :=
  { S.took with slots := S.took.slots.modify S.takes (fun y => { y with v := v }), armed := S.took.armed + 1, ents := S.took.ents ++ [⟨d, S.took.armed + 1, S.takes, p⟩] }

theorem took_ents (S : HSt) : S.took.ents = S.ents := by unfold HSt.took; split <;> (try split) <;> rfl
theorem took_armed (S : HSt) : S.took.armed = S.armed := by unfold HSt.took; split <;> (try split) <;> rfl
theorem took_pers (S : HSt) : S.took.pers = S.pers := by unfold HSt.took; split <;> (try split) <;> rfl
theorem took_slen (S : HSt) : S.slots.length ≤ S.took.slots.length ∧ S.took.slots.length ≤ S.slots.length + 1 := by
  unfold HSt.took; split
  · simp
  · split <;> simp
theorem took_lt (S : HSt) (hf : S.free = 0 ∨ (0 < S.free ∧ (S.free - 1).toNat < S.slots.length)) : S.takes < S.took.slots.length := by
  unfold HSt.takes HSt.took
  by_cases h : S.free = 0
  · simp [h]
  · rw [if_neg h, if_neg h]
    obtain ⟨h1, h2⟩ := hf.resolve_left h
    split <;> exact h2

set_option maxHeartbeats 2000000 in
theorem add_ok (F : Nat → Prop) (hb : Nat) (S : HSt) (d s0 l0 p v : Int) (w : World) (hS : HP w F hb S) (hn : S.ents.length < 900000) (hm : S.slots.length < 900000)
    (ha : 0 ≤ S.armed ∧ S.armed < 9000000) (hf : S.free = 0 ∨ (0 < S.free ∧ (S.free - 1).toNat < S.slots.length))
    (hI : SInv OrdUp ((S.toAdd d p v).place S.ents.length ⟨d, S.armed + 1, S.takes, p⟩) ⟨d, S.armed + 1, S.takes, p⟩ (S.toAdd d p v) S.ents.length) :
    Calls Yba.prog 14 #[.pointer (some ⟨hb, 0, none⟩), .agg #[.int .i64 d, .int .u64 s0, .int .u32 l0, .int .u32 p], .int .i64 v] w
      fun r w' => ∃ S' F' y, Sifted ((S.toAdd d p v).place S.ents.length ⟨d, S.armed + 1, S.takes, p⟩) S' ∧ S'.slots[S.takes]? = some y ∧ r = .returned (.agg #[.int .u32 S.takes, .int .u32 y.gen]) ∧ HP w' F' hb S' ∧ Fr w w' F F' := by
  have hnF : ∀ k, w.heap.size ≤ k → ¬ F k := by
    obtain ⟨_, _, _, H⟩ := hS
    intro k hk f; have := H.Flt _ f; omega
  have hlt0 : hb < w.heap.size := by obtain ⟨_, _, _, H⟩ := hS; exact H.lt
  have hI' : Hid (SInv _ _ _ _ _) := hI
  clear hI
  go_enter Yba.func14, Yba.ntmps14
  go_wp2_with fail
  obtain ⟨ev, sv, pv, H⟩ := hS
  refine (takeSlot_any F hb S _ ⟨_, _, _, (H.alloc _).alloc _⟩ (by omega) hf).mono ?_
  rintro r W1 ⟨rfl, F1, ⟨ev1, sv1, pv1, H1⟩, fr1⟩
  have bx1 : Box W1 w.heap.size d s0 l0 p := by
    unfold Box
    rw [fr1.block _ (by simp; omega) (hnF _ (Nat.le_refl _)), Below.heap_alloc _ _ _ (by simp)]
    exact heap_alloc_new w _
  have hn1 : Hnd W1 (w.heap.size + 1) 0 0 := by
    unfold Hnd
    rw [fr1.block _ (by simp) (hnF _ (by omega))]
    exact heap_new_at _ _ _ (by simp)
  have nf1 : ¬ F1 w.heap.size := fun f => hnF _ (Nat.le_refl _) (fr1.foot _ (by simp; omega) f)
  have nf2 : ¬ F1 (w.heap.size + 1) := fun f => hnF _ (by omega) (fr1.foot _ (by simp) f)
  have fw1 : Fr w W1 F F1 := (((Fr.refl w F).alloc _).alloc _).trans fr1
  clear fr1 H
  obtain ⟨B, hB⟩ : ∃ B, w.heap.size = B := ⟨_, rfl⟩
  rw [hB] at bx1 hn1 nf1 nf2 ⊢
  have hB' : Hid (w.heap.size = B) := hB
  have hlB : hb < B := by omega
  have htk := took_lt S hf
  have hsl := took_slen S
  obtain ⟨T, hT⟩ : ∃ T, S.took = T := ⟨_, rfl⟩
  obtain ⟨l, hl⟩ : ∃ l, S.takes = l := ⟨_, rfl⟩
  have hT' : Hid (S.took = T) := hT
  have hl' : Hid (S.takes = l) := hl
  rw [hT, hl] at htk
  rw [hT] at H1 hsl
  rw [hl]
  have ha' : T.armed = S.armed := by rw [← hT]; exact took_armed S
  have he' : T.ents = S.ents := by rw [← hT]; exact took_ents S
  rw [← ha'] at ha
  have hn' : T.ents.length < 900000 := by rw [he']; exact hn
  have Hae : Hid (T.armed = S.armed ∧ T.ents = S.ents) := ⟨ha', he'⟩
  clear hB hT hl ha' he' hnF hlt0 hn hf
  -- e.slot = h.takeSlot()
  obtain ⟨c0, c1, c2, c3⟩ := bx1.cells
  have z2 := bx1.thaw 2
  go_wp2_with fail
  have H2 := H1.setOther (p := ⟨B, 2, none⟩) nf1 (.int .u32 l)
  have bx2 := bx1.setL (l : Int)
  have hn2 : Hnd (W1.setCell ⟨B, 2, none⟩ (.int .u32 l)) (B + 1) 0 0 := hn1.kept (Below.heap_setCell _ _ _ _ (by simp))
  have fw2 : Fr w (W1.setCell ⟨B, 2, none⟩ (.int .u32 l)) F F1 := fw1.setNew (Nat.le_of_eq hB'.out) _
  clear c0 c1 c2 c3 z2 bx1 hn1 fw1 H1
  generalize W1.setCell ⟨B, 2, none⟩ (.int .u32 l) = W2 at H2 bx2 hn2 fw2 ⊢
  -- h.slots[e.slot].value = v
  obtain ⟨sb, sc, rfl, hsc, hlt2⟩ := ownsRow_form H2.slots (by omega)
  obtain ⟨y, hy⟩ : ∃ y, T.slots[l]? = some y := ⟨_, List.getElem?_eq_getElem htk⟩
  obtain ⟨q0, q1, q2⟩ := H2.sltAt hy
  obtain ⟨h0, h1, h2, h3, h4, h5⟩ := H2.cells
  obtain ⟨c0, c1, c2, c3⟩ := bx2.cells
  have zq := frozen_row H2.slots (l * 3)
  have b1 : (0 : Int) ≤ (l : Int) := by omega
  have b2 : (l : Int) < (T.slots.length : Int) := by omega
  have hFs := (H2.Fs sb rfl).1
  have nsB : sb ≠ B := fun e => nf1 (e ▸ hFs)
  have nsB1 : sb ≠ B + 1 := fun e => nf2 (e ▸ hFs)
  have hy' : Hid (T.slots[l]? = some y) := hy
  clear hy
  go_region
  have H3 := (H2.setSlot (l * 3) (.int .i64 v) (T.slots.modify l fun y => { y with v := v }) (by simp) (sflat_setV T.slots l v y hy'.out) (by omega)).drew
  have bx3 : Box (W2.setCell ⟨sb, l * 3, none⟩ (.int .i64 v)).drew B d s0 l p := bx2.kept (Below.heap_setCell _ _ _ _ (Ne.symm nsB))
  have hn3 : Hnd (W2.setCell ⟨sb, l * 3, none⟩ (.int .i64 v)).drew (B + 1) 0 0 := hn2.kept (Below.heap_setCell _ _ _ _ (Ne.symm nsB1))
  have fw3 : Fr w (W2.setCell ⟨sb, l * 3, none⟩ (.int .i64 v)).drew F F1 := (fw2.setCell hFs _).drew
  clear q0 q1 q2 h0 h1 h2 h3 h4 h5 c0 c1 c2 c3 zq H2 bx2 hn2 fw2
  generalize (W2.setCell ⟨sb, l * 3, none⟩ (.int .i64 v)).drew = W3 at H3 bx3 hn3 fw3 ⊢
  -- h.armed++; e.seq = h.armed
  obtain ⟨c0, c1, c2, c3⟩ := bx3.cells
  obtain ⟨h0, h1, h2, h3, h4, h5⟩ := H3.cells
  have z1 := bx3.thaw 1
  have z3 := H3.thaw 3
  have hne : hb ≠ B := by omega
  simp only at h3
  go_wp2_with fail
  have H4 := (H3.setArmed (T.armed + 1)).setOther (p := ⟨B, 1, none⟩) nf1 (.int .u64 (T.armed + 1))
  have bx4 := (bx3.kept (w' := W3.setCell ⟨hb, 3, none⟩ (.int .u64 (T.armed + 1))) (Below.heap_setCell _ _ _ _ (Ne.symm hne))).setS (T.armed + 1)
  have hn4 : Hnd ((W3.setCell ⟨hb, 3, none⟩ (.int .u64 (T.armed + 1))).setCell ⟨B, 1, none⟩ (.int .u64 (T.armed + 1))) (B + 1) 0 0 := hn3.kept (by
    rw [Below.heap_setCell _ _ _ _ (by simp), Below.heap_setCell _ _ _ _ (by simp; omega)])
  have fw4 : Fr w ((W3.setCell ⟨hb, 3, none⟩ (.int .u64 (T.armed + 1))).setCell ⟨B, 1, none⟩ (.int .u64 (T.armed + 1))) F F1 := (fw3.setCell H3.Fh _).setNew (Nat.le_of_eq hB'.out) _
  clear h0 h1 h2 h3 h4 h5 c0 c1 c2 c3 z1 z3 H3 bx3 hn3 fw3
  generalize ((W3.setCell ⟨hb, 3, none⟩ (.int .u64 (T.armed + 1))).setCell ⟨B, 1, none⟩ (.int .u64 (T.armed + 1))) = W4 at H4 bx4 hn4 fw4 ⊢
  -- h.entries = append(h.entries, e)
  obtain ⟨S4, hS4⟩ : ∃ S4 : HSt, S4 = { T with slots := T.slots.modify l (fun y => { y with v := v }), armed := T.armed + 1 } := ⟨_, rfl⟩
  rw [show ({ ents := T.ents, slots := List.modify T.slots l fun y => { v := v, pos := y.pos, gen := y.gen }, free := T.free, armed := T.armed + 1, pers := T.pers, fp := T.fp } : HSt) = S4 from hS4.symm] at H4
  have HS4 : Hid (S4 = { T with slots := T.slots.modify l (fun y => { y with v := v }), armed := T.armed + 1 }) := hS4
  have hl4 : S4.ents.length = T.ents.length := by rw [hS4]
  have hn4' : S4.ents.length < 900000 := by omega
  have Hl4 : Hid (S4.ents.length = T.ents.length) := hl4
  clear hS4 hl4
  go_cut [] (fun wc => ∃ F2 g cap, HPv wc F2 hb { S4 with ents := S4.ents ++ [⟨d, T.armed + 1, l, p⟩] } (.slice (some ⟨g, 0, none⟩) (S4.ents.length + 1) cap) (.slice (some ⟨sb, 0, none⟩) T.slots.length sc) pv1 ∧ Box wc B d (T.armed + 1) l p ∧ Hnd wc (B + 1) 0 0 ∧ Fr w wc F F2 ∧ ¬ F2 B ∧ ¬ F2 (B + 1))
  case first =>
    obtain ⟨ea, ec, rfl⟩ := ownsRow_shape H4.ents
    obtain ⟨ii, hi, hz0, hz1, hz2⟩ := info_parts Yba.info36
    obtain ⟨c0, c1, c2, c3⟩ := bx4.cells
    obtain ⟨h0, _⟩ := H4.cells
    have hlt4 := bx4.lt
    have hlt := H4.lt
    go_region_law ((refine step_append_lies _ (by rfl) _ _ _ (by rfl) 0 36 ii _ 4 24 Yba.underlying31 hi hz0 hz1 hz2 rfl (by omega) (.slice ea S4.ents.length ec) S4.ents.length (eflat S4.ents) (by rfl) ((H4.alloc _).drew.ents) _ 1 1 (Ent.cells ⟨d, T.armed + 1, l, p⟩) (by rfl) (by rfl) (World.news_of_block (heap_alloc_new W4 _)) (by simp [Ent.cells, Value.oneCell']) (by omega) (by unfold maxLen; omega) (by omega) (by omega) _ (by rfl) ?_; intro g cap w1 own gr hg hlt1; have k1 : w1.cell? ⟨hb, 0, none⟩ = some (.slice ea S4.ents.length ec) := (gr.cell_far ⟨hb, 0, none⟩ (by simp; omega) (fun e => (H4.Fe hb e.symm).2 rfl)).trans (H4.alloc _).cells.1; have k2 : w1.frozen? ⟨hb, 0, none⟩ = false := (gr.frozen_far ⟨hb, 0, none⟩ (by simp; omega) (fun e => (H4.Fe hb e.symm).2 rfl)).trans ((H4.alloc _).thaw 0)))
    all_goals
      go_wp2_with fail
      go_meet
      case rel =>
        have hg' : (Value.slice ea S4.ents.length ec).ownBlock = some g ∨ g = W4.heap.size + 1 := by simpa using hg
        have nB : g ≠ B := by
          rcases hg' with hg' | hg'
          · exact fun e => nf1 (e ▸ (H4.Fe g hg').1)
          · omega
        have nB1 : g ≠ B + 1 := by
          have := hn4.lt
          rcases hg' with hg' | hg'
          · exact fun e => nf2 (e ▸ (H4.Fe g hg').1)
          · omega
        refine ⟨fun k => F1 k ∨ k = g, g, cap, (H4.alloc _).drew.entsAppended ⟨d, T.armed + 1, l, p⟩ own gr (by simpa using hg) hlt1, bx4.kept ?_, hn4.kept ?_, fw4.trans (((Fr.refl W4 F1).alloc _).drew.trans (Fr.appended H4.Fh (fun k hk => (H4.Fe k hk).1) gr (by simpa using hg) 0 _)), fun h => h.elim nf1 (fun e => nB e.symm), fun h => h.elim nf2 (fun e => nB1 e.symm)⟩
        · rw [Below.heap_setCell _ _ _ _ (Ne.symm hne), gr.block B (by simp; omega) (fun e => nf1 (H4.Fe B e.symm).1)]
          exact Below.heap_alloc _ _ _ hlt4
        · rw [Below.heap_setCell _ _ _ _ (by simp; omega), gr.block (B + 1) (by have := hn4.lt; simp; omega) (fun e => nf2 (H4.Fe (B + 1) e.symm).1)]
          exact Below.heap_alloc _ _ _ hn4.lt
  case rest =>
    clear H4 bx4 hn4 fw4 nf1 nf2
    obtain ⟨F2, g, cap, H5, bx5, hn5, fw5, nf1, nf2⟩ := hcut
    go_wp2_with fail
    obtain ⟨S5, hS5⟩ : ∃ S5 : HSt, S5 = { S4 with ents := S4.ents ++ [⟨d, T.armed + 1, l, p⟩] } := ⟨_, rfl⟩
    have hE : S5 = S.toAdd d p v := by
      rw [hS5, HS4.out]; unfold HSt.toAdd; rw [hT'.out, hl'.out]
    rw [← hS5] at H5
    have HS5 : Hid (S5 = { S4 with ents := S4.ents ++ [⟨d, T.armed + 1, l, p⟩] }) := hS5
    have hI1 := hI'.out
    rw [← hE, ← Hae.out.1, ← Hae.out.2, hl'.out] at hI1
    rw [← Hl4.out] at hI1
    have HI1 : Hid (SInv _ _ _ _ _) := hI1
    clear hI1 hE hS5
    go_cut [] (fun wq => ∃ S', Sifted (S5.place S4.ents.length ⟨d, T.armed + 1, l, p⟩) S' ∧ HP wq F2 hb S' ∧ Fr wc wq F2 F2)
    case first =>
      obtain ⟨c0, c1, c2, c3⟩ := bx5.cells
      obtain ⟨h0, _⟩ := H5.cells
      have hwr : IntKind.i64.wrap (S4.ents.length : Int) = (S4.ents.length : Int) := IntWalk.i64_in _ (by omega)
      go_region_with ((go_at_call 15; refine (up_ok F2 hb S5 S4.ents.length ⟨d, T.armed + 1, l, p⟩ _ _ ⟨_, _, _, H5.drew⟩ HI1.out).mono ?_; rintro r w1 ⟨rfl, S', hs', hp', fr'⟩))
      all_goals
        go_wp2_with fail
        go_meet
        case rel => exact ⟨S', hs', hp', ((Fr.refl wc F2).drew).trans fr'⟩
    case rest =>
      clear HI1
      obtain ⟨S', hs', ⟨ev6, sv6, pv6, H6⟩, fr6⟩ := hcut
      have bx6 := bx5.kept (fr6.block B bx5.lt nf1)
      have hn6 := hn5.kept (fr6.block (B + 1) hn5.lt nf2)
      have fw6 := fw5.trans fr6
      clear H5 bx5 hn5 fw5 fr6
      go_wp2_with fail
      have hsl' : l < S'.slots.length := by
        have h1 := hs'.2.2.slen
        rw [place_slen, HS5.out, HS4.out] at h1
        simp at h1
        omega
      obtain ⟨y6, hy6⟩ : ∃ y, S'.slots[l]? = some y := ⟨_, List.getElem?_eq_getElem hsl'⟩
      obtain ⟨sb6, sc6, rfl, hsc6, hlt6⟩ := ownsRow_form H6.slots (by omega)
      obtain ⟨q0, q1, q2⟩ := H6.sltAt hy6
      obtain ⟨h0, h1, h2, h3, h4, h5⟩ := H6.cells
      obtain ⟨c0, c1, c2, c3⟩ := bx6.cells
      obtain ⟨d0, d1⟩ := hn6.cells
      have e0 := hn6.thaw 0
      have e1 := hn6.thaw 1
      have b3 : (l : Int) < (S'.slots.length : Int) := by omega
      have HY : Hid (S'.slots[l]? = some y6) := hy6
      clear hy6
      go_region
      go_wp2_with fail
      have fin : Sifted ((S.toAdd d p v).place S.ents.length ⟨d, S.armed + 1, S.takes, p⟩) S' := by
        have h := hs'
        have hE : S5 = S.toAdd d p v := by
          rw [HS5.out, HS4.out]; unfold HSt.toAdd; rw [hT'.out, hl'.out]
        rw [hE, Hl4.out, Hae.out.2, Hae.out.1, ← hl'.out] at h
        exact h
      refine bodyPost_ret (v := .agg #[.int .u32 l, .int .u32 y6.gen]) (by simp [results, Yba.results14, go_sem, *]) rfl ⟨S', F2, y6, fin, by rw [hl'.out]; exact HY.out, by rw [hl'.out], ⟨_, _, _, ((H6.setOther (p := ⟨B + 1, 0, none⟩) nf2 _).setOther (p := ⟨B + 1, 1, none⟩) nf2 _).drew⟩, ((fw6.setNew (p := ⟨B + 1, 0, none⟩) (by have := hB'.out; simp; omega) _).setNew (p := ⟨B + 1, 1, none⟩) (by have := hB'.out; simp; omega) _).drew⟩
end Go.Proofs.Ybulkadzc
