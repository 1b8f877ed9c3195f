/-
  New.
-/
import Derived.Test.YbulkaeheAwait
namespace Go.Proofs.Ybulkaehe
open Go.RowKit

theorem nodup_index {l : List (Option Nat)} (h : l.Nodup) {i j : Nat} {x : Option Nat} (hi : l[i]? = some x) (hj : l[j]? = some x) : i = j :=
  (List.getElem?_inj (List.getElem?_eq_some_iff.1 hi).1 h).1 (hi.trans hj.symm)

/-- The region's steps, all of them. -/
theorem new_steps {Q : Exit → Act → World → Prop} {a0 : Act} {w0 : World} {B0 C mc : Nat} {mo : Option Addr} {cm : Value} {inc : Int} (h1 : a0.tmps.getD 1 undef = .pointer (some ⟨C, 0, none⟩)) (h3 : a0.tmps.getD 3 undef = .slice mo 3 mc) (hC : w0.heap[C]? = some (cfg cm inc)) (hB : B0 ≤ w0.heap.size) :
    ∀ (i : Nat) (o : Oper), (opsOf Yba.f7.body)[i]? = some o → StepOK Yba.prog (opsOf Yba.f7.body) Q (Phi B0 C (.slice mo 3 mc) inc) a0 w0 o := by
  intro i o ho
  have hi : i < 48 := by
    have h := (List.getElem?_eq_some_iff.1 ho).1
    have e : (opsOf Yba.f7.body).length = 48 := by kernel_rfl
    omega
  match i, o, ho with
    | 0, o, ho => exact st0 h1 o ho
    | 1, o, ho => exact st1 hC o ho
    | 2, o, ho => exact st2 h1 o ho
    | 3, o, ho => exact st3 hC o ho
    | 4, o, ho => exact st4 h3 o ho
    | 5, o, ho => exact st5 h3 o ho
    | 6, o, ho => exact st6  o ho
    | 7, o, ho => exact st7  o ho
    | 8, o, ho => exact st8  o ho
    | 9, o, ho => exact st9 h1 o ho
    | 10, o, ho => exact st10 hC o ho
    | 11, o, ho => exact st11  o ho
    | 12, o, ho => exact st12  o ho
    | 13, o, ho => exact st13 h1 o ho
    | 14, o, ho => exact st14 hC o ho
    | 15, o, ho => exact st15  o ho
    | 16, o, ho => exact st16  o ho
    | 17, o, ho => exact st17 h1 o ho
    | 18, o, ho => exact st18 hC o ho
    | 19, o, ho => exact st19  o ho
    | 20, o, ho => exact st20  o ho
    | 21, o, ho => exact st21 h1 o ho
    | 22, o, ho => exact st22 hC o ho
    | 23, o, ho => exact st23  o ho
    | 24, o, ho => exact st24 h1 o ho
    | 25, o, ho => exact st25 hC o ho
    | 26, o, ho => exact st26 h1 o ho
    | 27, o, ho => exact st27 hC o ho
    | 28, o, ho => exact st28  o ho
    | 29, o, ho => exact st29 h1 o ho
    | 30, o, ho => exact st30 hC o ho
    | 31, o, ho => exact st31  o ho
    | 32, o, ho => exact st32 hB o ho
    | 33, o, ho => exact st33  o ho
    | 34, o, ho => exact st34  o ho
    | 35, o, ho => exact st35  o ho
    | 36, o, ho => exact st36  o ho
    | 37, o, ho => exact st37  o ho
    | 38, o, ho => exact st38  o ho
    | 39, o, ho => exact st39  o ho
    | 40, o, ho => exact st40 hB o ho
    | 41, o, ho => exact st41  o ho
    | 42, o, ho => exact st42  o ho
    | 43, o, ho => exact st43  o ho
    | 44, o, ho => exact st44  o ho
    | 45, o, ho => exact st45  o ho
    | 46, o, ho => exact st46 hB o ho
    | 47, o, ho => exact st47  o ho
    | n + 48, o, ho => omega

theorem new_guards (n : Nat) (hn : n = 71) : ∀ (i : Nat) (o : Oper), (opsOf Yba.f7.body)[i]? = some o → o.guard = none ∧ ∃ s, o.dst = some s ∧ s < n := by
  intro i o ho
  have h : ((opsOf Yba.f7.body).all fun o => o.guard.isNone && o.dst.any (· < 71)) = true := by kernel_rfl
  have := List.all_eq_true.1 h o (List.mem_of_getElem? ho)
  simp only [Bool.and_eq_true, Option.isNone_iff_eq_none, Option.any_eq_true] at this
  obtain ⟨g, s, h1, h2⟩ := this
  exact ⟨g, s, h1, by rw [hn]; simpa using h2⟩
theorem new_dsts : ∀ (i j : Nat) (oi oj : Oper) (s : Nat), (opsOf Yba.f7.body)[i]? = some oi → (opsOf Yba.f7.body)[j]? = some oj → oi.dst = some s → oj.dst = some s → i = j := by
  intro i j oi oj s hi hj h1 h2
  have h : ((opsOf Yba.f7.body).map Oper.dst) = [some 11, some 12, some 13, some 14, some 15, some 16, some 17, some 18, some 19, some 20, some 21, some 22, some 23, some 24, some 25, some 26, some 27, some 28, some 29, some 30, some 31, some 32, some 33, some 34, some 35, some 36, some 37, some 38, some 39, some 40, some 41, some 42, some 43, some 44, some 45, some 46, some 47, some 48, some 49, some 50, some 51, some 52, some 53, some 54, some 55, some 56, some 57, some 4] := by kernel_rfl
  have nd : ((opsOf Yba.f7.body).map Oper.dst).Nodup := by rw [h]; decide
  exact nodup_index nd (x := some s) (by rw [List.getElem?_map, hi]; exact congrArg some h1) (by rw [List.getElem?_map, hj]; exact congrArg some h2)
theorem new_acyclic : ∀ (i : Nat) (o : Oper), (opsOf Yba.f7.body)[i]? = some o → ∀ e ∈ o.after, e.on < i := by
  intro i o ho e he
  have h : ((List.range 48).all fun i => ((opsOf Yba.f7.body)[i]?).all fun o => o.after.all (·.on < i)) = true := by kernel_rfl
  have hi : i < 48 := by
    have h := (List.getElem?_eq_some_iff.1 ho).1
    have e : (opsOf Yba.f7.body).length = 48 := by kernel_rfl
    omega
  have h2 := List.all_eq_true.1 h i (List.mem_range.2 hi)
  rw [ho] at h2
  simp only [Option.all_some] at h2
  have h3 := (Array.all_eq_true').1 h2 e he
  simpa using h3

theorem arr_lit (t : Array Value) (h : t.size = 71) : t = #[t.getD 0 undef, t.getD 1 undef, t.getD 2 undef, t.getD 3 undef, t.getD 4 undef, t.getD 5 undef, t.getD 6 undef, t.getD 7 undef, t.getD 8 undef, t.getD 9 undef, t.getD 10 undef, t.getD 11 undef, t.getD 12 undef, t.getD 13 undef, t.getD 14 undef, t.getD 15 undef, t.getD 16 undef, t.getD 17 undef, t.getD 18 undef, t.getD 19 undef, t.getD 20 undef, t.getD 21 undef, t.getD 22 undef, t.getD 23 undef, t.getD 24 undef, t.getD 25 undef, t.getD 26 undef, t.getD 27 undef, t.getD 28 undef, t.getD 29 undef, t.getD 30 undef, t.getD 31 undef, t.getD 32 undef, t.getD 33 undef, t.getD 34 undef, t.getD 35 undef, t.getD 36 undef, t.getD 37 undef, t.getD 38 undef, t.getD 39 undef, t.getD 40 undef, t.getD 41 undef, t.getD 42 undef, t.getD 43 undef, t.getD 44 undef, t.getD 45 undef, t.getD 46 undef, t.getD 47 undef, t.getD 48 undef, t.getD 49 undef, t.getD 50 undef, t.getD 51 undef, t.getD 52 undef, t.getD 53 undef, t.getD 54 undef, t.getD 55 undef, t.getD 56 undef, t.getD 57 undef, t.getD 58 undef, t.getD 59 undef, t.getD 60 undef, t.getD 61 undef, t.getD 62 undef, t.getD 63 undef, t.getD 64 undef, t.getD 65 undef, t.getD 66 undef, t.getD 67 undef, t.getD 68 undef, t.getD 69 undef, t.getD 70 undef] := by
  have e : t.toList = (List.range 71).map (fun i => t.getD i undef) := by
    apply List.ext_getElem
    · simp [h]
    · intro i h1 h2
      have h3 : i < t.size := by simpa using h1
      rw [List.getElem_map, List.getElem_range, Array.getD_eq_getD_getElem?, Array.getElem?_eq_getElem h3]
      simp
  have e2 : (List.range 71).map (fun i => t.getD i undef) = [t.getD 0 undef, t.getD 1 undef, t.getD 2 undef, t.getD 3 undef, t.getD 4 undef, t.getD 5 undef, t.getD 6 undef, t.getD 7 undef, t.getD 8 undef, t.getD 9 undef, t.getD 10 undef, t.getD 11 undef, t.getD 12 undef, t.getD 13 undef, t.getD 14 undef, t.getD 15 undef, t.getD 16 undef, t.getD 17 undef, t.getD 18 undef, t.getD 19 undef, t.getD 20 undef, t.getD 21 undef, t.getD 22 undef, t.getD 23 undef, t.getD 24 undef, t.getD 25 undef, t.getD 26 undef, t.getD 27 undef, t.getD 28 undef, t.getD 29 undef, t.getD 30 undef, t.getD 31 undef, t.getD 32 undef, t.getD 33 undef, t.getD 34 undef, t.getD 35 undef, t.getD 36 undef, t.getD 37 undef, t.getD 38 undef, t.getD 39 undef, t.getD 40 undef, t.getD 41 undef, t.getD 42 undef, t.getD 43 undef, t.getD 44 undef, t.getD 45 undef, t.getD 46 undef, t.getD 47 undef, t.getD 48 undef, t.getD 49 undef, t.getD 50 undef, t.getD 51 undef, t.getD 52 undef, t.getD 53 undef, t.getD 54 undef, t.getD 55 undef, t.getD 56 undef, t.getD 57 undef, t.getD 58 undef, t.getD 59 undef, t.getD 60 undef, t.getD 61 undef, t.getD 62 undef, t.getD 63 undef, t.getD 64 undef, t.getD 65 undef, t.getD 66 undef, t.getD 67 undef, t.getD 68 undef, t.getD 69 undef, t.getD 70 undef] := by kernel_rfl
  exact Array.ext' (e.trans e2)
theorem new_len : (opsOf Yba.f7.body).length = 48 := by kernel_rfl
theorem new_last : ((opsOf Yba.f7.body)[47]?).map Oper.dst = some (some 4) := by kernel_rfl
def intOfN : Value → Int
  | .int _ q => q
  | _ => 0
theorem GoodNode.ext {B0 nb : Nat} {w w' : World} {inc : Int} (h : GoodNode B0 w nb inc) (e : Ext w w') : GoodNode B0 w' nb inc := by
  obtain ⟨h1, c, h2, h3⟩ := h
  exact ⟨h1, c, e.some h2, h3.ext e⟩
theorem GoodNode.set {B0 nb : Nat} {w : World} {inc : Int} (h : GoodNode B0 w nb inc) (k : Nat) (hk : k = 81 ∨ k = 82) (v : Value) : GoodNode B0 (w.setCell ⟨nb, k, none⟩ v) nb inc := by
  obtain ⟨hn, c, hc, q1, q5, q9, q18, ⟨x81, q81⟩, ⟨x82, q82⟩, q88, q90, q94, ⟨x, q10, r, g, rfl, hr, hg0, z, hz1, hz2, hg⟩, y, q86, b, rfl, hb, hm⟩ := h
  have n1 : g ≠ nb := fun e => by rw [← e, hg] at hc; cases hc
  have n3 : r ≠ nb := fun e => by rw [← e, hr] at hc; cases hc
  have n4 : b ≠ nb := fun e => by rw [e, hc] at hm; cases hm
  have o : ∀ i u, i ≠ 81 → i ≠ 82 → c[i]? = some u → (c.setIfInBounds k v)[i]? = some u := fun i u h1 h2 e => by
    rw [Array.getElem?_setIfInBounds, if_neg (by omega)]; exact e
  have o2 : ∀ i u, c[i]? = some u → ∃ y, (c.setIfInBounds k v)[i]? = some y := fun i u e => by
    by_cases he : k = i
    · exact ⟨v, by rw [Array.getElem?_setIfInBounds, if_pos he, if_pos (by have := (Array.getElem?_eq_some_iff.1 e).1; omega)]⟩
    · exact ⟨u, by rw [Array.getElem?_setIfInBounds, if_neg he]; exact e⟩
  refine ⟨hn, _, heap_setCell_same w nb k c 68 v hc, o 1 _ (by decide) (by decide) q1, o 5 _ (by decide) (by decide) q5, o 9 _ (by decide) (by decide) q9, o 18 _ (by decide) (by decide) q18, o2 81 _ q81, o2 82 _ q82, o 88 _ (by decide) (by decide) q88, o 90 _ (by decide) (by decide) q90, o 94 _ (by decide) (by decide) q94,
    ⟨_, o 10 _ (by decide) (by decide) q10, r, g, rfl, ?_, hg0, z, hz1, hz2, ?_⟩, ⟨_, o 86 _ (by decide) (by decide) q86, b, rfl, hb, ?_⟩⟩
  · rw [Below.heap_setCell _ _ _ _ n3]; exact hr
  · rw [Below.heap_setCell _ _ _ _ n1]; exact hg
  · rw [Below.heap_setCell _ _ _ _ n4]; exact hm
theorem GoodNode.cells {B0 nb : Nat} {w : World} {inc : Int} (h : GoodNode B0 w nb inc) : (∃ x, w.cell? ⟨nb, 81, none⟩ = some x) ∧ (∃ x, w.cell? ⟨nb, 82, none⟩ = some x) ∧ w.frozen? ⟨nb, 81, none⟩ = false ∧ w.frozen? ⟨nb, 82, none⟩ = false := by
  obtain ⟨hn, c, hc, q1, q5, q9, q18, ⟨x81, q81⟩, ⟨x82, q82⟩, _⟩ := h
  exact ⟨⟨_, cell_of hc q81⟩, ⟨_, cell_of hc q82⟩, frozen_of hc, frozen_of hc⟩

set_option maxHeartbeats 4000000 in
set_option maxRecDepth 100000 in
theorem new_walk (m : Nat) (inc : Int) (w : World) (c0 : w.cell? ⟨m, 0, none⟩ = some (.int .i64 1)) (c1 : w.cell? ⟨m, 1, none⟩ = some (.int .i64 2)) (c2 : w.cell? ⟨m, 2, none⟩ = some (.int .i64 3)) :
    Calls Yba.prog 7 #[.agg #[.int .i64 1, .slice (some ⟨m, 0, none⟩) 3 3, .int .i64 0, .int .i64 0, .int .i64 inc, .int .i64 0, .int .i64 0, .bool false]] w fun e w' => ∃ nb b, e = .returned (.pointer (some ⟨nb, 0, none⟩)) ∧ Nst w.heap.size w' nb b inc ∧ Below w.heap.size w w' := by
  have hmm := @run_makeMap Yba.prog
  go_enter Yba.func7, Yba.ntmps7
  go_wp2_with fail
  have hC := heap_alloc_new w (cfg (.slice (some ⟨m, 0, none⟩) 3 3) inc)
  have x1 : Ext w (w.alloc (cfg (.slice (some ⟨m, 0, none⟩) 3 3) inc)) := (Ext.refl w).alloc _
  have hI : IsInts .i64 (w.alloc (cfg (.slice (some ⟨m, 0, none⟩) 3 3) inc)) (some ⟨m, 0, none⟩) 3 [1, 2, 3] := by
    refine ⟨rfl, fun i z e => ⟨_, rfl, ?_⟩⟩
    have hi := (List.getElem?_eq_some_iff.1 e).1
    have hi3 : i = 0 ∨ i = 1 ∨ i = 2 := by simp at hi; omega
    rcases hi3 with rfl | rfl | rfl
    · cases e; rw [show (⟨m, 0, none⟩ : Addr).add 0 = ⟨m, 0, none⟩ from by simp [Addr.add], Below.cell x1 (World.block_lt_of_cell? _ _ c0)]; exact c0
    · cases e; rw [show (⟨m, 0, none⟩ : Addr).add 1 = ⟨m, 1, none⟩ from by simp [Addr.add], Below.cell x1 (World.block_lt_of_cell? _ _ c1)]; exact c1
    · cases e; rw [show (⟨m, 0, none⟩ : Addr).add 2 = ⟨m, 2, none⟩ from by simp [Addr.add], Below.cell x1 (World.block_lt_of_cell? _ _ c2)]; exact c2
  have hcl := clone14_some ⟨m, 0, none⟩ 3 3 [1, 2, 3] _ hI (by decide)
  unfold cfg at hcl x1 hC
  refine hcl.mono ?_
  rintro _ W1 ⟨g, cap, rfl, hI1, x2, hg⟩
  have x3 := x1.trans x2
  have hC1 := x2.some hC
  have d0 : W1.cell? ⟨g, 0, none⟩ = some (.int .i64 1) := by obtain ⟨x, hx, hc⟩ := hI1.2 0 1 rfl; cases hx; exact hc
  have d1 : W1.cell? ⟨g, 1, none⟩ = some (.int .i64 2) := by obtain ⟨x, hx, hc⟩ := hI1.2 1 2 rfl; cases hx; simpa [Addr.add] using hc
  have d2 : W1.cell? ⟨g, 2, none⟩ = some (.int .i64 3) := by obtain ⟨x, hx, hc⟩ := hI1.2 2 3 rfl; cases hx; simpa [Addr.add] using hc
  have d0 : Hid (W1.cell? ⟨g, 0, none⟩ = some (.int .i64 1) ∧ W1.cell? ⟨g, 1, none⟩ = some (.int .i64 2) ∧ W1.cell? ⟨g, 2, none⟩ = some (.int .i64 3)) := ⟨d0, d1, d2⟩
  have x3 : Hid (Ext w W1) := x3
  have hC1 : Hid (W1.heap[w.heap.size]? = some (cfg (.slice (some ⟨m, 0, none⟩) 3 3) inc)) := hC1
  clear hcl hI hI1 x1 x2 hC hg d1 d2 c0 c1 c2
  go_wp2_with fail
  refine (sort3 g cap W1 d0.out.1 d0.out.2.1 d0.out.2.2).mono ?_
  rintro _ W2 ⟨rfl, q, rfl⟩
  have x4 : Hid (Ext w (W1.drewN q)) := below_drewN x3.out q
  have hC2 : Hid ((W1.drewN q).heap[w.heap.size]? = some (cfg (.slice (some ⟨m, 0, none⟩) 3 3) inc)) := hC1.out
  clear d0 x3 hC1
  generalize W1.drewN q = W at x4 hC2 ⊢
  go_upto_region 3 with (fail)
  refine wp_region_makes (l := opsOf Yba.f7.body) (Phi w.heap.size w.heap.size (.slice (some ⟨g, 0, none⟩) 3 cap) inc) (by kernel_rfl) Phi.ext (new_guards _ rfl) new_dsts new_acyclic (new_steps (cm := .slice (some ⟨m, 0, none⟩) 3 3) rfl rfl hC2.out x4.out.size) ?_
  rintro ⟨tm, df⟩ W3 RI
  have hs : tm.size = 71 := RI.tmps
  have hdf : df = [] := RI.defs
  subst hdf
  obtain ⟨o, ho, hod⟩ := Option.map_eq_some_iff.1 new_last
  obtain ⟨nb, c, t4, hn, hc, hgc⟩ : NodePtr w.heap.size W3 inc (tm.getD 4 undef) := RI.held 47 o 4 ho hod (by rw [Array.getD_eq_getD_getElem?, Array.getElem?_replicate, if_pos (by rw [new_len]; decide)]; rfl)
  have xx : Hid (GoodNode w.heap.size W3 nb inc ∧ Below w.heap.size w W3) := ⟨⟨hn, c, hc, hgc⟩, Below.trans (Below.drew x4.out) (Below.mono RI.ext x4.out.size)⟩
  clear hC2 x4 hn hc hgc ho hod RI hmm
  have hmm := @run_makeMap Yba.prog
  have e := arr_lit tm hs
  rw [t4] at e
  clear hs t4
  rw [e]
  clear e
  generalize tm.getD 0 undef = u0
  generalize tm.getD 1 undef = u1
  generalize tm.getD 2 undef = u2
  generalize tm.getD 3 undef = u3
  generalize tm.getD 5 undef = u5
  generalize tm.getD 6 undef = u6
  generalize tm.getD 7 undef = u7
  generalize tm.getD 8 undef = u8
  generalize tm.getD 9 undef = u9
  generalize tm.getD 10 undef = u10
  generalize tm.getD 11 undef = u11
  generalize tm.getD 12 undef = u12
  generalize tm.getD 13 undef = u13
  generalize tm.getD 14 undef = u14
  generalize tm.getD 15 undef = u15
  generalize tm.getD 16 undef = u16
  generalize tm.getD 17 undef = u17
  generalize tm.getD 18 undef = u18
  generalize tm.getD 19 undef = u19
  generalize tm.getD 20 undef = u20
  generalize tm.getD 21 undef = u21
  generalize tm.getD 22 undef = u22
  generalize tm.getD 23 undef = u23
  generalize tm.getD 24 undef = u24
  generalize tm.getD 25 undef = u25
  generalize tm.getD 26 undef = u26
  generalize tm.getD 27 undef = u27
  generalize tm.getD 28 undef = u28
  generalize tm.getD 29 undef = u29
  generalize tm.getD 30 undef = u30
  generalize tm.getD 31 undef = u31
  generalize tm.getD 32 undef = u32
  generalize tm.getD 33 undef = u33
  generalize tm.getD 34 undef = u34
  generalize tm.getD 35 undef = u35
  generalize tm.getD 36 undef = u36
  generalize tm.getD 37 undef = u37
  generalize tm.getD 38 undef = u38
  generalize tm.getD 39 undef = u39
  generalize tm.getD 40 undef = u40
  generalize tm.getD 41 undef = u41
  generalize tm.getD 42 undef = u42
  generalize tm.getD 43 undef = u43
  generalize tm.getD 44 undef = u44
  generalize tm.getD 45 undef = u45
  generalize tm.getD 46 undef = u46
  generalize tm.getD 47 undef = u47
  generalize tm.getD 48 undef = u48
  generalize tm.getD 49 undef = u49
  generalize tm.getD 50 undef = u50
  generalize tm.getD 51 undef = u51
  generalize tm.getD 52 undef = u52
  generalize tm.getD 53 undef = u53
  generalize tm.getD 54 undef = u54
  generalize tm.getD 55 undef = u55
  generalize tm.getD 56 undef = u56
  generalize tm.getD 57 undef = u57
  generalize tm.getD 58 undef = u58
  generalize tm.getD 59 undef = u59
  generalize tm.getD 60 undef = u60
  generalize tm.getD 61 undef = u61
  generalize tm.getD 62 undef = u62
  generalize tm.getD 63 undef = u63
  generalize tm.getD 64 undef = u64
  generalize tm.getD 65 undef = u65
  generalize tm.getD 66 undef = u66
  generalize tm.getD 67 undef = u67
  generalize tm.getD 68 undef = u68
  generalize tm.getD 69 undef = u69
  generalize tm.getD 70 undef = u70
  simp only [Exit.then]
  go_upto_region 5 with (fail)
  go_loopw [58] (fun iv wr => ∃ (i : Nat), iv = .int .i64 i ∧ (i = 0 ∨ i = 1 ∨ i = 2) ∧ Hid (GoodNode w.heap.size wr nb inc ∧ Below w.heap.size w wr)) (fun iv _ => 2 - (intOfN iv).toNat)
  case atStart => exact ⟨0, rfl, .inl rfl, xx⟩
  case round =>
    clear xx
    obtain ⟨i, rfl, hi, xx⟩ := hrel
    rcases hi with rfl | rfl | rfl
    · have ha := (xx.out.1.ext ((Ext.refl wr).alloc (.map #[] 0)))
      have hbl := xx.out.2.alloc xx.out.2.size (.map #[] 0)
      obtain ⟨⟨x81, k81⟩, _, f81, _⟩ := ha.cells
      have hfin : Hid (GoodNode w.heap.size ((wr.alloc (.map #[] 0)).setCell ⟨nb, 81, none⟩ (.map (some wr.heap.size))) nb inc ∧ Below w.heap.size w ((wr.alloc (.map #[] 0)).setCell ⟨nb, 81, none⟩ (.map (some wr.heap.size)))) := ⟨ha.set 81 (.inl rfl) _, hbl.setCell ha.1 _⟩
      clear ha hbl
      go_wp2_with fail
      exact ⟨⟨1, rfl, .inr (.inl rfl), hfin⟩, by simp [intOfN]⟩
    · have ha := (xx.out.1.ext ((Ext.refl wr).alloc (.map #[] 0)))
      have hbl := xx.out.2.alloc xx.out.2.size (.map #[] 0)
      obtain ⟨_, ⟨x82, k82⟩, _, f82⟩ := ha.cells
      have hfin : Hid (GoodNode w.heap.size ((wr.alloc (.map #[] 0)).setCell ⟨nb, 82, none⟩ (.map (some wr.heap.size))) nb inc ∧ Below w.heap.size w ((wr.alloc (.map #[] 0)).setCell ⟨nb, 82, none⟩ (.map (some wr.heap.size)))) := ⟨ha.set 82 (.inr rfl) _, hbl.setCell ha.1 _⟩
      clear ha hbl
      go_wp2_with fail
      exact ⟨⟨2, rfl, .inr (.inr rfl), hfin⟩, by simp [intOfN]⟩
    · go_wp2_with fail
      refine (await w.heap.size nb inc wr xx.out.1).mono ?_
      rintro _ W5 ⟨rfl, b, hN, hB⟩
      have hB2 := xx.out.2.trans hB
      go_wp2_with fail
      go_ret
      exact ⟨nb, b, rfl, hN, hB2⟩
end Go.Proofs.Ybulkaehe
