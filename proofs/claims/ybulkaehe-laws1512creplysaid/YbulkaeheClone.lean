/-
  slices.Clone of integers; slices.Clone of nothing.
-/
import Derived.Test.YbulkaeheNewA
import Derived.ArgAppend
import Derived.Lib.SmallJoins
namespace Go.Proofs.Ybulkaehe
open Go.RowKit

/-- A slice of integers of kind k. -/
def IsInts (k : IntKind) (w : World) (a : Option Addr) (len : Nat) (ks : List Int) : Prop :=
  ks.length = len ∧ ∀ (i : Nat) (z : Int), ks[i]? = some z → ∃ x, a = some x ∧ w.cell? (x.add i) = some (.int k z)
theorem IsInts.ext {k : IntKind} {w w' : World} {a : Option Addr} {len : Nat} {ks : List Int} (h : IsInts k w a len ks) (b : Ext w w') : IsInts k w' a len ks := by
  refine ⟨h.1, fun i z e => ?_⟩
  obtain ⟨x, rfl, hc⟩ := h.2 i z e
  exact ⟨x, rfl, by rw [Below.cell b (World.block_lt_of_cell? _ _ hc)]; exact hc⟩

theorem Yba.info24 : (Yba.prog.info? 24).map (fun i => (i.zero, i.size, i.bytes)) = some (some (.int .u64 0), 1, 8) := by kernel_rfl
theorem Yba.info3 : (Yba.prog.info? 3).map (fun i => (i.zero, i.size, i.bytes)) = some (some (.int .i64 0), 1, 8) := by kernel_rfl

/-- What Clone gives. -/
def CloneRes (k : IntKind) (w : World) (len : Nat) (ks : List Int) (e : Ending) (w' : World) : Prop :=
  ∃ g cap', e = .returned (.slice (some ⟨g, 0, none⟩) len cap') ∧ IsInts k w' (some ⟨g, 0, none⟩) len ks ∧ Ext w w' ∧ w.heap.size ≤ g
theorem nil22 (w : World) : (binOp .eql 22 (.slice none 0 0) (.slice none 0 0)).run Yba.prog w = .ok (.bool true) w := by kernel_rfl
theorem nil62 (w : World) : (binOp .eql 62 (.slice none 0 0) (.slice none 0 0)).run Yba.prog w = .ok (.bool true) w := by kernel_rfl
theorem not22 (ad : Addr) (len cap : Nat) (w : World) : (binOp .eql 22 (.slice (some ad) len cap) (.slice none 0 0)).run Yba.prog w = .ok (.bool false) w := by kernel_rfl
theorem not32 (ad : Addr) (len cap : Nat) (w : World) : (binOp .eql 32 (.slice (some ad) len cap) (.slice none 0 0)).run Yba.prog w = .ok (.bool false) w := by kernel_rfl

set_option maxHeartbeats 1000000 in
set_option maxRecDepth 100000 in
theorem clone8_some (ad : Addr) (len cap : Nat) (ks : List Int) (w : World) (h : IsInts .u64 w (some ad) len ks) (hlen : len ≤ 1024) :
    Calls Yba.prog 8 #[.slice (some ad) len cap] w (CloneRes .u64 w len ks) := by
  obtain ⟨t, e1, z1, s1, y1⟩ := info_parts Yba.info24
  have hn := not22 ad len cap
  have hH : Hid (IsInts .u64 w (some ad) len ks) := h
  clear h
  go_enter Yba.func8, Yba.ntmps8
  go_wp2_with (at_builtin; refine wpList_append_arg _ rfl _ _ 22 rfl 24 t _ 1 8 Yba.underlying22 e1 z1 s1 y1 rfl (by decide) w.heap.size 0 0 0 [] rfl rfl (fun j u hj => by simp at hj) ad len cap (ks.map (.int .u64 ·)) rfl (by simpa using hH.out.1) ?_ ?_ ?_ ?_ ?_ ?_ ?_)
  · intro j u hj
    rw [List.getElem?_map] at hj
    cases hz : ks[j]? with
    | none => rw [hz] at hj; cases hj
    | some z =>
      rw [hz] at hj
      cases hj
      obtain ⟨x, hx, hc⟩ := hH.out.2 j z hz
      cases hx
      exact (Below.cell ((Below.refl _ w).alloc (Nat.le_refl _) _) (World.block_lt_of_cell? _ _ hc)).trans hc
  · intro u hu
    obtain ⟨z, _, rfl⟩ := List.mem_map.1 hu
    rfl
  · intro hle j hj
    have := hH.out.1
    simp at hj
    omega
  · unfold maxLen; omega
  · omega
  · intro hle
    have hl0 : len = 0 := by omega
    subst hl0
    have hk0 : ks = [] := List.eq_nil_of_length_eq_zero hH.out.1
    subst hk0
    go_wp2_with fail
    go_ret
    refine ⟨w.heap.size, 0, rfl, ⟨rfl, fun i z e => by cases e⟩, ?_, Nat.le_refl _⟩
    exact (Ext.refl w).alloc _
  · intro hlt v' w' hown hgr
    obtain ⟨g, c, rfl⟩ := Joins.ownsRow_form hown (by omega)
    have hb : Ext w w' := ((Ext.refl w).alloc _).trans (Below.grown (Below.refl _ _) hgr (Nat.le_refl _) (fun k hk => by cases hk))
    have hbl : w.heap.size ≤ g := by
      rcases hown.2 with ⟨h1, _⟩ | ⟨g', cp, cur, hv, hge, _⟩
      · cases h1
      · simp at hv
        obtain ⟨⟨rfl, _⟩, _⟩ := hv
        have hge' := hge
        omega
    go_wp2_with fail
    go_ret
    refine ⟨g, c, by simp, ⟨hH.out.1, fun i z e => ⟨_, rfl, ?_⟩⟩, hb, hbl⟩
    exact hown.cells (g := g) rfl i _ (by simp [e])

set_option maxHeartbeats 1000000 in
set_option maxRecDepth 100000 in
theorem clone14_some (ad : Addr) (len cap : Nat) (ks : List Int) (w : World) (h : IsInts .i64 w (some ad) len ks) (hlen : len ≤ 1024) :
    Calls Yba.prog 14 #[.slice (some ad) len cap] w (CloneRes .i64 w len ks) := by
  obtain ⟨t, e1, z1, s1, y1⟩ := info_parts Yba.info3
  have hn := not32 ad len cap
  have hH : Hid (IsInts .i64 w (some ad) len ks) := h
  clear h
  go_enter Yba.func14, Yba.ntmps14
  go_wp2_with (at_builtin; refine wpList_append_arg _ rfl _ _ 32 rfl 3 t _ 1 8 Yba.underlying32 e1 z1 s1 y1 rfl (by decide) w.heap.size 0 0 0 [] rfl rfl (fun j u hj => by simp at hj) ad len cap (ks.map (.int .i64 ·)) rfl (by simpa using hH.out.1) ?_ ?_ ?_ ?_ ?_ ?_ ?_)
  · intro j u hj
    rw [List.getElem?_map] at hj
    cases hz : ks[j]? with
    | none => rw [hz] at hj; cases hj
    | some z =>
      rw [hz] at hj
      cases hj
      obtain ⟨x, hx, hc⟩ := hH.out.2 j z hz
      cases hx
      exact (Below.cell ((Below.refl _ w).alloc (Nat.le_refl _) _) (World.block_lt_of_cell? _ _ hc)).trans hc
  · intro u hu
    obtain ⟨z, _, rfl⟩ := List.mem_map.1 hu
    rfl
  · intro hle j hj
    have := hH.out.1
    simp at hj
    omega
  · unfold maxLen; omega
  · omega
  · intro hle
    have hl0 : len = 0 := by omega
    subst hl0
    have hk0 : ks = [] := List.eq_nil_of_length_eq_zero hH.out.1
    subst hk0
    go_wp2_with fail
    go_ret
    refine ⟨w.heap.size, 0, rfl, ⟨rfl, fun i z e => by cases e⟩, ?_, Nat.le_refl _⟩
    exact (Ext.refl w).alloc _
  · intro hlt v' w' hown hgr
    obtain ⟨g, c, rfl⟩ := Joins.ownsRow_form hown (by omega)
    have hb : Ext w w' := ((Ext.refl w).alloc _).trans (Below.grown (Below.refl _ _) hgr (Nat.le_refl _) (fun k hk => by cases hk))
    have hbl : w.heap.size ≤ g := by
      rcases hown.2 with ⟨h1, _⟩ | ⟨g', cp, cur, hv, hge, _⟩
      · cases h1
      · simp at hv
        obtain ⟨⟨rfl, _⟩, _⟩ := hv
        have hge' := hge
        omega
    go_wp2_with fail
    go_ret
    refine ⟨g, c, by simp, ⟨hH.out.1, fun i z e => ⟨_, rfl, ?_⟩⟩, hb, hbl⟩
    exact hown.cells (g := g) rfl i _ (by simp [e])

set_option maxRecDepth 100000 in
theorem clone8_nil (w : World) : Calls Yba.prog 8 #[.slice none 0 0] w fun e w' => e = .returned (.slice none 0 0) ∧ w' = w := by
  have hn := nil22
  go_enter Yba.func8, Yba.ntmps8
  go_wp2_with fail
  go_ret
  exact ⟨rfl, rfl⟩
set_option maxRecDepth 100000 in
theorem clone9_nil (w : World) : Calls Yba.prog 9 #[.slice none 0 0] w fun e w' => e = .returned (.slice none 0 0) ∧ w' = w := by
  have hn := nil62
  go_enter Yba.func9, Yba.ntmps9
  go_wp2_with fail
  go_ret
  exact ⟨rfl, rfl⟩
end Go.Proofs.Ybulkaehe
