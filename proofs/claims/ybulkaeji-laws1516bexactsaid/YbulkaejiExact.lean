import Derived.Test.YbulkaejiCopy
import Derived.Deep.DeepCutAuto
namespace Go.Proofs.Ybulkaeji
open Go.RowKit

/-- Reading turns nothing: the same heap; below the call's first block as it was. -/
def Still (w W wr : World) : Prop := wr.heap = W.heap ∧ Below w.heap.size w wr
theorem Still.cell {w W wr : World} (h : Still w W wr) (a : Addr) : wr.cell? a = W.cell? a := World.cell?_of_block (by rw [h.1])
theorem Still.drew {w W wr : World} (h : Still w W wr) : Still w W wr.drew := ⟨h.1, h.2.drew⟩
theorem Still.drewN {w W wr : World} (h : Still w W wr) (n : Nat) : Still w W (wr.drewN n) := by
  induction n with
  | zero => exact h
  | succ n ih => exact ih.drew

set_option maxHeartbeats 2000000 in
theorem exact_walk (a0 : Option Addr) (len0 cap0 : Nat) (z0 : List Int) (a1 : ByteArray) (w : World) (w0 : Bytes w a0 len0 cap0 z0) (w1 : a1.size ≤ maxLen) (wl : len0 ≤ maxLen) :
    Calls Yba.prog 3 #[.slice a0 len0 cap0, .string a1] w fun e w' => e = .returned (.bool true) ∧ Below w.heap.size w w' := by
  unfold maxLen at w1 wl
  by_cases g0 : 1024 < len0
  · have g0' : decide ((1024 : Int) < (len0 : Int)) = true := by simp; omega
    go_enter Yba.func3, Yba.ntmps3
    go_wp2_with fail
    go_ret
    exact ⟨rfl, Below.refl _ _⟩
  by_cases g1 : 1024 < a1.size
  · go_enter Yba.func3, Yba.ntmps3
    go_wp2_with fail
    go_ret
    exact ⟨rfl, Below.refl _ _⟩
  have HB : Hid (Bytes w a0 len0 cap0 z0) := w0
  clear w0
  go_enter Yba.func3, Yba.ntmps3
  go_wp2_with (at_builtin; refine wpList_copy rfl _ _ rfl rfl a0 len0 cap0 z0 rfl HB.out (by omega) ?_)
  intro v1 W1 own1 bel1
  go_wp2_with (go_at_call 5; refine (app_ok _ v1 len0 _ a1 _ own1 (by omega) (by omega) bel1.size).mono ?_; rintro r W2 ⟨g, cap, rfl, own2, bel2⟩)
  have hl0 := bcells_length HB.out
  have bel : Below w.heap.size w W2 := bel1.trans bel2
  have hrow : ∀ j u, (bcells z0 len0 ++ quoted a1)[j]? = some u → W2.cell? ⟨g, j, none⟩ = some u := fun j u hu => by
    have := own2.cells (g := g) rfl j u hu
    rwa [Addr.add_lit, Nat.zero_add] at this
  have HR : Hid (∀ j u, (bcells z0 len0 ++ quoted a1)[j]? = some u → W2.cell? ⟨g, j, none⟩ = some u) := hrow
  clear own1 own2 bel1 bel2 hrow
  go_loopw [7] (fun iv wr => ∃ i : Nat, iv = .int .i64 i ∧ i ≤ len0 ∧ Still w W2 wr) (fun iv _ => len0 - (intOf iv).toNat)
  case atStart => exact ⟨0, rfl, by omega, rfl, bel⟩
  case round =>
    obtain ⟨i, rfl, hi, st⟩ := hrel
    by_cases hlt : i < len0
    · rcases HB.out with ⟨_, h, _⟩ | ⟨x, rfl, h1, h2, h3, h4, h5⟩
      · omega
      · have c1 : wr.cell? (x.add i) = some (.int .u8 (z0.getD i 0)) := by
          rw [st.2.cell (World.block_lt_of_cell? _ _ (h4 i (by omega)))]; exact h4 i (by omega)
        have c2 : wr.cell? ⟨g, i, none⟩ = some (.int .u8 (z0.getD i 0)) := by
          rw [st.cell]; exact HR.out i _ (row_b _ (by omega) hlt)
        have i1 : (0 : Int) ≤ (i : Int) := by omega
        have i2 : (i : Int) < (len0 : Int) := by omega
        have i3 : (i : Int) < ((len0 + (a1.size + 2) : Nat) : Int) := by omega
        clear h4 h5
        go_upto_region 10 with (fail)
        go_quiet (fail)
        go_wp2_with fail
        exact ⟨⟨i + 1, by go_num, by omega, st.drewN nq⟩, by simp [intOf]; omega⟩
    · have hi' : i = len0 := by omega
      subst hi'
      have c1 : wr.cell? ⟨g, i, none⟩ = some (.int .u8 34) := by
        rw [st.cell]; exact HR.out i _ (row_q _ hl0)
      have i3 : (i : Int) < ((i + (a1.size + 2) : Nat) : Int) := by omega
      go_wp2_with fail
      clear c1 i3
      go_loopw [8] (fun iv ws => ∃ j : Nat, iv = .int .i64 j ∧ j ≤ a1.size ∧ Still w W2 ws) (fun iv _ => a1.size - (intOf iv).toNat)
      case atStart => exact ⟨0, rfl, by omega, st⟩
      case round =>
        clear st
        obtain ⟨j, rfl, hj, st⟩ := hrel
        by_cases hlt : j < a1.size
        · have c2 : wr.cell? ⟨g, i + 1 + j, none⟩ = some (.int .u8 ((a1[j]'hlt).toNat)) := by
            rw [st.cell]; exact HR.out (i + 1 + j) _ (row_s _ hl0 hlt)
          have i1 : (0 : Int) ≤ (j : Int) := by omega
          have i2 : (j : Int) < (a1.size : Int) := by omega
          have k1 : IntKind.i64.wrap ((i : Int) + 1) = ((i + 1 : Nat) : Int) := IntWalk.i64_in _ (by omega)
          have k2 : IntKind.i64.wrap (((i + 1 : Nat) : Int) + (j : Int)) = ((i + 1 + j : Nat) : Int) := IntWalk.i64_in _ (by omega)
          have k3 : (0 : Int) ≤ ((i + 1 + j : Nat) : Int) := by omega
          have k4 : ((i + 1 + j : Nat) : Int) < ((i + (a1.size + 2) : Nat) : Int) := by omega
          go_upto_region 17 with (fail)
          go_quiet (fail)
          go_wp2_with fail
          exact ⟨⟨j + 1, by go_num, by omega, st.drewN nq⟩, by simp [intOf]; omega⟩
        · have hj' : j = a1.size := by omega
          have c3 : wr.cell? ⟨g, i + (a1.size + 1), none⟩ = some (.int .u8 34) := by
            rw [st.cell]; exact HR.out _ _ (row_e _ hl0)
          have e3 : ((i : Int) + ((a1.size : Int) + 2) - 1).toNat = i + (a1.size + 1) := by omega
          clear hj'
          go_wp2_with fail
          go_ret
          exact ⟨rfl, st.2⟩
end Go.Proofs.Ybulkaeji
