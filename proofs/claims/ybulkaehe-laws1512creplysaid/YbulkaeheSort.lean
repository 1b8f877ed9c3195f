/-
  slices.Sort of the three members, which lie in order.
-/
import Derived.Test.YbulkaeheClone
namespace Go.Proofs.Ybulkaehe
open Go.RowKit
def intOf3 : Value → Int
  | .int _ q => q
  | _ => 0

theorem isNaN (x : Int) (w : World) : Calls Yba.prog 42 #[.int .i64 x] w fun e w' => e = .returned (.bool false) ∧ w' = w := by
  go_enter Yba.func42, Yba.ntmps42
  go_wp2_with fail
  go_ret
  exact ⟨by simp, rfl⟩
theorem less (x y : Int) (w : World) : Calls Yba.prog 31 #[.int .i64 x, .int .i64 y] w fun e w' => e = .returned (.bool (decide (x < y))) ∧ w' = w := by
  go_enter Yba.func31, Yba.ntmps31
  go_wp2_with fail
  refine (isNaN x w).mono ?_
  rintro _ w ⟨rfl, rfl⟩
  go_wp2_with fail
  go_ret
  exact ⟨by simp, rfl⟩

/-- Only draws lie between. -/
def Drawn (w wr : World) : Prop := ∃ q, wr = w.drewN q
theorem Drawn.cell {w wr : World} (h : Drawn w wr) (a : Addr) : wr.cell? a = w.cell? a := by obtain ⟨q, rfl⟩ := h; rfl
theorem Drawn.more {w wr : World} (h : Drawn w wr) (n : Nat) : Drawn w (wr.drewN n) := by obtain ⟨q, rfl⟩ := h; exact ⟨q + n, by simp⟩

set_option maxHeartbeats 1000000 in
set_option maxRecDepth 100000 in
theorem insertion (g cap : Nat) (w : World) (c0 : w.cell? ⟨g, 0, none⟩ = some (.int .i64 1)) (c1 : w.cell? ⟨g, 1, none⟩ = some (.int .i64 2)) (c2 : w.cell? ⟨g, 2, none⟩ = some (.int .i64 3)) :
    Calls Yba.prog 25 #[.slice (some ⟨g, 0, none⟩) 3 cap, .int .i64 0, .int .i64 3] w fun e w' => e = .returned (.tuple #[]) ∧ Drawn w w' := by
  have w0 : IntKind.i64.wrap 0 = 0 := by decide
  have w1 : IntKind.i64.wrap 1 = 1 := by decide
  go_enter Yba.func25, Yba.ntmps25
  go_wp2_with fail
  go_loopw [6] (fun iv wr => ∃ (i : Nat), iv = .int .i64 i ∧ (i = 1 ∨ i = 2 ∨ i = 3) ∧ Drawn w wr) (fun iv _ => 3 - (intOf3 iv).toNat)
  case atStart => exact ⟨1, rfl, by omega, 0, rfl⟩
  case round =>
    obtain ⟨i, rfl, hi, hD⟩ := hrel
    rcases hi with rfl | rfl | rfl
    · go_wp2_with fail
      go_loopw [7] (fun jv wr => jv = .int .i64 1 ∧ Drawn w wr) (fun _ _ => 0)
      case atStart => exact ⟨rfl, hD⟩
      case round =>
        obtain ⟨rfl, hD⟩ := hrel
        have d0 := (hD.cell _).trans c0
        have d1 := (hD.cell _).trans c1
        clear c0 c1 c2
        go_wp2_with fail
        go_quiet ((go_at_call 31; refine Calls.quiet_of_same (less _ _ _)))
        go_wp2_with fail
        exact ⟨⟨2, rfl, by omega, hD.more _⟩, by simp [intOf3]⟩
    · go_wp2_with fail
      go_loopw [7] (fun jv wr => jv = .int .i64 2 ∧ Drawn w wr) (fun _ _ => 0)
      case atStart => exact ⟨rfl, hD⟩
      case round =>
        obtain ⟨rfl, hD⟩ := hrel
        have d1 := (hD.cell _).trans c1
        have d2 := (hD.cell _).trans c2
        clear c0 c1 c2
        go_wp2_with fail
        go_quiet ((go_at_call 31; refine Calls.quiet_of_same (less _ _ _)))
        go_wp2_with fail
        exact ⟨⟨3, rfl, by omega, hD.more _⟩, by simp [intOf3]⟩
    · go_wp2_with fail
      go_end0
      exact ⟨rfl, hD⟩

set_option maxRecDepth 100000 in
theorem len64_3 (w : World) : Calls Yba.prog 35 #[.int .u64 3] w fun e w' => e = .returned (.int .i64 2) ∧ w' = w := by
  go_enter Yba.func35, Yba.ntmps35
  go_wp2_with fail
  go_ret
  exact ⟨by kernel_rfl, rfl⟩
theorem len_3 (w : World) : Calls Yba.prog 22 #[.int .u64 3] w fun e w' => e = .returned (.int .i64 2) ∧ w' = w := by
  go_enter Yba.func22, Yba.ntmps22
  go_wp2_with fail
  refine (len64_3 w).mono ?_
  rintro _ w ⟨rfl, rfl⟩
  go_wp2_with fail
  go_ret
  exact ⟨rfl, rfl⟩

set_option maxHeartbeats 1000000 in
set_option maxRecDepth 100000 in
theorem pdq (g cap : Nat) (lim : Int) (w : World) (c0 : w.cell? ⟨g, 0, none⟩ = some (.int .i64 1)) (c1 : w.cell? ⟨g, 1, none⟩ = some (.int .i64 2)) (c2 : w.cell? ⟨g, 2, none⟩ = some (.int .i64 3)) :
    Calls Yba.prog 21 #[.slice (some ⟨g, 0, none⟩) 3 cap, .int .i64 0, .int .i64 3, .int .i64 lim] w fun e w' => e = .returned (.tuple #[]) ∧ Drawn w w' := by
  go_enter Yba.func21, Yba.ntmps21
  go_wp2_with fail
  go_loopw [1, 2] (fun av bv wr => av = .int .i64 0 ∧ bv = .int .i64 3 ∧ wr = w) (fun _ _ _ => 0)
  case atStart => exact ⟨rfl, rfl, rfl⟩
  case round =>
    obtain ⟨rfl, rfl, rfl⟩ := hrel
    go_wp2_with fail
    refine (insertion g cap _ c0 c1 c2).mono ?_
    rintro _ W5 ⟨rfl, hD⟩
    go_wp2_with fail
    refine bodyPost_ret (results_none rfl _ _ _) rfl ?_
    exact ⟨rfl, hD⟩

set_option maxHeartbeats 1000000 in
set_option maxRecDepth 100000 in
theorem sort3 (g cap : Nat) (w : World) (c0 : w.cell? ⟨g, 0, none⟩ = some (.int .i64 1)) (c1 : w.cell? ⟨g, 1, none⟩ = some (.int .i64 2)) (c2 : w.cell? ⟨g, 2, none⟩ = some (.int .i64 3)) :
    Calls Yba.prog 15 #[.slice (some ⟨g, 0, none⟩) 3 cap] w fun e w' => e = .returned (.tuple #[]) ∧ Drawn w w' := by
  go_enter Yba.func15, Yba.ntmps15
  go_wp2_with fail
  refine (len_3 w).mono ?_
  rintro _ w ⟨rfl, rfl⟩
  go_wp2_with fail
  refine (pdq g cap 2 w c0 c1 c2).mono ?_
  rintro _ W5 ⟨rfl, hD⟩
  go_wp2_with fail
  go_end0
  exact ⟨rfl, hD⟩
end Go.Proofs.Ybulkaehe
