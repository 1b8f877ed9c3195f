/-
  rand.PCG and rand.Rand: the draws.
-/
import Derived.Test.YbulkaehePcgLaw
import Derived.Test.YbulkaeheSort
namespace Go.Proofs.Ybulkaehe
open Go.RowKit

theorem add_lA (w : World) : (callFunc 73 #[.int .u64 4865540595714422341, .int .u64 1442695040888963407, .int .u64 0]).run Yba.prog w = .ok (.value (.tuple #[.int .u64 6308235636603385748, .int .u64 0])) w := by kernel_rfl
theorem add_lB (w : World) : (callFunc 73 #[.int .u64 16913524073047028452, .int .u64 1442695040888963407, .int .u64 0]).run Yba.prog w = .ok (.value (.tuple #[.int .u64 18356219113935991859, .int .u64 0])) w := by kernel_rfl
theorem add64_0 (x y : Nat) (w : World) : (callFunc 73 #[.int .u64 (x : Int), .int .u64 (y : Int), .int .u64 0]).run Yba.prog w = .ok (.value (.tuple #[.int .u64 (((x + y) % 18446744073709551616 : Nat) : Int), .int .u64 (((x + y) / 18446744073709551616 : Nat) : Int)])) w := by kernel_rfl
theorem add_h (x : Nat) (w : World) : (callFunc 73 #[.int .u64 (x : Int), .int .u64 6364136223846793005, .int .u64 0]).run Yba.prog w = .ok (.value (.tuple #[.int .u64 (((x : Int) + 6364136223846793005) % 18446744073709551616), .int .u64 (((x : Int) + 6364136223846793005) / 18446744073709551616)])) w := by
  have h := add64_0 x 6364136223846793005 w
  have e1 : (((x + 6364136223846793005) % 18446744073709551616 : Nat) : Int) = ((x : Int) + 6364136223846793005) % 18446744073709551616 := by omega
  have e2 : (((x + 6364136223846793005) / 18446744073709551616 : Nat) : Int) = ((x : Int) + 6364136223846793005) / 18446744073709551616 := by omega
  rw [e1, e2] at h
  exact h

set_option maxRecDepth 100000 in
theorem mul_A (w : World) : Calls Yba.prog 45 #[.int .u64 1, .int .u64 4865540595714422341] w fun e w' => e = .returned (.tuple #[.int .u64 0, .int .u64 4865540595714422341]) ∧ w' = w := by
  go_enter Yba.func45, Yba.ntmps45
  go_wp2_with fail
  go_ret2
  exact ⟨rfl, rfl⟩
set_option maxRecDepth 100000 in
theorem mul_B (w : World) : Calls Yba.prog 45 #[.int .u64 6308235636603385748, .int .u64 4865540595714422341] w fun e w' => e = .returned (.tuple #[.int .u64 1663869594253766626, .int .u64 16913524073047028452]) ∧ w' = w := by
  go_enter Yba.func45, Yba.ntmps45
  go_wp2_with fail
  go_ret2
  exact ⟨by kernel_rfl, rfl⟩
set_option maxRecDepth 100000 in
/-- The low word of a product. -/
theorem mul_x (x : Nat) (w : World) : Calls Yba.prog 45 #[.int .u64 (x : Int), .int .u64 50] w fun e w' => ∃ h : Int, e = .returned (.tuple #[.int .u64 h, .int .u64 (low x : Nat)]) ∧ w' = w := by
  go_enter Yba.func45, Yba.ntmps45
  go_wp2_with fail
  go_ret2
  exact ⟨_, rfl, rfl⟩

theorem wrapU (n : Nat) : IntKind.u64.wrap (n : Int) = ((n % 18446744073709551616 : Nat) : Int) := by rw [IntKind.wrap_u64]; omega
theorem drewN_set (w : World) (n : Nat) (a : Addr) (v : Value) : (w.drewN n).setCell a v = (w.setCell a v).drewN n := rfl
theorem modNat (z : Int) : ∃ n : Nat, z % 18446744073709551616 = (n : Int) := ⟨(z % 18446744073709551616).toNat, (Int.toNat_of_nonneg (Int.emod_nonneg _ (by decide))).symm⟩
theorem wrapI {z : Int} {n : Nat} (h : z % 18446744073709551616 = (n : Int)) : IntKind.u64.wrap z = (n : Int) := by rw [IntKind.wrap_u64]; exact h

set_option maxHeartbeats 1000000 in
set_option maxRecDepth 100000 in
theorem nextA (g h : Nat) (w : World) (c0 : w.cell? ⟨g, 0, none⟩ = some (.int .u64 (h : Int))) (c1 : w.cell? ⟨g, 1, none⟩ = some (.int .u64 1)) (f0 : w.frozen? ⟨g, 0, none⟩ = false) (f1 : w.frozen? ⟨g, 1, none⟩ = false) :
    Calls Yba.prog 72 #[.pointer (some ⟨g, 0, none⟩)] w fun e w' => e = .returned (.tuple #[.int .u64 (nextH 0 1 h : Nat), .int .u64 6308235636603385748]) ∧ Drawn ((w.setCell ⟨g, 1, none⟩ (.int .u64 6308235636603385748)).setCell ⟨g, 0, none⟩ (.int .u64 (nextH 0 1 h : Nat))) w' := by
  have hl := add_lA
  have hh := add_h
  obtain ⟨A1, hA1⟩ : ∃ A1 : Nat, ((h : Int) * 4865540595714422341) % 18446744073709551616 = (A1 : Int) := modNat _
  have e1 : IntKind.u64.wrap ((h : Int) * 4865540595714422341) = (A1 : Int) := wrapI hA1
  have e2 : IntKind.u64.wrap 2549297995355413924 = 2549297995355413924 := by rw [IntKind.wrap_u64]; rfl
  obtain ⟨A2, hA2⟩ : ∃ A2 : Nat, ((A1 : Int) + 2549297995355413924) % 18446744073709551616 = (A2 : Int) := modNat _
  have e3 : IntKind.u64.wrap ((A1 : Int) + 2549297995355413924) = (A2 : Int) := wrapI hA2
  obtain ⟨A3, hA3⟩ : ∃ A3 : Nat, ((A2 : Int)) % 18446744073709551616 = (A3 : Int) := modNat _
  have e4 : IntKind.u64.wrap ((A2 : Int)) = (A3 : Int) := wrapI hA3
  have HA : ((A3 : Int) + 6364136223846793005) % 18446744073709551616 = ((nextH 0 1 h : Nat) : Int) := by
    have e : ((nextH 0 1 h : Nat) : Int) = ((0 + ((h : Int) * 4865540595714422341 + 1 * 2549297995355413924)) + 6364136223846793005) % 18446744073709551616 := by
      unfold nextH
      simp
    rw [e, ← hA3, ← hA2, ← hA1]
    simp [Int.emod_add_emod, ← Int.add_assoc]
  clear hA1 hA2 hA3
  go_enter Yba.func72, Yba.ntmps72
  go_wp2_with fail
  refine (mul_A w).mono ?_
  rintro _ w ⟨rfl, rfl⟩
  go_upto_region 2 with (fail)
  go_quiet (fail)
  go_wp2_with fail
  generalize Value.int IntKind.u64 ((nextH 0 1 h : Nat) : Int) = V
  generalize Value.int IntKind.u64 6308235636603385748 = V2
  clear HA e1 e2 e3 e4 hl hh
  go_ret2
  exact ⟨rfl, nq, by rw [drewN_set, drewN_set]⟩

set_option maxHeartbeats 1000000 in
set_option maxRecDepth 100000 in
theorem nextB (g h : Nat) (w : World) (c0 : w.cell? ⟨g, 0, none⟩ = some (.int .u64 (h : Int))) (c1 : w.cell? ⟨g, 1, none⟩ = some (.int .u64 6308235636603385748)) (f0 : w.frozen? ⟨g, 0, none⟩ = false) (f1 : w.frozen? ⟨g, 1, none⟩ = false) :
    Calls Yba.prog 72 #[.pointer (some ⟨g, 0, none⟩)] w fun e w' => e = .returned (.tuple #[.int .u64 (nextH 1663869594253766626 6308235636603385748 h : Nat), .int .u64 18356219113935991859]) ∧ Drawn ((w.setCell ⟨g, 1, none⟩ (.int .u64 18356219113935991859)).setCell ⟨g, 0, none⟩ (.int .u64 (nextH 1663869594253766626 6308235636603385748 h : Nat))) w' := by
  have hl := add_lB
  have hh := add_h
  obtain ⟨A1, hA1⟩ : ∃ A1 : Nat, ((h : Int) * 4865540595714422341) % 18446744073709551616 = (A1 : Int) := modNat _
  have e1 : IntKind.u64.wrap ((h : Int) * 4865540595714422341) = (A1 : Int) := wrapI hA1
  have e2 : IntKind.u64.wrap 16081572462622594678709822620382355152 = 3088218848902864592 := by rw [IntKind.wrap_u64]; rfl
  obtain ⟨A2, hA2⟩ : ∃ A2 : Nat, ((A1 : Int) + 3088218848902864592) % 18446744073709551616 = (A2 : Int) := modNat _
  have e3 : IntKind.u64.wrap ((A1 : Int) + 3088218848902864592) = (A2 : Int) := wrapI hA2
  obtain ⟨A3, hA3⟩ : ∃ A3 : Nat, (1663869594253766626 + (A2 : Int)) % 18446744073709551616 = (A3 : Int) := modNat _
  have e4 : IntKind.u64.wrap (1663869594253766626 + (A2 : Int)) = (A3 : Int) := wrapI hA3
  have HA : ((A3 : Int) + 6364136223846793005) % 18446744073709551616 = ((nextH 1663869594253766626 6308235636603385748 h : Nat) : Int) := by
    have e : ((nextH 1663869594253766626 6308235636603385748 h : Nat) : Int) = ((1663869594253766626 + ((h : Int) * 4865540595714422341 + 6308235636603385748 * 2549297995355413924)) + 6364136223846793005) % 18446744073709551616 := by
      unfold nextH
      simp
    rw [e, ← hA3, ← hA2, ← hA1]
    simp only [Int.emod_add_emod, Int.add_emod_emod, ← Int.add_assoc]
    generalize (h : Int) * 4865540595714422341 = Z
    omega
  clear hA1 hA2 hA3
  go_enter Yba.func72, Yba.ntmps72
  go_wp2_with fail
  refine (mul_B w).mono ?_
  rintro _ w ⟨rfl, rfl⟩
  go_upto_region 2 with (fail)
  go_quiet (fail)
  go_wp2_with fail
  generalize Value.int IntKind.u64 ((nextH 1663869594253766626 6308235636603385748 h : Nat) : Int) = V
  generalize Value.int IntKind.u64 18356219113935991859 = V2
  clear HA e1 e2 e3 e4 hl hh
  go_ret2
  exact ⟨rfl, nq, by rw [drewN_set, drewN_set]⟩

end Go.Proofs.Ybulkaehe
