/-
  'Rows.LawS1508BRouteToldSaid': the told and tied card of the law.
-/
import Derived.Test.YbulkaefaFmtLift
import Derived.Test.YbulkaefaFmtTie
import Derived.Test.YbulkaefaFmtCards
import Derived.SevenTiedAt
namespace Go.Proofs.YbulkaefaFmt.lawS1508BRoute
open Go.Extern.Stop Go.Stop Go.Extern

theorem proved : Rows.LawS1508BRouteToldSaid :=
  Claim7.holds_of_told_tied_any_at .later 5 Ybaf.f5 "fmt.errorf" [] [] _ _ _ _ _ (by kernel_rfl) rfl rfl rfl laidOut (by kernel_rfl) rfl ⟨rfl, rfl, rfl, rfl, rfl, rfl, rfl⟩ rfl rfl (by kernel_rfl) (by kernel_rfl) Ybaf.func5 (by kernel_rfl)
    (of_decide_eq_true (by kernel_rfl)) (of_decide_eq_true (by kernel_rfl)) stops.symm rfl stopKnobs.symm (by kernel_rfl)
    (by kernel_rfl) (by kernel_rfl) (by kernel_rfl) (by kernel_rfl) (by kernel_rfl) (by kernel_rfl) (by kernel_rfl) (by kernel_rfl) (by kernel_rfl) rfl (by kernel_rfl) rfl rfl
    rfl rfl
    rfl (by kernel_rfl) (by kernel_rfl) (by kernel_rfl) (by decide) (by kernel_rfl) lawS1508BRoute_row_tie
    (OpenClaim.moreEntering_of (by kernel_rfl) (by kernel_rfl) (by kernel_rfl) (by kernel_rfl) (by kernel_rfl) (by kernel_rfl) (by kernel_rfl) (by kernel_rfl) (by kernel_rfl) (by kernel_rfl))
    ⟨_, WideRow.started_initial, quiet _⟩
    (fun os started _ H enc _ => lifted os started H enc)
end Go.Proofs.YbulkaefaFmt.lawS1508BRoute
