/-
  DERIVED. GIVEN WITH THE SEED: THE CARDS: each row of YbulkaefaFmtRows.lean that lists a variable, with what it lists TIED to the program's text (the seventh form; the later family's looks); each row that meets fmt, with fmt's text TOLD by the authors' own Lean function (tested against real Go, not proved from fmt's source: count such statements apart). THE CARD IS WHAT COUNTS. Prove the row's statement (the work); the ties are given (YbulkaefaFmtTie.lean); close each card by the builder's one call (the guide's Derived/Test/ToyasCard.lean, 'card_holds'). Laid BY PROGRAM, IN A SANDBOX (cutbox-door.mjs). By AI agents, Wed Nov 11 2026. No macro, syntax, notation, axiom, sorry.
-/
import Derived.Test.YbulkaefaFmtRows
import GoSem.ClaimSeven
namespace Go.Proofs.YbulkaefaFmt
namespace Rows

/-- THE TOLD AND TIED CARD OF 'causalis.LawS1508AFresh'. -/
def lawS1508AFreshCard : Claim7 := { stood := { row := lawS1508AFreshRow, standIns := [], harness := (true, "a6d7c85815744c037a52c904651721938e1da7c55c5172f91d0b9f78b0aeee9d"), looks := true }, told := true, laidByText := true, laidKinds := [.data, .data, .data], laidTests := true, laidLooks := .later, goes := false }
def LawS1508AFreshToldSaid : Prop := Claim7.holds Ybaf.pinned (.plain (OpenSpec.ofChange lawS1508AFreshSpec)) lawS1508AFreshCard
/-- ITS FALSE NEIGHBOUR. Refute it at one input. -/
def LawS1508AFreshToldWrongFalsely : Prop := Claim7.holds Ybaf.pinned (.plain (OpenSpec.ofChange lawS1508AFreshWrong)) lawS1508AFreshCard

/-- THE TOLD AND TIED CARD OF 'causalis.LawS1508ACached'. -/
def lawS1508ACachedCard : Claim7 := { stood := { row := lawS1508ACachedRow, standIns := [], harness := (true, "a6d7c85815744c037a52c904651721938e1da7c55c5172f91d0b9f78b0aeee9d"), looks := true }, told := true, laidByText := true, laidKinds := [.data, .data, .data], laidTests := true, laidLooks := .later, goes := false }
def LawS1508ACachedToldSaid : Prop := Claim7.holds Ybaf.pinned (.plain (OpenSpec.ofChange lawS1508ACachedSpec)) lawS1508ACachedCard
/-- ITS FALSE NEIGHBOUR. Refute it at one input. -/
def LawS1508ACachedToldWrongFalsely : Prop := Claim7.holds Ybaf.pinned (.plain (OpenSpec.ofChange lawS1508ACachedWrong)) lawS1508ACachedCard

/-- THE TOLD AND TIED CARD OF 'causalis.LawS1508BRoute'. -/
def lawS1508BRouteCard : Claim7 := { stood := { row := lawS1508BRouteRow, standIns := [], harness := (true, "a6d7c85815744c037a52c904651721938e1da7c55c5172f91d0b9f78b0aeee9d"), looks := true }, told := true, laidByText := true, laidKinds := [.sentinel], laidTests := true, laidLooks := .later, goes := false }
def LawS1508BRouteToldSaid : Prop := Claim7.holds Ybaf.pinned (.plain (OpenSpec.ofChange lawS1508BRouteSpec)) lawS1508BRouteCard
/-- ITS FALSE NEIGHBOUR. Refute it at one input. -/
def LawS1508BRouteToldWrongFalsely : Prop := Claim7.holds Ybaf.pinned (.plain (OpenSpec.ofChange lawS1508BRouteWrong)) lawS1508BRouteCard
end Rows
end Go.Proofs.YbulkaefaFmt
