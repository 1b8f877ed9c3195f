/-
  No cell of these rows narrows 'for every input' (looked for: loops, veiled, ifaces, maps, wideKeys, modest, calm, conditions, laid).
  DERIVED. THE GIVEN ROWS OF THIS SEAT. 2 by the template 'for every input the law returns true; each argument reads behind the call as it read before'; 0 by the template 'total and deterministic' (their statements: YbulkaejiTotals.lean).
  GIVEN WITH THE SEED: the statements are not yours to turn. If you find one false, say at which input.
  Laid BY PROGRAM, IN A SANDBOX (cutbox-rows.mjs): the forced cells as the released guide's own fill.sh prints them over the translation 099b4d7745b1c7c0… (all of the seat's roots in one cut). By AI agents, Wed Nov 11 2026. No macro, syntax, notation, axiom, sorry.
-/
import Derived.Test.YbulkaejiChecked
import GoSem.Claim
import GoSem.ClaimJoined
import GoSem.ClaimMapViews
import Derived.JoinedTies
import Derived.KernelRfl
namespace Go.Proofs.Ybulkaeji
/- THE CELL 'sum', in the pinned program and in every row, IS THE sha256 OF THE DUMP (.gsa) THAT YbulkaejiProg.lean LOADS. Nothing in Lean hashes anything: it is a label: what it is worth is what the hold of that sum in a sandbox is worth. -/
noncomputable def Yba.pinned : Pinned := { name := "ybulkaeji", sum := "099b4d7745b1c7c022cc4e2d246ef5013f7226a803c6cefae7db433c823436ff", checked := Yba.checked }
namespace Rows
def none {H : Type} : Left H := { results := [], args := [] }

/-- 'sluice.LawS1516BExact': WHATEVER THE INPUT: true; the input reads as it did. -/
def lawS1516BExactSpec : ChangeSpec := { name := "lawS1516BExact", fn := fun _ => fun
  | [d1, d2] => { results := [.lit (.bool true)], args := [d1, d2] }
  | _ => none }
def lawS1516BExactRow : OpenClaim := { program := "ybulkaeji", sum := "099b4d7745b1c7c022cc4e2d246ef5013f7226a803c6cefae7db433c823436ff", func := "example.com/sluice/sluice.LawS1516BExact", spec := "lawS1516BExact", apart := false }
def LawS1516BExactSaid : Prop := lawS1516BExactRow.holds Yba.pinned (OpenSpec.ofChange lawS1516BExactSpec)

/-- ITS FALSE NEIGHBOUR: 'it returns false'. Refute it at one input. -/
def lawS1516BExactWrong : ChangeSpec := { name := "lawS1516BExact", fn := fun _ => fun
  | [d1, d2] => { results := [.lit (.bool false)], args := [d1, d2] }
  | _ => none }
def LawS1516BExactWrongFalsely : Prop := lawS1516BExactRow.holds Yba.pinned (OpenSpec.ofChange lawS1516BExactWrong)

/-- 'sluice.LawS1516BTwice': WHATEVER THE INPUT: true; the input reads as it did. -/
def lawS1516BTwiceSpec : ChangeSpec := { name := "lawS1516BTwice", fn := fun _ => fun
  | [d1, d2, d3] => { results := [.lit (.bool true)], args := [d1, d2, d3] }
  | _ => none }
def lawS1516BTwiceRow : OpenClaim := { program := "ybulkaeji", sum := "099b4d7745b1c7c022cc4e2d246ef5013f7226a803c6cefae7db433c823436ff", func := "example.com/sluice/sluice.LawS1516BTwice", spec := "lawS1516BTwice", apart := false }
def LawS1516BTwiceSaid : Prop := lawS1516BTwiceRow.holds Yba.pinned (OpenSpec.ofChange lawS1516BTwiceSpec)

/-- ITS FALSE NEIGHBOUR: 'it returns false'. Refute it at one input. -/
def lawS1516BTwiceWrong : ChangeSpec := { name := "lawS1516BTwice", fn := fun _ => fun
  | [d1, d2, d3] => { results := [.lit (.bool false)], args := [d1, d2, d3] }
  | _ => none }
def LawS1516BTwiceWrongFalsely : Prop := lawS1516BTwiceRow.holds Yba.pinned (OpenSpec.ofChange lawS1516BTwiceWrong)

end Rows
end Go.Proofs.Ybulkaeji
