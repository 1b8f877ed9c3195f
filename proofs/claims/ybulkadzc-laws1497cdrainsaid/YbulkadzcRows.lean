/-
  No cell of these rows narrows 'for every input' (looked for: loops, veiled, ifaces, maps, wideKeys, modest, calm, conditions, laid).
  DERIVED. THE GIVEN ROWS OF THIS SEAT. 3 by the template 'for every input the law returns true; each argument reads behind the call as it read before'; 0 by the template 'total and deterministic' (their statements: YbulkadzcTotals.lean).
  GIVEN WITH THE SEED: the statements are not yours to turn. If you find one false, say at which input.
  Laid BY PROGRAM, IN A SANDBOX (cutbox-rows.mjs): the forced cells as the released guide's own fill.sh prints them over the translation b5db55171e6d7d38… (all of the seat's roots in one cut). By AI agents, Wed Nov 11 2026. No macro, syntax, notation, axiom, sorry.
-/
import Derived.Test.YbulkadzcChecked
import GoSem.Claim
import GoSem.ClaimJoined
import GoSem.ClaimMapViews
import Derived.JoinedTies
import Derived.KernelRfl
namespace Go.Proofs.Ybulkadzc
/- THE CELL 'sum', in the pinned program and in every row, IS THE sha256 OF THE DUMP (.gsa) THAT YbulkadzcProg.lean LOADS. Nothing in Lean hashes anything: it is a label: what it is worth is what the hold of that sum in a sandbox is worth. -/
noncomputable def Yba.pinned : Pinned := { name := "ybulkadzc", sum := "b5db55171e6d7d38fcbe5c38ca323c9ef4a8e50332e0dd5b49f90aa410a3d3e0", checked := Yba.checked }
namespace Rows
def none {H : Type} : Left H := { results := [], args := [] }

/-- 'queue.LawS1497BFix': WHATEVER THE INPUT: true; the input reads as it did. -/
def lawS1497BFixSpec : ChangeSpec := { name := "lawS1497BFix", fn := fun _ => fun
  | [d1, d2, d3, d4] => { results := [.lit (.bool true)], args := [d1, d2, d3, d4] }
  | _ => none }
def lawS1497BFixRow : OpenClaim := { program := "ybulkadzc", sum := "b5db55171e6d7d38fcbe5c38ca323c9ef4a8e50332e0dd5b49f90aa410a3d3e0", func := "example.com/timer-heap/timer-heap/queue.LawS1497BFix", spec := "lawS1497BFix", apart := false }
def LawS1497BFixSaid : Prop := lawS1497BFixRow.holds Yba.pinned (OpenSpec.ofChange lawS1497BFixSpec)

/-- ITS FALSE NEIGHBOUR: 'it returns false'. Refute it at one input. -/
def lawS1497BFixWrong : ChangeSpec := { name := "lawS1497BFix", fn := fun _ => fun
  | [d1, d2, d3, d4] => { results := [.lit (.bool false)], args := [d1, d2, d3, d4] }
  | _ => none }
def LawS1497BFixWrongFalsely : Prop := lawS1497BFixRow.holds Yba.pinned (OpenSpec.ofChange lawS1497BFixWrong)

/-- 'queue.LawS1497CTrack': WHATEVER THE INPUT: true; the input reads as it did. -/
def lawS1497CTrackSpec : ChangeSpec := { name := "lawS1497CTrack", fn := fun _ => fun
  | [d] => { results := [.lit (.bool true)], args := [d] }
  | _ => none }
def lawS1497CTrackRow : OpenClaim := { program := "ybulkadzc", sum := "b5db55171e6d7d38fcbe5c38ca323c9ef4a8e50332e0dd5b49f90aa410a3d3e0", func := "example.com/timer-heap/timer-heap/queue.LawS1497CTrack", spec := "lawS1497CTrack", apart := false }
def LawS1497CTrackSaid : Prop := lawS1497CTrackRow.holds Yba.pinned (OpenSpec.ofChange lawS1497CTrackSpec)

/-- ITS FALSE NEIGHBOUR: 'it returns false'. Refute it at one input. -/
def lawS1497CTrackWrong : ChangeSpec := { name := "lawS1497CTrack", fn := fun _ => fun
  | [d] => { results := [.lit (.bool false)], args := [d] }
  | _ => none }
def LawS1497CTrackWrongFalsely : Prop := lawS1497CTrackRow.holds Yba.pinned (OpenSpec.ofChange lawS1497CTrackWrong)

/-- 'queue.LawS1497CDrain': WHATEVER THE INPUT: true; the input reads as it did. -/
def lawS1497CDrainSpec : ChangeSpec := { name := "lawS1497CDrain", fn := fun _ => fun
  | [d] => { results := [.lit (.bool true)], args := [d] }
  | _ => none }
def lawS1497CDrainRow : OpenClaim := { program := "ybulkadzc", sum := "b5db55171e6d7d38fcbe5c38ca323c9ef4a8e50332e0dd5b49f90aa410a3d3e0", func := "example.com/timer-heap/timer-heap/queue.LawS1497CDrain", spec := "lawS1497CDrain", apart := false }
def LawS1497CDrainSaid : Prop := lawS1497CDrainRow.holds Yba.pinned (OpenSpec.ofChange lawS1497CDrainSpec)

/-- ITS FALSE NEIGHBOUR: 'it returns false'. Refute it at one input. -/
def lawS1497CDrainWrong : ChangeSpec := { name := "lawS1497CDrain", fn := fun _ => fun
  | [d] => { results := [.lit (.bool false)], args := [d] }
  | _ => none }
def LawS1497CDrainWrongFalsely : Prop := lawS1497CDrainRow.holds Yba.pinned (OpenSpec.ofChange lawS1497CDrainWrong)

end Rows
end Go.Proofs.Ybulkadzc
