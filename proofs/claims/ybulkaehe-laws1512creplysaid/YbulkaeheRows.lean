/-
  No cell of these rows narrows 'for every input' (looked for: loops, veiled, ifaces, maps, wideKeys, modest, calm, conditions, laid).
  DERIVED. THE GIVEN ROWS OF THIS SEAT. 2 by the template 'for every input the law returns true; each argument reads behind the call as it read before'; 0 by the template 'total and deterministic' (their statements: YbulkaeheTotals.lean).
  GIVEN WITH THE SEED: the statements are not yours to turn. If you find one false, say at which input.
  Laid BY PROGRAM, IN A SANDBOX (cutbox-rows.mjs): the forced cells as the released guide's own fill.sh prints them over the translation 4839fdbd7e3a02a1… (all of the seat's roots in one cut). By AI agents, Wed Nov 11 2026. No macro, syntax, notation, axiom, sorry.
-/
import Derived.Test.YbulkaeheChecked
import GoSem.Claim
import GoSem.ClaimJoined
import GoSem.ClaimMapViews
import Derived.JoinedTies
import Derived.KernelRfl
namespace Go.Proofs.Ybulkaehe
/- THE CELL 'sum', in the pinned program and in every row, IS THE sha256 OF THE DUMP (.gsa) THAT YbulkaeheProg.lean LOADS. Nothing in Lean hashes anything: it is a label: what it is worth is what the hold of that sum in a sandbox is worth. -/
noncomputable def Yba.pinned : Pinned := { name := "ybulkaehe", sum := "4839fdbd7e3a02a1f5174a4573e393ae5d3aad1185a1b6257df79bfe2b7fba45", checked := Yba.checked }
namespace Rows
def none {H : Type} : Left H := { results := [], args := [] }

/-- 'paxos.LawS1512BForget': WHATEVER THE INPUT: true; the input reads as it did. -/
def lawS1512BForgetSpec : ChangeSpec := { name := "lawS1512BForget", fn := fun _ => fun
  | [d1, d2, d3, d4, d5] => { results := [.lit (.bool true)], args := [d1, d2, d3, d4, d5] }
  | _ => none }
def lawS1512BForgetRow : OpenClaim := { program := "ybulkaehe", sum := "4839fdbd7e3a02a1f5174a4573e393ae5d3aad1185a1b6257df79bfe2b7fba45", func := "example.com/anamnesis/anamnesis/internal/paxos.LawS1512BForget", spec := "lawS1512BForget", plainKeys := false, apart := false }
def LawS1512BForgetSaid : Prop := lawS1512BForgetRow.holds Yba.pinned (OpenSpec.ofChange lawS1512BForgetSpec)

/-- ITS FALSE NEIGHBOUR: 'it returns false'. Refute it at one input. -/
def lawS1512BForgetWrong : ChangeSpec := { name := "lawS1512BForget", fn := fun _ => fun
  | [d1, d2, d3, d4, d5] => { results := [.lit (.bool false)], args := [d1, d2, d3, d4, d5] }
  | _ => none }
def LawS1512BForgetWrongFalsely : Prop := lawS1512BForgetRow.holds Yba.pinned (OpenSpec.ofChange lawS1512BForgetWrong)

/-- 'paxos.LawS1512CReply': WHATEVER THE INPUT: true; the input reads as it did. -/
def lawS1512CReplySpec : ChangeSpec := { name := "lawS1512CReply", fn := fun _ => fun
  | [d1, d2, d3, d4, d5, d6] => { results := [.lit (.bool true)], args := [d1, d2, d3, d4, d5, d6] }
  | _ => none }
def lawS1512CReplyRow : OpenClaim := { program := "ybulkaehe", sum := "4839fdbd7e3a02a1f5174a4573e393ae5d3aad1185a1b6257df79bfe2b7fba45", func := "example.com/anamnesis/anamnesis/internal/paxos.LawS1512CReply", spec := "lawS1512CReply", unfollowed := true, recurses := true, plainKeys := false, apart := false }
def LawS1512CReplySaid : Prop := lawS1512CReplyRow.holds Yba.pinned (OpenSpec.ofChange lawS1512CReplySpec)

/-- ITS FALSE NEIGHBOUR: 'it returns false'. Refute it at one input. -/
def lawS1512CReplyWrong : ChangeSpec := { name := "lawS1512CReply", fn := fun _ => fun
  | [d1, d2, d3, d4, d5, d6] => { results := [.lit (.bool false)], args := [d1, d2, d3, d4, d5, d6] }
  | _ => none }
def LawS1512CReplyWrongFalsely : Prop := lawS1512CReplyRow.holds Yba.pinned (OpenSpec.ofChange lawS1512CReplyWrong)

end Rows
end Go.Proofs.Ybulkaehe
