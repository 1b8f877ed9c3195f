/-
  CLOSED FACTS FOR THE WALK OVER fmt's STOPPED FRONT, typed after the guide's worked texts: no tool for them lies in this box.
-/
import Derived.Test.YbulkaefaFmtRows
import Derived.Stop.CallBack
import Derived.Stop.IfaceNil
import GoSem.ClaimData
import Derived.WalkKit
namespace Go.Proofs.YbulkaefaFmt
open Go.Extern.Stop Go.Stop Go.Extern

theorem f_call17 (args : Array Value) (w : World) : (callFunc 17 args).run Ybaf.prog w = ((FmtStop.errorf #[9, 123] #[42] args).run Ybaf.prog w).andThen fun v w' => .ok (.value v) w' :=
  run_callFunc_extern Ybaf.func17 (by kernel_rfl) (by kernel_rfl) (by kernel_rfl) (by kernel_rfl) args w
theorem f_guard (name : String) (w : World) : (FmtStop.guard name).run Ybaf.prog w = .ok () w := by kernel_rfl

/-- The format of a packet from another node. -/
def fm0 : ByteArray := ⟨#[97, 32, 112, 97, 99, 107, 101, 116, 32, 102, 114, 111, 109, 32, 37, 115, 32, 103, 105, 118, 101, 110, 32, 116, 111, 32, 116, 104, 101, 32, 116, 114, 97, 110, 115, 112, 111, 114, 116, 32, 111, 102, 32, 37, 115]⟩
/-- The format of a packet to a node outside the group. -/
def fm1 : ByteArray := ⟨#[37, 115, 32, 105, 115, 32, 110, 111, 116, 32, 97, 110, 111, 116, 104, 101, 114, 32, 110, 111, 100, 101, 32, 111, 102, 32, 116, 104, 101, 32, 103, 114, 111, 117, 112, 32, 111, 102, 32, 37, 115]⟩
theorem f_fmt0 : FmtStop.printed? ⟨#[97, 32, 112, 97, 99, 107, 101, 116, 32, 102, 114, 111, 109, 32, 37, 115, 32, 103, 105, 118, 101, 110, 32, 116, 111, 32, 116, 104, 101, 32, 116, 114, 97, 110, 115, 112, 111, 114, 116, 32, 111, 102, 32, 37, 115]⟩ 2 = some [(0, 115, false), (1, 115, false)] := by kernel_rfl
theorem f_fmt0r (w : World) : (FmtDoors.printed ⟨#[97, 32, 112, 97, 99, 107, 101, 116, 32, 102, 114, 111, 109, 32, 37, 115, 32, 103, 105, 118, 101, 110, 32, 116, 111, 32, 116, 104, 101, 32, 116, 114, 97, 110, 115, 112, 111, 114, 116, 32, 111, 102, 32, 37, 115]⟩ 2).run Ybaf.prog w = .ok [(0, 115, false), (1, 115, false)] w := by kernel_rfl
theorem f_fmt1 : FmtStop.printed? ⟨#[37, 115, 32, 105, 115, 32, 110, 111, 116, 32, 97, 110, 111, 116, 104, 101, 114, 32, 110, 111, 100, 101, 32, 111, 102, 32, 116, 104, 101, 32, 103, 114, 111, 117, 112, 32, 111, 102, 32, 37, 115]⟩ 2 = some [(0, 115, false), (1, 115, false)] := by kernel_rfl
theorem f_fmt1r (w : World) : (FmtDoors.printed ⟨#[37, 115, 32, 105, 115, 32, 110, 111, 116, 32, 97, 110, 111, 116, 104, 101, 114, 32, 110, 111, 100, 101, 32, 111, 102, 32, 116, 104, 101, 32, 103, 114, 111, 117, 112, 32, 111, 102, 32, 37, 115]⟩ 2).run Ybaf.prog w = .ok [(0, 115, false), (1, 115, false)] w := by kernel_rfl
def shape9 : List UInt8 := [12, 6, 0, 0, 0, 0, 0, 0, 0, 115, 116, 114, 105, 110, 103]
theorem f_op9 (name : String) (x : ByteArray) (w : World) : (FmtStop.operand name true 115 false (.iface 9 (.string x))).run Ybaf.prog w = .ok (shape9, FmtStop.pack x.data.toList) w := by kernel_rfl
theorem f_ptr (w : World) : (FmtStop.ptrTo "errors.errorString").run Ybaf.prog w = .ok 134 w := by kernel_rfl
theorem f_elem (w : World) : (elemOf 134).run Ybaf.prog w = .ok 136 w := by kernel_rfl
attribute [local go_sem] f_call17 f_guard f_fmt0 f_fmt0r f_fmt1 f_fmt1r f_op9 f_ptr f_elem

set_option maxHeartbeats 1000000 in
/-- fmt.Errorf at the first format: a new error. -/
theorem errorf0 (F : Interp) (s t : ByteArray) (blk : Nat) (w : World) (hF : F.answers w.tape) (hc0 : w.cell? ⟨blk, 0, none⟩ = some (.iface 9 (.string s))) (hc1 : w.cell? ⟨blk, 1, none⟩ = some (.iface 9 (.string t))) :
    Calls Ybaf.prog 12 #[.string fm0, .slice (some ⟨blk, 0, none⟩) 2 2] w fun e w' => ∃ text, e = .returned (.iface 134 (.pointer (some ⟨w.heap.size, 0, none⟩))) ∧ w' = (w.alloc (.cells #[.string text] 136)).drew := by
  have hF' := hF
  unfold Interp.answers at hF'
  unfold fm0
  go_enter Ybaf.func12, Ybaf.ntmps12
  go_wp2
  go_ret
  exact ⟨_, rfl, rfl⟩
set_option maxHeartbeats 1000000 in
theorem errorf1 (F : Interp) (s t : ByteArray) (blk : Nat) (w : World) (hF : F.answers w.tape) (hc0 : w.cell? ⟨blk, 0, none⟩ = some (.iface 9 (.string s))) (hc1 : w.cell? ⟨blk, 1, none⟩ = some (.iface 9 (.string t))) :
    Calls Ybaf.prog 12 #[.string fm1, .slice (some ⟨blk, 0, none⟩) 2 2] w fun e w' => ∃ text, e = .returned (.iface 134 (.pointer (some ⟨w.heap.size, 0, none⟩))) ∧ w' = (w.alloc (.cells #[.string text] 136)).drew := by
  have hF' := hF
  unfold Interp.answers at hF'
  unfold fm1
  go_enter Ybaf.func12, Ybaf.ntmps12
  go_wp2
  go_ret
  exact ⟨_, rfl, rfl⟩
end Go.Proofs.YbulkaefaFmt
