/-
  isClosed AND closed: a select of one receive case with a default, in one goroutine: the channel is open and empty; it is shut.
-/
import Derived.Test.YbulkaefaFmtFacts
import Derived.Conc.LoneSelect
import Derived.KernelRfl
import Derived.Laws.Rows
namespace Go.Proofs.YbulkaefaFmt
open Go.Conc Go.RowKit

set_option maxRecDepth 100000 in
theorem isClosed_open (c cap s r : Nat) (tm : Bool) (w : World) (hc : w.heap[c]? = some (.chan cap #[] false s r tm)) : Calls Ybaf.prog 23 #[.chan (some c)] w fun e w' => e = .returned (.bool false) ∧ w' = w := by
  refine calls_of_loneTo fun cs => ?_
  have e : Frame.enter Ybaf.prog 23 #[.chan (some c)] .normal = (base 23).at ⟨#[.chan (some c), undef, undef, undef, undef, undef, undef], []⟩ [.code (Ybaf.f23.body.getD .skip)] := by
    simp [Frame.enter, Frame.at, Ybaf.func23, base, Ybaf.f23]
  rw [e]
  refine LoneTo.goes (n := 10) ?_
  simp only [Ybaf.f23, Option.getD_some]
  s_c stepG_seq
  s_reg
  s_op
  s_c stepG_region_end
  s_c stepG_seq
  s_reg
  s_op
  s_c stepG_region_end
  s_c stepG_seq
  s_reg
  s_stop
  refine LoneTo.step (step_lone_select_default (c := c) (z := .agg #[]) (stepG_comm (cases := #[rcase c (.agg #[])]) (blocking := false) (shape := .select) (w' := w) rfl rfl (by decide) (by simp [go_sem, execOp, rcase, Act.eval])) hc) ?_
  rw [Frame.finish_at]
  walk_nrm
  refine LoneTo.goes (n := 10) ?_
  s_op
  s_op
  s_c stepG_region_end
  s_c stepG_block
  s_cond false
  s_c stepG_seq
  s_reg
  s_op
  s_c stepG_region_end
  s_c stepG_ret'
  s_stop
  exact LoneTo.done ⟨.returned (.bool false), _, rfl, ⟨rfl, rfl⟩, rfl, rfl, rfl, rfl, _, Ybaf.func23, by simp [results, Ybaf.f23, Frame.at]⟩
set_option maxRecDepth 100000 in
theorem isClosed_shut (c cap s r : Nat) (tm : Bool) (w : World) (hc : w.heap[c]? = some (.chan cap #[] true s r tm)) : Calls Ybaf.prog 23 #[.chan (some c)] w fun e w' => e = .returned (.bool true) ∧ w' = w := by
  refine calls_of_loneTo fun cs => ?_
  have e : Frame.enter Ybaf.prog 23 #[.chan (some c)] .normal = (base 23).at ⟨#[.chan (some c), undef, undef, undef, undef, undef, undef], []⟩ [.code (Ybaf.f23.body.getD .skip)] := by
    simp [Frame.enter, Frame.at, Ybaf.func23, base, Ybaf.f23]
  rw [e]
  refine LoneTo.goes (n := 10) ?_
  simp only [Ybaf.f23, Option.getD_some]
  s_c stepG_seq
  s_reg
  s_op
  s_c stepG_region_end
  s_c stepG_seq
  s_reg
  s_op
  s_c stepG_region_end
  s_c stepG_seq
  s_reg
  s_stop
  refine LoneTo.step (step_lone_select_recv_shut (c := c) (z := .agg #[]) (stepG_comm (cases := #[rcase c (.agg #[])]) (blocking := false) (shape := .select) (w' := w) rfl rfl (by decide) (by simp [go_sem, execOp, rcase, Act.eval])) hc) ?_
  rw [Frame.finish_at]
  walk_nrm
  refine LoneTo.goes (n := 10) ?_
  s_op
  s_op
  s_c stepG_region_end
  s_c stepG_block
  s_cond true
  s_c stepG_seq
  s_reg
  s_op
  s_c stepG_region_end
  s_c stepG_ret'
  s_stop
  exact LoneTo.done ⟨.returned (.bool true), _, rfl, ⟨rfl, rfl⟩, rfl, rfl, rfl, rfl, _, Ybaf.func23, by simp [results, Ybaf.f23, Frame.at]⟩

set_option maxHeartbeats 1000000 in
/-- closed, on a transport at block tb whose done is the channel c. -/
theorem closed_any (tb c cap s r : Nat) (tm b : Bool) (w : World) (hd : w.cell? ⟨tb, 15, none⟩ = some (.chan (some c))) (hc : w.heap[c]? = some (.chan cap #[] b s r tm)) : Calls Ybaf.prog 16 #[.pointer (some ⟨tb, 0, none⟩)] w fun e w' => e = .returned (.bool b) ∧ w' = w := by
  go_enter Ybaf.func16, Ybaf.ntmps16
  cases b with
  | false =>
    go_wp2_with fail
    refine (isClosed_open c cap s r tm w hc).mono ?_
    rintro _ _ ⟨rfl, rfl⟩
    go_wp2_with fail
    go_ret
    exact ⟨rfl, rfl⟩
  | true =>
    go_wp2_with fail
    refine (isClosed_shut c cap s r tm w hc).mono ?_
    rintro _ _ ⟨rfl, rfl⟩
    go_wp2_with fail
    go_ret
    exact ⟨rfl, rfl⟩
end Go.Proofs.YbulkaefaFmt
