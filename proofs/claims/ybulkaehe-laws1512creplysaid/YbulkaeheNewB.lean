/-
  New: THE REGION THAT MAKES THE NODE: the steps, by program.
-/
import Derived.Test.YbulkaeheSort
namespace Go.Proofs.Ybulkaehe
open Go.RowKit

/-- The operations of a region of a text. -/
def regionOf (id : Nat) : Code → Option (List Oper)
  | .region n ops _ => if n = id then some ops.toList else none
  | .seq a b => (regionOf id a).or (regionOf id b)
  | .cond _ a b => (regionOf id a).or (regionOf id b)
  | .block _ a => regionOf id a
  | .loop a => regionOf id a
  | _ => none
def opsOf (c : Option Code) : List Oper := (c.bind (regionOf 3)).getD []

section
variable {Q : Exit → Act → World → Prop} {a0 : Act} {w0 : World} {B0 C mc : Nat} {mo : Option Addr} {cm : Value} {inc : Int}
theorem step_val {Φ : Nat → World → Value → Prop} (i d : Nat) (op : Op) (xs ts : List Nat) (hop : ((opsOf Yba.f7.body)[i]?).map (fun o => (o.op, o.dst)) = some (op, some d)) (hx : ((opsOf Yba.f7.body)[i]?).all (fun o => xs.all (depB (opsOf Yba.f7.body) o)) = true) (ht : ts.all (outB (opsOf Yba.f7.body)) = true)
    (h : ∀ (o : Oper) (a : Act) (w : World), o.op = op → Ext w0 w → (∀ x ∈ xs, Φ x w (a.tmps.getD x undef)) → (∀ t ∈ ts, a.tmps.getD t undef = a0.tmps.getD t undef) → ∃ v w', (execOp a.eval o).run Yba.prog w = .ok (.value v) w' ∧ Ext w w' ∧ Φ d w' v) :
    ∀ o, (opsOf Yba.f7.body)[i]? = some o → StepOK Yba.prog (opsOf Yba.f7.body) Q Φ a0 w0 o := by
  intro o ho
  rw [ho] at hop hx
  simp only [Option.map_some, Option.some.injEq, Prod.mk.injEq] at hop
  exact mk_val hop.2 xs (by simpa using hx) ts ht (fun a w => h o a w hop.1)
theorem step_call {Φ : Nat → World → Value → Prop} (i d : Nat) (op : Op) (xs : List Nat) (hop : ((opsOf Yba.f7.body)[i]?).map (fun o => (o.op, o.dst)) = some (op, some d)) (hx : ((opsOf Yba.f7.body)[i]?).all (fun o => xs.all (depB (opsOf Yba.f7.body) o)) = true)
    (h : ∀ (o : Oper) (a : Act) (w : World), o.op = op → Ext w0 w → (∀ x ∈ xs, Φ x w (a.tmps.getD x undef)) → ∃ f args, (execOp a.eval o).run Yba.prog w = .ok (.enter f args) w ∧ Calls Yba.prog f args w fun e w' => ∃ v, e = .returned v ∧ Ext w w' ∧ Φ d w' v) :
    ∀ o, (opsOf Yba.f7.body)[i]? = some o → StepOK Yba.prog (opsOf Yba.f7.body) Q Φ a0 w0 o := by
  intro o ho
  rw [ho] at hop hx
  simp only [Option.map_some, Option.some.injEq, Prod.mk.injEq] at hop
  exact mk_call hop.2 xs (by simpa using hx) (fun a w => h o a w hop.1)
def cfg (cm : Value) (inc : Int) : Obj := .cells #[.int .i64 1, cm, .int .i64 0, .int .i64 0, .int .i64 inc, .int .i64 0, .int .i64 0, .bool false] 74 (0, 0)
theorem cfg_cell {w : World} (hC : w0.heap[C]? = some (cfg cm inc)) (hx : Ext w0 w) (k : Nat) {v : Value} (e : (#[Value.int .i64 1, cm, .int .i64 0, .int .i64 0, .int .i64 inc, .int .i64 0, .int .i64 0, .bool false] : Array Value)[k]? = some v) : w.cell? ⟨C, k, none⟩ = some v := by
  rw [World.cell?, hx.some hC]
  simpa [cfg] using e
theorem zero100 : (Yba.prog.built 100 []).isSome = true := by kernel_rfl
theorem node_new (mo : Option Addr) (mc : Nat) (inc : Int) (r b46 b47 b48 b50 b51 b52 b53 b54 b55 : Nat) : (Yba.prog.built 68 [(0, .int .i64 1), (1, .int .i64 inc), (2, .slice mo 3 mc), (3, .int .i64 2), (4, .int .u64 5), (5, .int .u64 50), (6, .int .u64 20), (7, .int .i64 4096), (8, .bool false), (10, .pointer (some ⟨r, 0, none⟩)), (22, .map (some b46)), (34, .map (some b47)), (41, .map (some b48)), (36, .int .u64 1), (38, .pointer (some ⟨b50, 0, none⟩)), (75, .map (some b51)), (70, .map (some b52)), (60, .map (some b53)), (61, .map (some b54)), (72, .map (some b55))]).map (fun c => (c[1]?, c[5]?, c[9]?, c[18]?, c[81]?, c[82]?, c[88]?, c[90]?, c[94]?, c[10]?, c[86]?)) =
    some (some (.int .i64 inc), some (.int .u64 50), some (.int .u64 0), some (.int .u64 0), some (.map none), some (.map none), some (.slice none 0 0), some (.int .i64 0), some (.slice none 0 0), some (.pointer (some ⟨r, 0, none⟩)), some (.map (some b51))) := by kernel_rfl
theorem st0 (h1 : a0.tmps.getD 1 undef = .pointer (some ⟨C, 0, none⟩)) : ∀ o, (opsOf Yba.f7.body)[0]? = some o → StepOK Yba.prog (opsOf Yba.f7.body) Q (Phi B0 C (.slice mo 3 mc) inc) a0 w0 o :=
  step_val 0 11 (.fieldAddr 74 (.tmp 1) 0) [] [1] (by kernel_rfl) (by kernel_rfl) (by kernel_rfl) (by
    intro o a w ho hx hd ht
    have t1 := (ht 1 (by decide)).trans h1
    exact ⟨.pointer (some ⟨C, 0, none⟩), w, by simp [go_sem, execOp, ho, Act.eval, t1], Ext.refl _, rfl⟩)

theorem st1 (hC : w0.heap[C]? = some (cfg cm inc)) : ∀ o, (opsOf Yba.f7.body)[1]? = some o → StepOK Yba.prog (opsOf Yba.f7.body) Q (Phi B0 C (.slice mo 3 mc) inc) a0 w0 o :=
  step_val 1 12 (.load 3 (.tmp 11)) [11] [] (by kernel_rfl) (by kernel_rfl) (by kernel_rfl) (by
    intro o a w ho hx hd ht
    have d0 : a.tmps.getD 11 undef = .pointer (some ⟨C, 0, none⟩) := hd 11 (by decide)
    have c0 := cfg_cell hC hx 0 (v := .int .i64 1) rfl
    exact ⟨.int .i64 1, w, by simp [go_sem, execOp, ho, Act.eval, d0, c0], Ext.refl _, rfl⟩)

theorem st2 (h1 : a0.tmps.getD 1 undef = .pointer (some ⟨C, 0, none⟩)) : ∀ o, (opsOf Yba.f7.body)[2]? = some o → StepOK Yba.prog (opsOf Yba.f7.body) Q (Phi B0 C (.slice mo 3 mc) inc) a0 w0 o :=
  step_val 2 13 (.fieldAddr 74 (.tmp 1) 4) [] [1] (by kernel_rfl) (by kernel_rfl) (by kernel_rfl) (by
    intro o a w ho hx hd ht
    have t1 := (ht 1 (by decide)).trans h1
    exact ⟨.pointer (some ⟨C, 4, none⟩), w, by simp [go_sem, execOp, ho, Act.eval, t1], Ext.refl _, rfl⟩)

theorem st3 (hC : w0.heap[C]? = some (cfg cm inc)) : ∀ o, (opsOf Yba.f7.body)[3]? = some o → StepOK Yba.prog (opsOf Yba.f7.body) Q (Phi B0 C (.slice mo 3 mc) inc) a0 w0 o :=
  step_val 3 14 (.load 2 (.tmp 13)) [13] [] (by kernel_rfl) (by kernel_rfl) (by kernel_rfl) (by
    intro o a w ho hx hd ht
    have d0 : a.tmps.getD 13 undef = .pointer (some ⟨C, 4, none⟩) := hd 13 (by decide)
    have c0 := cfg_cell hC hx 4 (v := .int .i64 inc) rfl
    exact ⟨.int .i64 inc, w, by simp [go_sem, execOp, ho, Act.eval, d0, c0], Ext.refl _, rfl⟩)

theorem st4 (h3 : a0.tmps.getD 3 undef = .slice mo 3 mc) : ∀ o, (opsOf Yba.f7.body)[4]? = some o → StepOK Yba.prog (opsOf Yba.f7.body) Q (Phi B0 C (.slice mo 3 mc) inc) a0 w0 o :=
  step_val 4 15 (.move (.tmp 3)) [] [3] (by kernel_rfl) (by kernel_rfl) (by kernel_rfl) (by
    intro o a w ho hx hd ht
    have t3 := (ht 3 (by decide)).trans h3
    exact ⟨.slice mo 3 mc, w, by simp [go_sem, execOp, ho, Act.eval, t3], Ext.refl _, rfl⟩)

theorem st5 (h3 : a0.tmps.getD 3 undef = .slice mo 3 mc) : ∀ o, (opsOf Yba.f7.body)[5]? = some o → StepOK Yba.prog (opsOf Yba.f7.body) Q (Phi B0 C (.slice mo 3 mc) inc) a0 w0 o :=
  step_val 5 16 (.move (.tmp 3)) [] [3] (by kernel_rfl) (by kernel_rfl) (by kernel_rfl) (by
    intro o a w ho hx hd ht
    have t3 := (ht 3 (by decide)).trans h3
    exact ⟨.slice mo 3 mc, w, by simp [go_sem, execOp, ho, Act.eval, t3], Ext.refl _, rfl⟩)

theorem st6  : ∀ o, (opsOf Yba.f7.body)[6]? = some o → StepOK Yba.prog (opsOf Yba.f7.body) Q (Phi B0 C (.slice mo 3 mc) inc) a0 w0 o :=
  step_val 6 17 (.call { callee := .builtin .len, args := #[.tmp 16], argTypes := #[32] }) [16] [] (by kernel_rfl) (by kernel_rfl) (by kernel_rfl) (by
    intro o a w ho hx hd ht
    have d0 : a.tmps.getD 16 undef = .slice mo 3 mc := hd 16 (by decide)
    exact ⟨.int .i64 3, w, by simp [go_sem, execOp, ho, Act.eval, d0, resolve, invoke, builtin, Builtin.len_, run_underlying Yba.underlying32, Result.andThen, goInt], Ext.refl _, rfl⟩)

theorem st7  : ∀ o, (opsOf Yba.f7.body)[7]? = some o → StepOK Yba.prog (opsOf Yba.f7.body) Q (Phi B0 C (.slice mo 3 mc) inc) a0 w0 o :=
  step_val 7 18 (.binOp .quo 3 (.tmp 17) (.const (.int .i64 2)) 3) [17] [] (by kernel_rfl) (by kernel_rfl) (by kernel_rfl) (by
    intro o a w ho hx hd ht
    have d0 : a.tmps.getD 17 undef = .int .i64 3 := hd 17 (by decide)
    exact ⟨.int .i64 1, w, by simp [go_sem, execOp, ho, Act.eval, d0, show IntKind.i64.wrap 1 = 1 by decide], Ext.refl _, rfl⟩)

theorem st8  : ∀ o, (opsOf Yba.f7.body)[8]? = some o → StepOK Yba.prog (opsOf Yba.f7.body) Q (Phi B0 C (.slice mo 3 mc) inc) a0 w0 o :=
  step_val 8 19 (.binOp .add 3 (.tmp 18) (.const (.int .i64 1)) 3) [18] [] (by kernel_rfl) (by kernel_rfl) (by kernel_rfl) (by
    intro o a w ho hx hd ht
    have d0 : a.tmps.getD 18 undef = .int .i64 1 := hd 18 (by decide)
    exact ⟨.int .i64 2, w, by simp [go_sem, execOp, ho, Act.eval, d0, show IntKind.i64.wrap 2 = 2 by decide], Ext.refl _, rfl⟩)

theorem st9 (h1 : a0.tmps.getD 1 undef = .pointer (some ⟨C, 0, none⟩)) : ∀ o, (opsOf Yba.f7.body)[9]? = some o → StepOK Yba.prog (opsOf Yba.f7.body) Q (Phi B0 C (.slice mo 3 mc) inc) a0 w0 o :=
  step_val 9 20 (.fieldAddr 74 (.tmp 1) 2) [] [1] (by kernel_rfl) (by kernel_rfl) (by kernel_rfl) (by
    intro o a w ho hx hd ht
    have t1 := (ht 1 (by decide)).trans h1
    exact ⟨.pointer (some ⟨C, 2, none⟩), w, by simp [go_sem, execOp, ho, Act.eval, t1], Ext.refl _, rfl⟩)

theorem st10 (hC : w0.heap[C]? = some (cfg cm inc)) : ∀ o, (opsOf Yba.f7.body)[10]? = some o → StepOK Yba.prog (opsOf Yba.f7.body) Q (Phi B0 C (.slice mo 3 mc) inc) a0 w0 o :=
  step_val 10 21 (.load 3 (.tmp 20)) [20] [] (by kernel_rfl) (by kernel_rfl) (by kernel_rfl) (by
    intro o a w ho hx hd ht
    have d0 : a.tmps.getD 20 undef = .pointer (some ⟨C, 2, none⟩) := hd 20 (by decide)
    have c0 := cfg_cell hC hx 2 (v := .int .i64 0) rfl
    exact ⟨.int .i64 0, w, by simp [go_sem, execOp, ho, Act.eval, d0, c0], Ext.refl _, rfl⟩)

theorem st11  : ∀ o, (opsOf Yba.f7.body)[11]? = some o → StepOK Yba.prog (opsOf Yba.f7.body) Q (Phi B0 C (.slice mo 3 mc) inc) a0 w0 o :=
  step_call 11 22 (.call { callee := .value (.func 16), args := #[.tmp 21, .const (.int .i64 5)], argTypes := #[3, 3] }) [21] (by kernel_rfl) (by kernel_rfl) (by
    intro o a w ho hx hd
    have d0 : a.tmps.getD 21 undef = .int .i64 0 := hd 21 (by decide)
    refine ⟨16, #[.int .i64 0, .int .i64 5], by simp [go_sem, execOp, ho, Act.eval, d0], (orDefault 5 w).mono ?_⟩
    rintro _ _ ⟨rfl, rfl⟩
    exact ⟨_, rfl, Ext.refl _, rfl⟩)

theorem st12  : ∀ o, (opsOf Yba.f7.body)[12]? = some o → StepOK Yba.prog (opsOf Yba.f7.body) Q (Phi B0 C (.slice mo 3 mc) inc) a0 w0 o :=
  step_val 12 23 (.convert 3 24 (.tmp 22)) [22] [] (by kernel_rfl) (by kernel_rfl) (by kernel_rfl) (by
    intro o a w ho hx hd ht
    have d0 : a.tmps.getD 22 undef = .int .i64 5 := hd 22 (by decide)
    exact ⟨.int .u64 5, w, by simp [go_sem, execOp, ho, Act.eval, d0, show IntKind.u64.wrap 5 = 5 by decide], Ext.refl _, rfl⟩)

theorem st13 (h1 : a0.tmps.getD 1 undef = .pointer (some ⟨C, 0, none⟩)) : ∀ o, (opsOf Yba.f7.body)[13]? = some o → StepOK Yba.prog (opsOf Yba.f7.body) Q (Phi B0 C (.slice mo 3 mc) inc) a0 w0 o :=
  step_val 13 24 (.fieldAddr 74 (.tmp 1) 3) [] [1] (by kernel_rfl) (by kernel_rfl) (by kernel_rfl) (by
    intro o a w ho hx hd ht
    have t1 := (ht 1 (by decide)).trans h1
    exact ⟨.pointer (some ⟨C, 3, none⟩), w, by simp [go_sem, execOp, ho, Act.eval, t1], Ext.refl _, rfl⟩)

theorem st14 (hC : w0.heap[C]? = some (cfg cm inc)) : ∀ o, (opsOf Yba.f7.body)[14]? = some o → StepOK Yba.prog (opsOf Yba.f7.body) Q (Phi B0 C (.slice mo 3 mc) inc) a0 w0 o :=
  step_val 14 25 (.load 3 (.tmp 24)) [24] [] (by kernel_rfl) (by kernel_rfl) (by kernel_rfl) (by
    intro o a w ho hx hd ht
    have d0 : a.tmps.getD 24 undef = .pointer (some ⟨C, 3, none⟩) := hd 24 (by decide)
    have c0 := cfg_cell hC hx 3 (v := .int .i64 0) rfl
    exact ⟨.int .i64 0, w, by simp [go_sem, execOp, ho, Act.eval, d0, c0], Ext.refl _, rfl⟩)

theorem st15  : ∀ o, (opsOf Yba.f7.body)[15]? = some o → StepOK Yba.prog (opsOf Yba.f7.body) Q (Phi B0 C (.slice mo 3 mc) inc) a0 w0 o :=
  step_call 15 26 (.call { callee := .value (.func 16), args := #[.tmp 25, .const (.int .i64 50)], argTypes := #[3, 3] }) [25] (by kernel_rfl) (by kernel_rfl) (by
    intro o a w ho hx hd
    have d0 : a.tmps.getD 25 undef = .int .i64 0 := hd 25 (by decide)
    refine ⟨16, #[.int .i64 0, .int .i64 50], by simp [go_sem, execOp, ho, Act.eval, d0], (orDefault 50 w).mono ?_⟩
    rintro _ _ ⟨rfl, rfl⟩
    exact ⟨_, rfl, Ext.refl _, rfl⟩)

theorem st16  : ∀ o, (opsOf Yba.f7.body)[16]? = some o → StepOK Yba.prog (opsOf Yba.f7.body) Q (Phi B0 C (.slice mo 3 mc) inc) a0 w0 o :=
  step_val 16 27 (.convert 3 24 (.tmp 26)) [26] [] (by kernel_rfl) (by kernel_rfl) (by kernel_rfl) (by
    intro o a w ho hx hd ht
    have d0 : a.tmps.getD 26 undef = .int .i64 50 := hd 26 (by decide)
    exact ⟨.int .u64 50, w, by simp [go_sem, execOp, ho, Act.eval, d0, show IntKind.u64.wrap 50 = 50 by decide], Ext.refl _, rfl⟩)

theorem st17 (h1 : a0.tmps.getD 1 undef = .pointer (some ⟨C, 0, none⟩)) : ∀ o, (opsOf Yba.f7.body)[17]? = some o → StepOK Yba.prog (opsOf Yba.f7.body) Q (Phi B0 C (.slice mo 3 mc) inc) a0 w0 o :=
  step_val 17 28 (.fieldAddr 74 (.tmp 1) 5) [] [1] (by kernel_rfl) (by kernel_rfl) (by kernel_rfl) (by
    intro o a w ho hx hd ht
    have t1 := (ht 1 (by decide)).trans h1
    exact ⟨.pointer (some ⟨C, 5, none⟩), w, by simp [go_sem, execOp, ho, Act.eval, t1], Ext.refl _, rfl⟩)

theorem st18 (hC : w0.heap[C]? = some (cfg cm inc)) : ∀ o, (opsOf Yba.f7.body)[18]? = some o → StepOK Yba.prog (opsOf Yba.f7.body) Q (Phi B0 C (.slice mo 3 mc) inc) a0 w0 o :=
  step_val 18 29 (.load 3 (.tmp 28)) [28] [] (by kernel_rfl) (by kernel_rfl) (by kernel_rfl) (by
    intro o a w ho hx hd ht
    have d0 : a.tmps.getD 28 undef = .pointer (some ⟨C, 5, none⟩) := hd 28 (by decide)
    have c0 := cfg_cell hC hx 5 (v := .int .i64 0) rfl
    exact ⟨.int .i64 0, w, by simp [go_sem, execOp, ho, Act.eval, d0, c0], Ext.refl _, rfl⟩)

theorem st19  : ∀ o, (opsOf Yba.f7.body)[19]? = some o → StepOK Yba.prog (opsOf Yba.f7.body) Q (Phi B0 C (.slice mo 3 mc) inc) a0 w0 o :=
  step_call 19 30 (.call { callee := .value (.func 16), args := #[.tmp 29, .const (.int .i64 20)], argTypes := #[3, 3] }) [29] (by kernel_rfl) (by kernel_rfl) (by
    intro o a w ho hx hd
    have d0 : a.tmps.getD 29 undef = .int .i64 0 := hd 29 (by decide)
    refine ⟨16, #[.int .i64 0, .int .i64 20], by simp [go_sem, execOp, ho, Act.eval, d0], (orDefault 20 w).mono ?_⟩
    rintro _ _ ⟨rfl, rfl⟩
    exact ⟨_, rfl, Ext.refl _, rfl⟩)

theorem st20  : ∀ o, (opsOf Yba.f7.body)[20]? = some o → StepOK Yba.prog (opsOf Yba.f7.body) Q (Phi B0 C (.slice mo 3 mc) inc) a0 w0 o :=
  step_val 20 31 (.convert 3 24 (.tmp 30)) [30] [] (by kernel_rfl) (by kernel_rfl) (by kernel_rfl) (by
    intro o a w ho hx hd ht
    have d0 : a.tmps.getD 30 undef = .int .i64 20 := hd 30 (by decide)
    exact ⟨.int .u64 20, w, by simp [go_sem, execOp, ho, Act.eval, d0, show IntKind.u64.wrap 20 = 20 by decide], Ext.refl _, rfl⟩)

theorem st21 (h1 : a0.tmps.getD 1 undef = .pointer (some ⟨C, 0, none⟩)) : ∀ o, (opsOf Yba.f7.body)[21]? = some o → StepOK Yba.prog (opsOf Yba.f7.body) Q (Phi B0 C (.slice mo 3 mc) inc) a0 w0 o :=
  step_val 21 32 (.fieldAddr 74 (.tmp 1) 6) [] [1] (by kernel_rfl) (by kernel_rfl) (by kernel_rfl) (by
    intro o a w ho hx hd ht
    have t1 := (ht 1 (by decide)).trans h1
    exact ⟨.pointer (some ⟨C, 6, none⟩), w, by simp [go_sem, execOp, ho, Act.eval, t1], Ext.refl _, rfl⟩)

theorem st22 (hC : w0.heap[C]? = some (cfg cm inc)) : ∀ o, (opsOf Yba.f7.body)[22]? = some o → StepOK Yba.prog (opsOf Yba.f7.body) Q (Phi B0 C (.slice mo 3 mc) inc) a0 w0 o :=
  step_val 22 33 (.load 3 (.tmp 32)) [32] [] (by kernel_rfl) (by kernel_rfl) (by kernel_rfl) (by
    intro o a w ho hx hd ht
    have d0 : a.tmps.getD 32 undef = .pointer (some ⟨C, 6, none⟩) := hd 32 (by decide)
    have c0 := cfg_cell hC hx 6 (v := .int .i64 0) rfl
    exact ⟨.int .i64 0, w, by simp [go_sem, execOp, ho, Act.eval, d0, c0], Ext.refl _, rfl⟩)

theorem st23  : ∀ o, (opsOf Yba.f7.body)[23]? = some o → StepOK Yba.prog (opsOf Yba.f7.body) Q (Phi B0 C (.slice mo 3 mc) inc) a0 w0 o :=
  step_call 23 34 (.call { callee := .value (.func 16), args := #[.tmp 33, .const (.int .i64 4096)], argTypes := #[3, 3] }) [33] (by kernel_rfl) (by kernel_rfl) (by
    intro o a w ho hx hd
    have d0 : a.tmps.getD 33 undef = .int .i64 0 := hd 33 (by decide)
    refine ⟨16, #[.int .i64 0, .int .i64 4096], by simp [go_sem, execOp, ho, Act.eval, d0], (orDefault 4096 w).mono ?_⟩
    rintro _ _ ⟨rfl, rfl⟩
    exact ⟨_, rfl, Ext.refl _, rfl⟩)

theorem st24 (h1 : a0.tmps.getD 1 undef = .pointer (some ⟨C, 0, none⟩)) : ∀ o, (opsOf Yba.f7.body)[24]? = some o → StepOK Yba.prog (opsOf Yba.f7.body) Q (Phi B0 C (.slice mo 3 mc) inc) a0 w0 o :=
  step_val 24 35 (.fieldAddr 74 (.tmp 1) 7) [] [1] (by kernel_rfl) (by kernel_rfl) (by kernel_rfl) (by
    intro o a w ho hx hd ht
    have t1 := (ht 1 (by decide)).trans h1
    exact ⟨.pointer (some ⟨C, 7, none⟩), w, by simp [go_sem, execOp, ho, Act.eval, t1], Ext.refl _, rfl⟩)

theorem st25 (hC : w0.heap[C]? = some (cfg cm inc)) : ∀ o, (opsOf Yba.f7.body)[25]? = some o → StepOK Yba.prog (opsOf Yba.f7.body) Q (Phi B0 C (.slice mo 3 mc) inc) a0 w0 o :=
  step_val 25 36 (.load 4 (.tmp 35)) [35] [] (by kernel_rfl) (by kernel_rfl) (by kernel_rfl) (by
    intro o a w ho hx hd ht
    have d0 : a.tmps.getD 35 undef = .pointer (some ⟨C, 7, none⟩) := hd 35 (by decide)
    have c0 := cfg_cell hC hx 7 (v := .bool false) rfl
    exact ⟨.bool false, w, by simp [go_sem, execOp, ho, Act.eval, d0, c0], Ext.refl _, rfl⟩)

theorem st26 (h1 : a0.tmps.getD 1 undef = .pointer (some ⟨C, 0, none⟩)) : ∀ o, (opsOf Yba.f7.body)[26]? = some o → StepOK Yba.prog (opsOf Yba.f7.body) Q (Phi B0 C (.slice mo 3 mc) inc) a0 w0 o :=
  step_val 26 37 (.fieldAddr 74 (.tmp 1) 4) [] [1] (by kernel_rfl) (by kernel_rfl) (by kernel_rfl) (by
    intro o a w ho hx hd ht
    have t1 := (ht 1 (by decide)).trans h1
    exact ⟨.pointer (some ⟨C, 4, none⟩), w, by simp [go_sem, execOp, ho, Act.eval, t1], Ext.refl _, rfl⟩)

theorem st27 (hC : w0.heap[C]? = some (cfg cm inc)) : ∀ o, (opsOf Yba.f7.body)[27]? = some o → StepOK Yba.prog (opsOf Yba.f7.body) Q (Phi B0 C (.slice mo 3 mc) inc) a0 w0 o :=
  step_val 27 38 (.load 2 (.tmp 37)) [37] [] (by kernel_rfl) (by kernel_rfl) (by kernel_rfl) (by
    intro o a w ho hx hd ht
    have d0 : a.tmps.getD 37 undef = .pointer (some ⟨C, 4, none⟩) := hd 37 (by decide)
    have c0 := cfg_cell hC hx 4 (v := .int .i64 inc) rfl
    exact ⟨.int .i64 inc, w, by simp [go_sem, execOp, ho, Act.eval, d0, c0], Ext.refl _, rfl⟩)

theorem st28  : ∀ o, (opsOf Yba.f7.body)[28]? = some o → StepOK Yba.prog (opsOf Yba.f7.body) Q (Phi B0 C (.slice mo 3 mc) inc) a0 w0 o :=
  step_val 28 39 (.convert 2 24 (.tmp 38)) [38] [] (by kernel_rfl) (by kernel_rfl) (by kernel_rfl) (by
    intro o a w ho hx hd ht
    have d0 : a.tmps.getD 38 undef = .int .i64 inc := hd 38 (by decide)
    refine ⟨.int .u64 (IntKind.u64.wrap inc), w, by simp [go_sem, execOp, ho, Act.eval, d0], Ext.refl _, ⟨_, rfl, ?_, ?_⟩⟩
    · rw [IntKind.wrap_u64]; omega
    · rw [IntKind.wrap_u64]; omega)

theorem st29 (h1 : a0.tmps.getD 1 undef = .pointer (some ⟨C, 0, none⟩)) : ∀ o, (opsOf Yba.f7.body)[29]? = some o → StepOK Yba.prog (opsOf Yba.f7.body) Q (Phi B0 C (.slice mo 3 mc) inc) a0 w0 o :=
  step_val 29 40 (.fieldAddr 74 (.tmp 1) 0) [] [1] (by kernel_rfl) (by kernel_rfl) (by kernel_rfl) (by
    intro o a w ho hx hd ht
    have t1 := (ht 1 (by decide)).trans h1
    exact ⟨.pointer (some ⟨C, 0, none⟩), w, by simp [go_sem, execOp, ho, Act.eval, t1], Ext.refl _, rfl⟩)

theorem st30 (hC : w0.heap[C]? = some (cfg cm inc)) : ∀ o, (opsOf Yba.f7.body)[30]? = some o → StepOK Yba.prog (opsOf Yba.f7.body) Q (Phi B0 C (.slice mo 3 mc) inc) a0 w0 o :=
  step_val 30 41 (.load 3 (.tmp 40)) [40] [] (by kernel_rfl) (by kernel_rfl) (by kernel_rfl) (by
    intro o a w ho hx hd ht
    have d0 : a.tmps.getD 40 undef = .pointer (some ⟨C, 0, none⟩) := hd 40 (by decide)
    have c0 := cfg_cell hC hx 0 (v := .int .i64 1) rfl
    exact ⟨.int .i64 1, w, by simp [go_sem, execOp, ho, Act.eval, d0, c0], Ext.refl _, rfl⟩)

theorem st31  : ∀ o, (opsOf Yba.f7.body)[31]? = some o → StepOK Yba.prog (opsOf Yba.f7.body) Q (Phi B0 C (.slice mo 3 mc) inc) a0 w0 o :=
  step_val 31 42 (.convert 3 24 (.tmp 41)) [41] [] (by kernel_rfl) (by kernel_rfl) (by kernel_rfl) (by
    intro o a w ho hx hd ht
    have d0 : a.tmps.getD 41 undef = .int .i64 1 := hd 41 (by decide)
    exact ⟨.int .u64 1, w, by simp [go_sem, execOp, ho, Act.eval, d0, show IntKind.u64.wrap 1 = 1 by decide], Ext.refl _, rfl⟩)

theorem st32 (hB : B0 ≤ w0.heap.size) : ∀ o, (opsOf Yba.f7.body)[32]? = some o → StepOK Yba.prog (opsOf Yba.f7.body) Q (Phi B0 C (.slice mo 3 mc) inc) a0 w0 o :=
  step_call 32 43 (.call { callee := .value (.func 18), args := #[.tmp 39, .tmp 42], argTypes := #[24, 24] }) [39, 42] (by kernel_rfl) (by kernel_rfl) (by
    intro o a w ho hx hd
    obtain ⟨z, d0, hz1, hz2⟩ : isU (a.tmps.getD 39 undef) := hd 39 (by decide)
    have d1 : a.tmps.getD 42 undef = .int .u64 1 := hd 42 (by decide)
    refine ⟨18, #[.int .u64 z, .int .u64 1], by simp [go_sem, execOp, ho, Act.eval, d0, d1], (newPCG z 1 w).mono ?_⟩
    rintro _ _ ⟨rfl, rfl⟩
    exact ⟨_, rfl, (Ext.refl w).alloc _, ⟨_, rfl, Nat.le_trans hB hx.size, z, hz1, hz2, heap_alloc_new _ _⟩⟩)

theorem st33  : ∀ o, (opsOf Yba.f7.body)[33]? = some o → StepOK Yba.prog (opsOf Yba.f7.body) Q (Phi B0 C (.slice mo 3 mc) inc) a0 w0 o :=
  step_val 33 44 (.makeInterface 95 (.tmp 43)) [43] [] (by kernel_rfl) (by kernel_rfl) (by kernel_rfl) (by
    intro o a w ho hx hd ht
    obtain ⟨g, d0, hg⟩ : ∃ g, a.tmps.getD 43 undef = .pointer (some ⟨g, 0, none⟩) ∧ PcgAt B0 w g := hd 43 (by decide)
    exact ⟨.iface 95 (.pointer (some ⟨g, 0, none⟩)), w, by simp [go_sem, execOp, ho, Act.eval, d0], Ext.refl _, ⟨g, rfl, hg⟩⟩)

theorem st34  : ∀ o, (opsOf Yba.f7.body)[34]? = some o → StepOK Yba.prog (opsOf Yba.f7.body) Q (Phi B0 C (.slice mo 3 mc) inc) a0 w0 o :=
  step_call 34 45 (.call { callee := .value (.func 17), args := #[.tmp 44], argTypes := #[106] }) [44] (by kernel_rfl) (by kernel_rfl) (by
    intro o a w ho hx hd
    obtain ⟨g, d0, hg⟩ : ∃ g, a.tmps.getD 44 undef = .iface 95 (.pointer (some ⟨g, 0, none⟩)) ∧ PcgAt B0 w g := hd 44 (by decide)
    refine ⟨17, #[.iface 95 (.pointer (some ⟨g, 0, none⟩))], by simp [go_sem, execOp, ho, Act.eval, d0], (newRand _ _ w).mono ?_⟩
    rintro _ _ ⟨rfl, rfl⟩
    exact ⟨_, rfl, (Ext.refl w).alloc _, ⟨_, g, rfl, heap_alloc_new _ _, hg.ext ((Ext.refl w).alloc _)⟩⟩)

theorem st35  : ∀ o, (opsOf Yba.f7.body)[35]? = some o → StepOK Yba.prog (opsOf Yba.f7.body) Q (Phi B0 C (.slice mo 3 mc) inc) a0 w0 o :=
  step_val 35 46 (.makeMap 25 none) [] [] (by kernel_rfl) (by kernel_rfl) (by kernel_rfl) (by
    intro o a w ho hx hd ht
    exact ⟨.map (some w.heap.size), w.alloc (.map #[] 0), by simp [go_sem, execOp, ho, run_makeMap], (Ext.refl w).alloc _, ⟨_, rfl⟩⟩)

theorem st36  : ∀ o, (opsOf Yba.f7.body)[36]? = some o → StepOK Yba.prog (opsOf Yba.f7.body) Q (Phi B0 C (.slice mo 3 mc) inc) a0 w0 o :=
  step_val 36 47 (.makeMap 35 none) [] [] (by kernel_rfl) (by kernel_rfl) (by kernel_rfl) (by
    intro o a w ho hx hd ht
    exact ⟨.map (some w.heap.size), w.alloc (.map #[] 0), by simp [go_sem, execOp, ho, run_makeMap], (Ext.refl w).alloc _, ⟨_, rfl⟩⟩)

theorem st37  : ∀ o, (opsOf Yba.f7.body)[37]? = some o → StepOK Yba.prog (opsOf Yba.f7.body) Q (Phi B0 C (.slice mo 3 mc) inc) a0 w0 o :=
  step_val 37 48 (.makeMap 38 none) [] [] (by kernel_rfl) (by kernel_rfl) (by kernel_rfl) (by
    intro o a w ho hx hd ht
    exact ⟨.map (some w.heap.size), w.alloc (.map #[] 0), by simp [go_sem, execOp, ho, run_makeMap], (Ext.refl w).alloc _, ⟨_, rfl⟩⟩)

theorem st38  : ∀ o, (opsOf Yba.f7.body)[38]? = some o → StepOK Yba.prog (opsOf Yba.f7.body) Q (Phi B0 C (.slice mo 3 mc) inc) a0 w0 o :=
  step_val 38 49 (.build 100 #[]) [] [] (by kernel_rfl) (by kernel_rfl) (by kernel_rfl) (by
    intro o a w ho hx hd ht
    obtain ⟨c, hc⟩ := Option.isSome_iff_exists.1 zero100
    exact ⟨.agg c, w, by simp [execOp, ho, run_build w 100 #[] c (by simpa using hc)], Ext.refl _, ⟨c, rfl⟩⟩)

theorem st39  : ∀ o, (opsOf Yba.f7.body)[39]? = some o → StepOK Yba.prog (opsOf Yba.f7.body) Q (Phi B0 C (.slice mo 3 mc) inc) a0 w0 o :=
  step_val 39 50 (.box 100 (.tmp 49)) [49] [] (by kernel_rfl) (by kernel_rfl) (by kernel_rfl) (by
    intro o a w ho hx hd ht
    obtain ⟨c, d0⟩ : ∃ c, a.tmps.getD 49 undef = .agg c := hd 49 (by decide)
    exact ⟨.pointer (some ⟨w.heap.size, 0, none⟩), w.alloc (.cells c 100), by simp [go_sem, execOp, ho, Act.eval, d0], (Ext.refl w).alloc _, ⟨_, rfl⟩⟩)

theorem st40 (hB : B0 ≤ w0.heap.size) : ∀ o, (opsOf Yba.f7.body)[40]? = some o → StepOK Yba.prog (opsOf Yba.f7.body) Q (Phi B0 C (.slice mo 3 mc) inc) a0 w0 o :=
  step_val 40 51 (.makeMap 56 none) [] [] (by kernel_rfl) (by kernel_rfl) (by kernel_rfl) (by
    intro o a w ho hx hd ht
    exact ⟨.map (some w.heap.size), w.alloc (.map #[] 0), by simp [go_sem, execOp, ho, run_makeMap], (Ext.refl w).alloc _, ⟨_, rfl, Nat.le_trans hB hx.size, (MapKept.heap_alloc w _).1⟩⟩)

theorem st41  : ∀ o, (opsOf Yba.f7.body)[41]? = some o → StepOK Yba.prog (opsOf Yba.f7.body) Q (Phi B0 C (.slice mo 3 mc) inc) a0 w0 o :=
  step_val 41 52 (.makeMap 49 none) [] [] (by kernel_rfl) (by kernel_rfl) (by kernel_rfl) (by
    intro o a w ho hx hd ht
    exact ⟨.map (some w.heap.size), w.alloc (.map #[] 0), by simp [go_sem, execOp, ho, run_makeMap], (Ext.refl w).alloc _, ⟨_, rfl⟩⟩)

theorem st42  : ∀ o, (opsOf Yba.f7.body)[42]? = some o → StepOK Yba.prog (opsOf Yba.f7.body) Q (Phi B0 C (.slice mo 3 mc) inc) a0 w0 o :=
  step_val 42 53 (.makeMap 49 none) [] [] (by kernel_rfl) (by kernel_rfl) (by kernel_rfl) (by
    intro o a w ho hx hd ht
    exact ⟨.map (some w.heap.size), w.alloc (.map #[] 0), by simp [go_sem, execOp, ho, run_makeMap], (Ext.refl w).alloc _, ⟨_, rfl⟩⟩)

theorem st43  : ∀ o, (opsOf Yba.f7.body)[43]? = some o → StepOK Yba.prog (opsOf Yba.f7.body) Q (Phi B0 C (.slice mo 3 mc) inc) a0 w0 o :=
  step_val 43 54 (.makeMap 50 none) [] [] (by kernel_rfl) (by kernel_rfl) (by kernel_rfl) (by
    intro o a w ho hx hd ht
    exact ⟨.map (some w.heap.size), w.alloc (.map #[] 0), by simp [go_sem, execOp, ho, run_makeMap], (Ext.refl w).alloc _, ⟨_, rfl⟩⟩)

theorem st44  : ∀ o, (opsOf Yba.f7.body)[44]? = some o → StepOK Yba.prog (opsOf Yba.f7.body) Q (Phi B0 C (.slice mo 3 mc) inc) a0 w0 o :=
  step_val 44 55 (.makeMap 54 none) [] [] (by kernel_rfl) (by kernel_rfl) (by kernel_rfl) (by
    intro o a w ho hx hd ht
    exact ⟨.map (some w.heap.size), w.alloc (.map #[] 0), by simp [go_sem, execOp, ho, run_makeMap], (Ext.refl w).alloc _, ⟨_, rfl⟩⟩)

theorem st45  : ∀ o, (opsOf Yba.f7.body)[45]? = some o → StepOK Yba.prog (opsOf Yba.f7.body) Q (Phi B0 C (.slice mo 3 mc) inc) a0 w0 o :=
  step_val 45 56 (.build 68 #[(0, .tmp 12), (1, .tmp 14), (2, .tmp 15), (3, .tmp 19), (4, .tmp 23), (5, .tmp 27), (6, .tmp 31), (7, .tmp 34), (8, .tmp 36), (10, .tmp 45), (22, .tmp 46), (34, .tmp 47), (41, .tmp 48), (36, .const (.int .u64 1)), (38, .tmp 50), (75, .tmp 51), (70, .tmp 52), (60, .tmp 53), (61, .tmp 54), (72, .tmp 55)]) [12, 14, 15, 19, 23, 27, 31, 34, 36, 45, 46, 47, 48, 50, 51, 52, 53, 54, 55] [] (by kernel_rfl) (by kernel_rfl) (by kernel_rfl) (by
    intro o a w ho hx hd ht
    have d12 : a.tmps.getD 12 undef = .int .i64 1 := hd 12 (by decide)
    have d14 : a.tmps.getD 14 undef = .int .i64 inc := hd 14 (by decide)
    have d15 : a.tmps.getD 15 undef = .slice mo 3 mc := hd 15 (by decide)
    have d19 : a.tmps.getD 19 undef = .int .i64 2 := hd 19 (by decide)
    have d23 : a.tmps.getD 23 undef = .int .u64 5 := hd 23 (by decide)
    have d27 : a.tmps.getD 27 undef = .int .u64 50 := hd 27 (by decide)
    have d31 : a.tmps.getD 31 undef = .int .u64 20 := hd 31 (by decide)
    have d34 : a.tmps.getD 34 undef = .int .i64 4096 := hd 34 (by decide)
    have d36 : a.tmps.getD 36 undef = .bool false := hd 36 (by decide)
    obtain ⟨r, g, d45, hr1, hr2⟩ : RandOK B0 w (a.tmps.getD 45 undef) := hd 45 (by decide)
    obtain ⟨b46, d46⟩ : isMap (a.tmps.getD 46 undef) := hd 46 (by decide)
    obtain ⟨b47, d47⟩ : isMap (a.tmps.getD 47 undef) := hd 47 (by decide)
    obtain ⟨b48, d48⟩ : isMap (a.tmps.getD 48 undef) := hd 48 (by decide)
    obtain ⟨b52, d52⟩ : isMap (a.tmps.getD 52 undef) := hd 52 (by decide)
    obtain ⟨b53, d53⟩ : isMap (a.tmps.getD 53 undef) := hd 53 (by decide)
    obtain ⟨b54, d54⟩ : isMap (a.tmps.getD 54 undef) := hd 54 (by decide)
    obtain ⟨b55, d55⟩ : isMap (a.tmps.getD 55 undef) := hd 55 (by decide)
    obtain ⟨b50, d50⟩ : ∃ b, a.tmps.getD 50 undef = .pointer (some ⟨b, 0, none⟩) := hd 50 (by decide)
    obtain ⟨b51, d51, hm1, hm2⟩ : MapNew B0 w (a.tmps.getD 51 undef) := hd 51 (by decide)
    obtain ⟨c, hc1, hc2⟩ := Option.map_eq_some_iff.1 (node_new mo mc inc r b46 b47 b48 b50 b51 b52 b53 b54 b55)
    simp only [Prod.mk.injEq] at hc2
    obtain ⟨q1, q2, q3, q4, q5, q6, q7, q8, q9, q10, q11⟩ := hc2
    have hrun := run_build w 68 #[(0, .int .i64 1), (1, .int .i64 inc), (2, .slice mo 3 mc), (3, .int .i64 2), (4, .int .u64 5), (5, .int .u64 50), (6, .int .u64 20), (7, .int .i64 4096), (8, .bool false), (10, .pointer (some ⟨r, 0, none⟩)), (22, .map (some b46)), (34, .map (some b47)), (41, .map (some b48)), (36, .int .u64 1), (38, .pointer (some ⟨b50, 0, none⟩)), (75, .map (some b51)), (70, .map (some b52)), (60, .map (some b53)), (61, .map (some b54)), (72, .map (some b55))] c hc1
    rw [Array.getD_eq_getD_getElem?] at d12 d14 d15 d19 d23 d27 d31 d34 d36 d45 d46 d47 d48 d50 d51 d52 d53 d54 d55
    exact ⟨.agg c, w, by simp [execOp, ho, Act.eval, d12, d14, d15, d19, d23, d27, d31, d34, d36, d45, d46, d47, d48, d50, d51, d52, d53, d54, d55, hrun], Ext.refl _, ⟨c, rfl, q1, q2, q3, q4, ⟨_, q5⟩, ⟨_, q6⟩, q7, q8, q9, ⟨_, q10, r, g, rfl, hr1, hr2⟩, ⟨_, q11, b51, rfl, hm1, hm2⟩⟩⟩)

theorem st46 (hB : B0 ≤ w0.heap.size) : ∀ o, (opsOf Yba.f7.body)[46]? = some o → StepOK Yba.prog (opsOf Yba.f7.body) Q (Phi B0 C (.slice mo 3 mc) inc) a0 w0 o :=
  step_val 46 57 (.box 68 (.tmp 56)) [56] [] (by kernel_rfl) (by kernel_rfl) (by kernel_rfl) (by
    intro o a w ho hx hd ht
    obtain ⟨c, d0, hc⟩ : ∃ c, a.tmps.getD 56 undef = .agg c ∧ GoodCells B0 w inc c := hd 56 (by decide)
    exact ⟨.pointer (some ⟨w.heap.size, 0, none⟩), w.alloc (.cells c 68), by simp [go_sem, execOp, ho, Act.eval, d0], (Ext.refl w).alloc _, ⟨_, c, rfl, Nat.le_trans hB hx.size, heap_alloc_new _ _, hc.ext ((Ext.refl w).alloc _)⟩⟩)

theorem st47  : ∀ o, (opsOf Yba.f7.body)[47]? = some o → StepOK Yba.prog (opsOf Yba.f7.body) Q (Phi B0 C (.slice mo 3 mc) inc) a0 w0 o :=
  step_val 47 4 (.assign (.tmp 57)) [57] [] (by kernel_rfl) (by kernel_rfl) (by kernel_rfl) (by
    intro o a w ho hx hd ht
    obtain ⟨nb, c, d0, hn⟩ : NodePtr B0 w inc (a.tmps.getD 57 undef) := hd 57 (by decide)
    exact ⟨.pointer (some ⟨nb, 0, none⟩), w, by simp [go_sem, execOp, ho, Act.eval, d0], Ext.refl _, ⟨nb, c, rfl, hn⟩⟩)
end
end Go.Proofs.Ybulkaehe
