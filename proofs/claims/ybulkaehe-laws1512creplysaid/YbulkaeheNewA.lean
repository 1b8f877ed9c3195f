/-
  New, THE REGION THAT MAKES THE NODE: what each slot is told to hold, and the steps.
-/
import Derived.Test.YbulkaeheMakes
import Derived.Laws.Tables
namespace Go.Proofs.Ybulkaehe
open Go.RowKit

def isP (C k : Nat) (v : Value) : Prop := v = .pointer (some ⟨C, k, none⟩)
def isU (v : Value) : Prop := ∃ z : Int, v = .int .u64 z ∧ 0 ≤ z ∧ z < 18446744073709551616
/-- A PCG that nothing has drawn from. -/
def PcgAt (B0 : Nat) (w : World) (g : Nat) : Prop := B0 ≤ g ∧ ∃ z : Int, 0 ≤ z ∧ z < 18446744073709551616 ∧ w.heap[g]? = some (.cells #[.int .u64 z, .int .u64 1] 110 (0, 0))
def RandOK (B0 : Nat) (w : World) (v : Value) : Prop := ∃ r g, v = .pointer (some ⟨r, 0, none⟩) ∧ w.heap[r]? = some (.cells #[.iface 95 (.pointer (some ⟨g, 0, none⟩))] 108 (0, 0)) ∧ PcgAt B0 w g
def isMap (v : Value) : Prop := ∃ b, v = .map (some b)
def MapNew (B0 : Nat) (w : World) (v : Value) : Prop := ∃ b, v = .map (some b) ∧ B0 ≤ b ∧ w.heap[b]? = some (.map #[] 0)
/-- The cells of a new Node. -/
def GoodCells (B0 : Nat) (w : World) (inc : Int) (c : Array Value) : Prop :=
  c[1]? = some (.int .i64 inc) ∧ c[5]? = some (.int .u64 50) ∧ c[9]? = some (.int .u64 0) ∧ c[18]? = some (.int .u64 0) ∧ (∃ x, c[81]? = some x) ∧ (∃ x, c[82]? = some x) ∧ c[88]? = some (.slice none 0 0) ∧ c[90]? = some (.int .i64 0) ∧ c[94]? = some (.slice none 0 0) ∧
  (∃ x, c[10]? = some x ∧ RandOK B0 w x) ∧ ∃ x, c[86]? = some x ∧ MapNew B0 w x
def NodePtr (B0 : Nat) (w : World) (inc : Int) (v : Value) : Prop := ∃ nb c, v = .pointer (some ⟨nb, 0, none⟩) ∧ B0 ≤ nb ∧ w.heap[nb]? = some (.cells c 68 (0, 0)) ∧ GoodCells B0 w inc c

theorem PcgAt.ext {B0 g : Nat} {w w' : World} (h : PcgAt B0 w g) (e : Ext w w') : PcgAt B0 w' g := by
  obtain ⟨h1, z, h2, h3, h4⟩ := h
  exact ⟨h1, z, h2, h3, e.some h4⟩
theorem RandOK.ext {B0 : Nat} {w w' : World} {v : Value} (h : RandOK B0 w v) (e : Ext w w') : RandOK B0 w' v := by
  obtain ⟨r, g, h1, h2, h3⟩ := h
  exact ⟨r, g, h1, e.some h2, h3.ext e⟩
theorem MapNew.ext {B0 : Nat} {w w' : World} {v : Value} (h : MapNew B0 w v) (e : Ext w w') : MapNew B0 w' v := by
  obtain ⟨b, h1, h2, h3⟩ := h
  exact ⟨b, h1, h2, e.some h3⟩
theorem GoodCells.ext {B0 : Nat} {w w' : World} {inc : Int} {c : Array Value} (h : GoodCells B0 w inc c) (e : Ext w w') : GoodCells B0 w' inc c := by
  obtain ⟨h1, h2, h3, h4, h5, h6, h7, h8, h9, ⟨x, hx, hr⟩, y, hy, hm⟩ := h
  exact ⟨h1, h2, h3, h4, h5, h6, h7, h8, h9, ⟨x, hx, hr.ext e⟩, y, hy, hm.ext e⟩
theorem NodePtr.ext {B0 : Nat} {w w' : World} {inc : Int} {v : Value} (h : NodePtr B0 w inc v) (e : Ext w w') : NodePtr B0 w' inc v := by
  obtain ⟨nb, c, h1, h2, h3, h4⟩ := h
  exact ⟨nb, c, h1, h2, e.some h3, h4.ext e⟩

/-- What each slot of the region is told to hold. -/
def Phi (B0 C : Nat) (ms : Value) (inc : Int) (s : Nat) (w : World) (v : Value) : Prop :=
  match s with
  | 11 => isP C 0 v
  | 12 => v = .int .i64 1
  | 13 => isP C 4 v
  | 14 => v = .int .i64 inc
  | 15 => v = ms
  | 16 => v = ms
  | 17 => v = .int .i64 3
  | 18 => v = .int .i64 1
  | 19 => v = .int .i64 2
  | 20 => isP C 2 v
  | 21 => v = .int .i64 0
  | 22 => v = .int .i64 5
  | 23 => v = .int .u64 5
  | 24 => isP C 3 v
  | 25 => v = .int .i64 0
  | 26 => v = .int .i64 50
  | 27 => v = .int .u64 50
  | 28 => isP C 5 v
  | 29 => v = .int .i64 0
  | 30 => v = .int .i64 20
  | 31 => v = .int .u64 20
  | 32 => isP C 6 v
  | 33 => v = .int .i64 0
  | 34 => v = .int .i64 4096
  | 35 => isP C 7 v
  | 36 => v = .bool false
  | 37 => isP C 4 v
  | 38 => v = .int .i64 inc
  | 39 => isU v
  | 40 => isP C 0 v
  | 41 => v = .int .i64 1
  | 42 => v = .int .u64 1
  | 43 => ∃ g, v = .pointer (some ⟨g, 0, none⟩) ∧ PcgAt B0 w g
  | 44 => ∃ g, v = .iface 95 (.pointer (some ⟨g, 0, none⟩)) ∧ PcgAt B0 w g
  | 45 => RandOK B0 w v
  | 46 => isMap v
  | 47 => isMap v
  | 48 => isMap v
  | 49 => ∃ c, v = .agg c
  | 50 => ∃ b, v = .pointer (some ⟨b, 0, none⟩)
  | 51 => MapNew B0 w v
  | 52 => isMap v
  | 53 => isMap v
  | 54 => isMap v
  | 55 => isMap v
  | 56 => ∃ c, v = .agg c ∧ GoodCells B0 w inc c
  | 57 => NodePtr B0 w inc v
  | 4 => NodePtr B0 w inc v
  | _ => True

theorem Phi.ext {B0 C : Nat} {ms : Value} {inc : Int} (s : Nat) (w w' : World) (v : Value) (e : Ext w w') (h : Phi B0 C ms inc s w v) : Phi B0 C ms inc s w' v := by
  unfold Phi at h ⊢
  split at h <;> first
    | exact h
    | exact RandOK.ext h e
    | exact MapNew.ext h e
    | exact NodePtr.ext h e
    | (obtain ⟨g, h1, h2⟩ := h; exact ⟨g, h1, h2.ext e⟩)

section
variable {P : Program} {l : List Oper} {Q : Exit → Act → World → Prop} {Φ : Nat → World → Value → Prop} {a0 : Act} {w0 : World} {o : Oper} {d : Nat}
def depB (l : List Oper) (o : Oper) (x : Nat) : Bool := o.after.any fun e => Region.binds .any e && (l[e.on]?).any (·.dst == some x)
def outB (l : List Oper) (t : Nat) : Bool := l.all (·.dst != some t)
theorem dep_of {w : World} {a : Act} {x : Nat} (hdep : ∀ e ∈ o.after, Region.binds .any e = true → ∀ oj sj, l[e.on]? = some oj → oj.dst = some sj → Φ sj w (a.tmps.getD sj undef)) (h : depB l o x = true) : Φ x w (a.tmps.getD x undef) := by
  unfold depB at h
  rw [Array.any_eq_true'] at h
  obtain ⟨e, he, h⟩ := h
  simp only [Bool.and_eq_true, Option.any_eq_true] at h
  obtain ⟨h1, oj, h2, h3⟩ := h
  exact hdep e he h1 oj x h2 (by simpa using h3)
theorem out_of {t : Nat} (h : outB l t = true) : ∀ o ∈ l, o.dst ≠ some t := by
  intro o ho
  have := List.all_eq_true.1 h o ho
  simpa using this
/-- An operation that yields a value by itself. -/
theorem mk_val (hd : o.dst = some d) (xs : List Nat) (hx : xs.all (depB l o) = true) (ts : List Nat) (ht : ts.all (outB l) = true)
    (h : ∀ (a : Act) (w : World), Ext w0 w → (∀ x ∈ xs, Φ x w (a.tmps.getD x undef)) → (∀ t ∈ ts, a.tmps.getD t undef = a0.tmps.getD t undef) → ∃ v w', (execOp a.eval o).run P w = .ok (.value v) w' ∧ Ext w w' ∧ Φ d w' v) : StepOK P l Q Φ a0 w0 o := by
  intro s hs a w he hdep hout K hK
  rw [hd] at hs
  cases hs
  obtain ⟨v, w', h1, h2, h3⟩ := h a w he (fun x hx' => dep_of hdep (List.all_eq_true.1 hx x hx')) (fun t ht' => hout t (out_of (List.all_eq_true.1 ht t ht')))
  unfold Oper.wp
  rw [h1]
  show K (a.put o.dst v) w'
  rw [hd]
  exact hK v w' h2 h3
/-- A call by its contract. -/
theorem mk_call (hd : o.dst = some d) (xs : List Nat) (hx : xs.all (depB l o) = true)
    (h : ∀ (a : Act) (w : World), Ext w0 w → (∀ x ∈ xs, Φ x w (a.tmps.getD x undef)) → ∃ f args, (execOp a.eval o).run P w = .ok (.enter f args) w ∧ Calls P f args w fun e w' => ∃ v, e = .returned v ∧ Ext w w' ∧ Φ d w' v) : StepOK P l Q Φ a0 w0 o := by
  intro s hs a w he hdep hout K hK
  rw [hd] at hs
  cases hs
  obtain ⟨f, args, h1, h2⟩ := h a w he (fun x hx' => dep_of hdep (List.all_eq_true.1 hx x hx'))
  unfold Oper.wp
  rw [h1]
  refine Calls.mono h2 ?_
  rintro e w' ⟨v, rfl, h3, h4⟩
  show K (a.put o.dst v) w'
  rw [hd]
  exact hK v w' h3 h4
end

/-! ### The callees -/
theorem orDefault (n : Nat) (w : World) : Calls Yba.prog 16 #[.int .i64 0, .int .i64 n] w fun e w' => e = .returned (.int .i64 n) ∧ w' = w := by
  go_enter Yba.func16, Yba.ntmps16
  go_wp2_with fail
  go_ret
  exact ⟨rfl, rfl⟩
theorem newPCG (x y : Int) (w : World) : Calls Yba.prog 18 #[.int .u64 x, .int .u64 y] w fun e w' => e = .returned (.pointer (some ⟨w.heap.size, 0, none⟩)) ∧ w' = w.alloc (.cells #[.int .u64 x, .int .u64 y] 110) := by
  go_enter Yba.func18, Yba.ntmps18
  go_wp2_with fail
  go_ret
  exact ⟨rfl, rfl⟩
theorem newRand (v : Value) (t : TypeId) (w : World) : Calls Yba.prog 17 #[.iface t v] w fun e w' => e = .returned (.pointer (some ⟨w.heap.size, 0, none⟩)) ∧ w' = w.alloc (.cells #[.iface t v] 108) := by
  go_enter Yba.func17, Yba.ntmps17
  go_wp2_with fail
  go_ret
  exact ⟨rfl, rfl⟩
end Go.Proofs.Ybulkaehe
