/-
  THE LAW's ROW, told: the step from the walk.
-/
import Derived.Test.YbulkaefaFmtRoute
import Derived.Test.YbulkaefaFmtRows
import Derived.ProofKit
import Derived.WideKeyArgs
import Derived.WideKeyElems4
import Derived.Stop.JoinedAt
import Derived.Stop.JoinedTold
import Derived.Stop.Texts
import Derived.Stop.ErrReads
import Derived.Stop.LaidErr
import Derived.OpenShut
import Derived.ShutString
import Derived.ChangeOld
import Derived.Deep.Strs
namespace Go.Proofs.YbulkaefaFmt.lawS1508BRoute
open Go.ChangeShapes Go.WideShapes Go.ChangeAt Go.RowKit Go.Kit
open Go.ChangeMaps (open_string shut_string)
open Go.Extern.Stop Go.Stop Go.Extern

set_option maxHeartbeats 1000000 in
set_option maxRecDepth 100000 in
/-- More than 1024 peers. -/
theorem law_long (a1 : Option Addr) (len cap : Nat) (nm fm tg : ByteArray) (b4 b5 b7 : Bool) (x : Nat) (w : World) (hlen : 1024 < len) (hm : len ≤ 9223372036854775807) :
    Calls Ybaf.prog 5 #[.string nm, .slice a1 len cap, .string fm, .string tg, .bool b4, .bool b5, .int .u8 (x : Int), .bool b7] w fun e w' => e = .returned (.bool true) ∧ Below w.heap.size w w' := by
  go_enter Ybaf.func5, Ybaf.ntmps5
  go_wp2_with fail
  go_ret
  exact ⟨rfl, Below.refl _ _⟩

/-- What the walk is told of the peers. -/
def IsStrs (w : World) (a : Option Addr) (len : Nat) (ss : List ByteArray) : Prop :=
  ss.length = len ∧ len ≤ 9223372036854775807 ∧ ∀ (i : Nat) (s : ByteArray), ss[i]? = some s → ∃ x, a = some x ∧ w.cell? (x.add i) = some (.string s)

theorem own : ownKnob Ybaf.prog.godebug = none := by kernel_rfl
theorem laidOut : laidOutB Ybaf.pinned.checked.prog = true := by kernel_rfl
theorem stops : Ybaf.pinned.checked.prog.stops = ["fmt.errorf"] := by kernel_rfl
theorem stopKnobs : Ybaf.pinned.checked.prog.stopKnobs = [] := by kernel_rfl
theorem quiet (os : Os) : Stop.quiet Ybaf.pinned.checked.prog os := by
  intro k hk
  rw [stopKnobs] at hk
  cases hk
theorem gO : Ybaf.prog.globalNamed (Rows.lawS1508BRouteSpec.vars.getD 0 "") = some 0 := by kernel_rfl
theorem gOType : (Ybaf.prog.globals[0]?).map (·.type) = some 42 := by kernel_rfl
theorem cells136 : Ybaf.prog.cellsOf 136 = 1 := by kernel_rfl
theorem cells9 : Ybaf.prog.cellsOf 9 = 1 := by kernel_rfl

def low (P : Program) : Nat := (World.holding P default ⟨#[], #[], []⟩).heap.size
def laidWorld (P : Program) (os : Os) (g : Nat) (s : ByteArray) : World :=
  let w0 := World.holding P os ⟨#[.cells #[.string s] 136], #[], []⟩
  { w0 with heap := w0.heap.modify g fun
      | .cells _ t frozen => .cells #[.iface 134 (.pointer (some ⟨low P, 0, none⟩))] t frozen
      | o => o }
def shutS : ByteArray := { data := #[116, 104, 101, 32, 116, 114, 97, 110, 115, 112, 111, 114, 116, 32, 105, 115, 32, 99, 108, 111, 115, 101, 100] }
theorem laid_met (os : Os) (args : Array Value) : laidMet Ybaf.prog Rows.lawS1508BRouteRow.laid ((laidWorld Ybaf.prog os 0 shutS).forCall (fun _ _ => 0) ⟨#[], args, []⟩).memory :=
  laidMet_of_run (ps := [.cell 0 0, .cell (low Ybaf.prog) 0]) 8 (by kernel_rfl) (by kernel_rfl) (by kernel_rfl)

/-- The sentinel, and the block that it leads to. -/
theorem sentinel {P : Program} {n nm : String} {text : List UInt8} {r : List (String × DataW Unit)} {W : World} {g : Nat} {ti tp te ts : TypeId} {ms : Array (String × TypeId)} {f : Field}
    (h : laidMet P ((n, .iface nm (.ptr (.agg [.lit (.string text)]))) :: r) W)
    (hg : P.globalNamed n = some g) (ht : (P.globals[g]?).map (·.type) = some ti) (hi : P.underlying ti = some (.interface ms)) (hrow : ∀ u, P.typeName? 3 u = some nm → u = tp)
    (hp : P.underlying tp = some (.pointer te)) (he : P.underlying te = some (.struct #[f])) (hft : f.type = ts) (hfo : f.offset = 0) (hs : P.underlying ts = some .string) (hc : P.cellsOf te = 1) (hcs : P.cellsOf ts = 1) :
    ∃ (a : Addr), W.var? P n = some #[.iface tp (.pointer (some a))] ∧ ∃ c t, W.heap[a.block]? = some (.cells c t (0, 0)) := by
  obtain ⟨ps, ⟨g0, t0, cs0, f0, p0, q0, hg0, ht0, hv0, hd0, _, e0⟩, _, hrows⟩ := h
  obtain rfl := Option.some.inj (hg.symm.trans hg0)
  obtain rfl := Option.some.inj (ht.symm.trans ht0)
  subst e0
  obtain ⟨l0⟩ := cs0
  have ok0 : ∀ u v, l0 = [.iface u v] → Value.okWide P W .any 0 u v := fun u v e => by
    subst e
    exact (hrows g 0 (by simp [MemPlace.row])).2 u v (by simpa using World.var?_cell hg0 hv0 0)
  obtain ⟨a0, s0, rfl, hc0, hs0, hz0, rfl⟩ := errorString_of_trod hi hrow hp he hft hfo hs hc hcs hd0 ok0
  exact ⟨a0, hv0, (hrows a0.block a0.off (by simp [MemPlace.row])).1⟩

theorem var_below {P : Program} {W W' : World} {n : String} {cs : Array Value} (b : Below W.heap.size W W') (h : W.var? P n = some cs) : W'.var? P n = some cs := by
  unfold World.var? at h ⊢
  cases hg : P.globalNamed n with
  | none => rw [hg] at h; cases h
  | some g =>
    rw [hg] at h
    simp only [Option.bind_some] at h ⊢
    have hlt : g < W.heap.size := by
      rcases Nat.lt_or_ge g W.heap.size with h1 | h1
      · exact h1
      · rw [Array.getElem?_eq_none h1] at h; cases h
    rw [b.block g hlt]
    exact h

set_option maxRecDepth 100000 in
theorem lifted (os : Os) (started : os.Started) (H : Type) (enc : TypeId × Value → H) :
    ReturnsInTold none {} Ybaf.checked os 5 .any Input.okWide ((OpenSpec.ofChange Rows.lawS1508BRouteSpec).preRow enc Ybaf.prog Ybaf.f5 [] false Rows.lawS1508BRouteRow.laid) (fun F => ((OpenSpec.ofChange Rows.lawS1508BRouteSpec).at F).post enc Ybaf.prog Ybaf.f5 false true false false) (aloneAtReturn Ybaf.prog) nothingAlways := by
  refine returnsInTold_of_row (C := Ybaf.checked) (s := OpenSpec.ofChange Rows.lawS1508BRouteSpec) (by kernel_rfl) own started (by kernel_rfl) Ybaf.func5
    (OpenSpec.witness_stopped_at (enc := enc) (C := Ybaf.checked) false (laidWorld Ybaf.prog os 0 shutS) #[.string ByteArray.empty, .slice none 0 0, .string ByteArray.empty, .string ByteArray.empty, .bool false, .bool false, .int .u8 0, .bool false] rfl (by kernel_rfl) (by kernel_rfl) (by kernel_rfl)
      (OpenSpec.preRow_of_B rfl 8 (by kernel_rfl) (by kernel_rfl) (laid_met os _))) ?_
  intro F W base args ds gs before _ hF hval0 hW _ _ _ hL _
  have hval : ∀ (j : Nat) t v, Ybaf.f5.params[j]? = some t → args[j]? = some v → Value.okWide Ybaf.prog W .any base t v := hval0
  have hW' := hW
  obtain ⟨p, q, hA0, hV0, rfl, hfz, hnd⟩ := hW
  have hA : DataW.TrodAll enc Ybaf.prog W 0 (fun _ => true) true Ybaf.f5.params.toList args.toList ds p := hA0
  rw [Ybaf.params5] at hA hval
  obtain ⟨v0, vs0, d0, ds0, p0, q0, hargs, rfl, rfl, h0, r0⟩ := trodAll_cons hA
  obtain ⟨v1, vs1, d1, ds1, p1, q1, rfl, rfl, rfl, h1, r1⟩ := trodAll_cons r0
  obtain ⟨v2, vs2, d2, ds2, p2, q2, rfl, rfl, rfl, h2, r2⟩ := trodAll_cons r1
  obtain ⟨v3, vs3, d3, ds3, p3, q3, rfl, rfl, rfl, h3, r3⟩ := trodAll_cons r2
  obtain ⟨v4, vs4, d4, ds4, p4, q4, rfl, rfl, rfl, h4, r4⟩ := trodAll_cons r3
  obtain ⟨v5, vs5, d5, ds5, p5, q5, rfl, rfl, rfl, h5, r5⟩ := trodAll_cons r4
  obtain ⟨v6, vs6, d6, ds6, p6, q6, rfl, rfl, rfl, h6, r6⟩ := trodAll_cons r5
  obtain ⟨v7, vs7, d7, ds7, p7, q7, rfl, rfl, rfl, h7, r7⟩ := trodAll_cons r6
  obtain ⟨rfl, rfl, rfl⟩ := trodAll_nil r7
  obtain rfl : args = #[v0, v1, v2, v3, v4, v5, v6, v7] := by cases args; simp_all
  obtain ⟨a1, len1, cap1, rfl⟩ := okWide_slice Ybaf.underlying22 (hval 1 22 v1 rfl rfl)
  have k1 := h1
  have lt1 : ∀ x ∈ p1, x.block < W.heap.size := by obtain ⟨m, hm⟩ := k1; exact DataW.trod_lt m _ _ _ hm
  obtain ⟨ss, ws⟩ : ∃ ss, IsStrs W a1 len1 ss := by
    obtain ⟨fuel, hf⟩ := h1
    rcases Deep.open_strs Ybaf.underlying22 Ybaf.underlying9 cells9 hf with ⟨hcs, _⟩ | ⟨a, len, cap, m, Sx, hcs, _, hl, hm, hmm, _, hcell⟩
    · simp [Value.cells] at hcs
      obtain ⟨rfl, rfl, rfl⟩ := hcs
      exact ⟨[], rfl, by omega, fun i s h => by simp at h⟩
    · simp [Value.cells] at hcs
      obtain ⟨rfl, rfl, rfl⟩ := hcs
      refine ⟨(List.range len1).map Sx, by simp, by unfold maxLen at hm; omega, fun i s h => ⟨a, rfl, ?_⟩⟩
      have hi : i < len1 := by simpa using (List.getElem?_eq_some_iff.1 h).1
      rw [List.getElem?_map, List.getElem?_range hi] at h
      simp at h
      subst h
      exact (hcell i (by rw [hmm]; split <;> omega)).1
  obtain ⟨a0, rfl, rfl, rfl, w0⟩ := open_string Ybaf.underlying9 (hval 0 9 v0 rfl rfl) h0
  obtain ⟨a2, rfl, rfl, rfl, w2⟩ := open_string Ybaf.underlying9 (hval 2 9 v2 rfl rfl) h2
  obtain ⟨a3, rfl, rfl, rfl, w3⟩ := open_string Ybaf.underlying9 (hval 3 9 v3 rfl rfl) h3
  obtain ⟨a4, rfl, rfl, rfl⟩ := open_bool Ybaf.underlying4 (hval 4 4 v4 rfl rfl) h4
  obtain ⟨a5, rfl, rfl, rfl⟩ := open_bool Ybaf.underlying4 (hval 5 4 v5 rfl rfl) h5
  obtain ⟨a6, rfl, rfl, rfl, w6⟩ := open_int Ybaf.underlying5 (hval 6 5 v6 rfl rfl) h6
  obtain ⟨a7, rfl, rfl, rfl⟩ := open_bool Ybaf.underlying4 (hval 7 4 v7 rfl rfl) h7
  obtain ⟨ea, hva, ec, et, hea⟩ := sentinel hL gO gOType Ybaf.underlying42 (fun u h => typeName_ptr_named (P := Ybaf.prog) (nm := "errors.errorString") (by kernel_rfl) (by kernel_rfl) (by decide) u (h.trans (congrArg some (by kernel_rfl)))) Ybaf.underlying134 Ybaf.underlying136 rfl rfl Ybaf.underlying9 cells136 cells9
  obtain ⟨rfl, rfl⟩ := hV0.unique (vars_read1 enc gO gOType Ybaf.underlying42 hva trivial _)
  clear hA0 hval0
  have hg1 : W.cell? ⟨0, 0, none⟩ = some (.iface 134 (.pointer (some ea))) := by simpa using World.var?_cell gO hva 0
  obtain ⟨hl, hmax, hcs⟩ := ws
  obtain ⟨x, hx, rfl⟩ : ∃ x : Nat, x < 256 ∧ a6 = (x : Int) := by
    have h : IntKind.u8.min ≤ a6 ∧ a6 ≤ IntKind.u8.max := by simpa [Lit.wf] using w6
    have this : 0 ≤ a6 ∧ a6 ≤ 255 := h
    exact ⟨a6.toNat, by omega, by omega⟩
  have call : Calls Ybaf.prog 5 #[.string a0, .slice a1 len1 cap1, .string a2, .string a3, .bool a4, .bool a5, .int .u8 (x : Int), .bool a7] W fun e w' => e = .returned (.bool true) ∧ Below W.heap.size W w' := by
    by_cases h : len1 ≤ 1024
    · exact law_look a1 len1 cap1 ss a0 a2 a3 a4 a5 a7 x hx W F.told hF ea ec et hg1 hea h hl hcs
    · exact law_long a1 len1 cap1 a0 a2 a3 a4 a5 a7 x W (by omega) hmax
  refine call.mono fun e W' ⟨he, bel⟩ => ?_
  subst he
  exact ⟨_, rfl, _, _, _, [], _, _, hW', trodAll_mk1 (shut_bool Ybaf.underlying4 _), (trodAll_cons_mk (shut_string Ybaf.underlying9 w0) (trodAll_cons_mk (Below.trod laidOut (by kernel_rfl) (of_decide_eq_true (by kernel_rfl)) k1 bel lt1) (trodAll_cons_mk (shut_string Ybaf.underlying9 w2) (trodAll_cons_mk (shut_string Ybaf.underlying9 w3) (trodAll_cons_mk (shut_bool Ybaf.underlying4 _) (trodAll_cons_mk (shut_bool Ybaf.underlying4 _) (trodAll_cons_mk (shut_int Ybaf.underlying5 w6) (trodAll_cons_mk (shut_bool Ybaf.underlying4 _) trodAll_mk0)))))))), vars_read1 enc gO gOType Ybaf.underlying42 (var_below bel hva) trivial _, bel.frame _, fun h => by cases h⟩
end Go.Proofs.YbulkaefaFmt.lawS1508BRoute
