import Derived.Test.YbulkadzcTrack
import Derived.Test.YbulkadzcChecked
import Derived.ProofKit
import Derived.OpenShut
import Derived.ShutString
import Derived.ChangeOld
import Derived.Deep.Slices
import Derived.Deep.Strs
namespace Go.Proofs.Ybulkadzc
open Go.RowKit Go.ChangeShapes Go.WideShapes Go.Deep

/-- WHAT THE WALK IS TOLD OF THE SCRIPT THAT CAME IN. -/
def IsScript (w : World) (a : Option Addr) (len : Nat) (zs : List Stp) : Prop :=
  zs.length = len ∧ len ≤ 9223372036854775807 ∧ (∃ b off, (0 < len → a = some ⟨b, off, none⟩) ∧ StepsAt w b off zs) ∧ ∀ z ∈ zs, (0 ≤ z.o ∧ z.o ≤ 255) ∧ z.a ≤ 9223372036854775807 ∧ 0 ≤ z.k ∧ z.k ≤ 65535

theorem three_cells {w : World} {base : Nat} {a : Addr} {c0 c1 c2 : Value} (h : w.cells? base a 3 = some [c0, c1, c2]) : w.cell? (a.add 0) = some c0 ∧ w.cell? (a.add 1) = some c1 ∧ w.cell? (a.add 2) = some c2 := by
  unfold World.cells? at h
  split at h
  · simp [List.range_succ, List.mapM_cons, Option.bind_eq_some_iff] at h
    exact h
  · cases h

theorem open_steps {H : Type} {enc : TypeId × Value → H} {w : World} {sp : Nat → Bool} {held : Bool} {fuel : Nat} {cs : List Value} {x : DataW H × List MemPlace}
    (h : DataW.trod enc Yba.prog w 0 sp held fuel 44 cs = some x) : ∃ a len cap zs, cs = [.slice a len cap] ∧ IsScript w a len zs := by
  rcases open_slice Yba.underlying44 h with ⟨rfl, _⟩ | ⟨a, len, cap, m, n, D, Pl, rfl, _, hlc, hcm, hm, _, hel⟩
  · exact ⟨none, 0, 0, [], rfl, rfl, by omega, ⟨0, 0, fun h => by omega, fun i z h => by simp at h⟩, fun z h => by simp at h⟩
  · have hlm : len ≤ m := by rw [hm]; split <;> omega
    have each : ∀ i, i < len → ∃ t : Int × Int × Int, w.cell? ((a.add (i * 3)).add 0) = some (.int .u8 t.1) ∧ w.cell? ((a.add (i * 3)).add 1) = some (.int .i64 t.2.1) ∧ w.cell? ((a.add (i * 3)).add 2) = some (.int .u16 t.2.2) ∧ (Lit.int .u8 t.1).wf = true ∧ (Lit.int .i64 t.2.1).wf = true ∧ (Lit.int .u16 t.2.2).wf = true := by
      intro i hi
      obtain ⟨cs', hcs, hy⟩ := hel i (by omega)
      rw [show Yba.prog.cellsOf 59 = 3 from by kernel_rfl] at hcs
      obtain ⟨y0, y1, y2, n', _, hl, t0, t1, t2⟩ := trod_struct3 Yba.underlying59 hy
      rw [show Yba.prog.cellsOf 59 = 3 from by kernel_rfl] at hl
      simp only [show Yba.prog.cellsOf 5 = 1 from by kernel_rfl, show Yba.prog.cellsOf 2 = 1 from by kernel_rfl, show Yba.prog.cellsOf 23 = 1 from by kernel_rfl] at t0 t1 t2
      match cs', hl with
      | [c0, c1, c2], _ =>
        obtain ⟨e0, e1, e2⟩ := three_cells hcs
        obtain ⟨n0, q0, _, w0⟩ := DataW.trod_int Yba.underlying5 t0
        obtain ⟨n1, q1, _, w1⟩ := DataW.trod_int Yba.underlying2 t1
        obtain ⟨n2, q2, _, w2⟩ := DataW.trod_int Yba.underlying23 t2
        simp at q0 q1 q2
        subst q0 q1 q2
        exact ⟨(n0, n1, n2), e0, e1, e2, w0, w1, w2⟩
    obtain ⟨f, hf⟩ := choose_lt each
    have hzs : ∀ (i : Nat) (z : Stp), ((List.range len).map fun i => (⟨(f i).1, (f i).2.1, (f i).2.2⟩ : Stp))[i]? = some z → i < len ∧ z = ⟨(f i).1, (f i).2.1, (f i).2.2⟩ := by
      intro i z hz
      have hi := (List.getElem?_eq_some_iff.1 hz).1
      simp at hi
      rw [List.getElem?_map, List.getElem?_range hi] at hz
      simp at hz
      exact ⟨hi, hz.symm⟩
    refine ⟨some a, len, cap, (List.range len).map fun i => ⟨(f i).1, (f i).2.1, (f i).2.2⟩, rfl, by simp, by unfold maxLen at hcm; omega, ?_, ?_⟩
    · obtain ⟨b, off, spot⟩ := a
      refine ⟨b, off, ?_, ?_⟩
      · intro h0
        have := (hf 0 h0).1
        have hs : spot = none := by simpa [Addr.add] using World.cell?_spot this
        rw [hs]
      · intro i z hz
        obtain ⟨hi, rfl⟩ := hzs i z hz
        have hs : spot = none := by simpa [Addr.add] using World.cell?_spot (hf 0 (by omega)).1
        subst hs
        obtain ⟨e0, e1, e2, _⟩ := hf i hi
        rw [add_add, add_plain] at e0 e1 e2
        exact ⟨e0, e1, e2⟩
    · intro z hz
      obtain ⟨i, hi⟩ := List.mem_iff_getElem?.1 hz
      obtain ⟨hl, rfl⟩ := hzs i z hi
      obtain ⟨_, _, _, w0, w1, w2⟩ := hf i hl
      have b0 := bounds_u8 w0
      have b1 := bounds_i64 w1
      have b2 := bounds_u16 w2
      exact ⟨b0, b1.2, b2⟩
end Go.Proofs.Ybulkadzc
