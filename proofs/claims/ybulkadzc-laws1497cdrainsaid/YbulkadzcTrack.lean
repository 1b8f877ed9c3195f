import Derived.Test.YbulkadzcRun
namespace Go.Proofs.Ybulkadzc
open Go.RowKit

set_option maxHeartbeats 1000000 in
theorem track_long (a : Option Addr) (len cap : Nat) (w : World) (h : 1024 < len) (_hm : len ≤ 9223372036854775807) :
    Calls Yba.prog 4 #[.slice a len cap] w fun e w' => e = .returned (.bool true) ∧ Below w.heap.size w w' := by
  go_enter Yba.func4, Yba.ntmps4
  go_wp2_with fail
  go_ret
  exact ⟨rfl, Below.refl _ _⟩

set_option maxHeartbeats 1000000 in
theorem track_walk (a : Option Addr) (b off cap : Nat) (zs : List Stp) (w : World) (ha : 0 < zs.length → a = some ⟨b, off, none⟩) (hc : StepsAt w b off zs)
    (hz : ∀ z ∈ zs, (0 ≤ z.o ∧ z.o ≤ 255) ∧ z.a ≤ 9223372036854775807 ∧ 0 ≤ z.k ∧ z.k ≤ 65535) (hl : zs.length ≤ 1024) :
    Calls Yba.prog 4 #[.slice a zs.length cap] w fun e w' => e = .returned (.bool true) ∧ Below w.heap.size w w' := by
  have HZ : Hid (_ ∧ _ ∧ _) := ⟨ha, hc, hz⟩
  clear ha hc hz
  go_enter Yba.func4, Yba.ntmps4
  go_wp2_with fail
  refine (run_ok true a b off cap zs _ HZ.out.1 HZ.out.2.1 HZ.out.2.2 hl).mono ?_
  rintro r W1 ⟨hb, mb, S, M, rfl, st, bk⟩
  have Hbk : Hid (Book S M zs.length true) := bk
  clear bk
  go_wp2_with fail
  obtain ⟨L, P, hI⟩ := Hbk.out.inv
  obtain ⟨F, hp, _⟩ := st.heap
  obtain ⟨FM, hm, _⟩ := st.model
  have b1 := Hbk.out.bnd.n
  have b2 := Hbk.out.bnd.m
  have b3 := Hbk.out.len
  refine (check_ok F FM hb mb S M L P _ hp hm hI Hbk.out.rl (by omega) (by omega) (by omega)).mono ?_
  rintro r W2 ⟨rfl, e2⟩
  go_wp2_with fail
  go_ret
  exact ⟨rfl, (st.ext e2).1.below⟩
end Go.Proofs.Ybulkadzc
