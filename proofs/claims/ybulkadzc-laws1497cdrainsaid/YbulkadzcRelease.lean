import Derived.Test.YbulkadzcStop
namespace Go.Proofs.Ybulkadzc
open Go.RowKit

theorem ret_int {k : IntKind} {a b : Int} (h : a = b) : Ending.returned (.int k a) = .returned (.int k b) := by rw [h]

set_option maxHeartbeats 2000000 in
theorem release_one (F : Nat → Prop) (hb : Nat) (S : HSt) (d s : Int) (l : Nat) (y : Slt) (w : World) (hS : HP w F hb S) (hm : S.slots.length ≤ 1000000) (hy : S.slots[l]? = some y) (hg : 0 ≤ y.gen ∧ y.gen ≤ 1000000) :
    Calls Yba.prog 25 #[.pointer (some ⟨hb, 0, none⟩), .agg #[.int .i64 d, .int .u64 s, .int .u32 l, .int .u32 0]] w
      fun r w' => r = .returned (.int .i64 y.v) ∧ HP w' F hb (S.freed l y) ∧ Fr w w' F F := by
  have hl := (List.getElem?_eq_some_iff.1 hy).1
  obtain ⟨ev, sv, pv, H⟩ := hS
  obtain ⟨sb, sc, rfl, hsc, hlt2⟩ := ownsRow_form H.slots (by omega)
  obtain ⟨h0, h1, h2, h3, h4, h5⟩ := H.cells
  obtain ⟨q0, q1, q2⟩ := H.sltAt hy
  have hlt := H.lt
  have z2 := H.thaw 2
  have f0 := frozen_row H.slots (l * 3)
  have f1 := frozen_row H.slots (l * 3 + 1)
  have f2 := frozen_row H.slots (l * 3 + 2)
  have hs := (H.Fs sb rfl)
  have e2 : hb ≠ sb := Ne.symm hs.2.1
  have i3 : (0 : Int) ≤ (l : Int) := by omega
  have i4 : (l : Int) < (S.slots.length : Int) := by omega
  have hne : (y.gen + 1 != 4294967295) = true := by rw [bne_iff_ne]; omega
  have KP := ((H.freed hy).alloc (.cells #[.int .i64 d, .int .u64 s, .int .u32 l, .int .u32 0] 36)).drew
  have fr := ((((((Fr.refl w F).setCell (p := ⟨sb, l * 3, none⟩) hs.1 (.int .i64 0)).setCell (p := ⟨sb, l * 3 + 2, none⟩) hs.1 (.int .u32 (y.gen + 1))).setCell (p := ⟨sb, l * 3 + 1, none⟩) hs.1 (.int .u32 S.free)).setCell (p := ⟨hb, 2, none⟩) H.Fh (.int .u32 ((l : Int) + 1))).alloc (.cells #[.int .i64 d, .int .u64 s, .int .u32 l, .int .u32 0] 36)).drew
  have HH : Hid (_ ∧ _) := ⟨KP, fr⟩
  clear KP fr H hy hs
  go_enter Yba.func25, Yba.ntmps25
  go_wp2_with fail
  go_region
  go_wp2_with fail
  go_ret
  exact ⟨rfl, ⟨_, _, _, HH.out.1⟩, HH.out.2⟩
set_option maxHeartbeats 2000000 in
theorem release_per (F : Nat → Prop) (hb : Nat) (S : HSt) (d s : Int) (l q : Nat) (y : Slt) (w : World) (hS : HP w F hb S) (hm : S.slots.length ≤ 1000000) (hy : S.slots[l]? = some y) (hg : 0 ≤ y.gen ∧ y.gen ≤ 1000000) (hq : q < S.pers.length) (hqb : S.pers.length ≤ 1000000) (hfp : 0 ≤ S.fp ∧ S.fp ≤ 1000000) :
    Calls Yba.prog 25 #[.pointer (some ⟨hb, 0, none⟩), .agg #[.int .i64 d, .int .u64 s, .int .u32 l, .int .u32 ((q : Int) + 1)]] w
      fun r w' => r = .returned (.int .i64 y.v) ∧ HP w' F hb ((S.freed l y).freedP q) ∧ Fr w w' F F := by
  have hl := (List.getElem?_eq_some_iff.1 hy).1
  obtain ⟨ev, sv, pv, H⟩ := hS
  obtain ⟨sb, sc, rfl, hsc, hlt2⟩ := ownsRow_form H.slots (by omega)
  obtain ⟨pb, pc, rfl, hpc, hlt3⟩ := ownsRow_form H.pers (by omega)
  obtain ⟨h0, h1, h2, h3, h4, h5⟩ := H.cells
  obtain ⟨qv, hqv⟩ : ∃ v, S.pers[q]? = some v := ⟨_, List.getElem?_eq_getElem hq⟩
  have p0 := H.perAt hqv
  have z5 := H.thaw 5
  have f5 := frozen_row H.pers q
  have hps := (H.Fp pb rfl)
  have e3 : hb ≠ pb := Ne.symm hps.2.1
  have e4 : sb ≠ pb := fun e => hps.2.2.2 (by simp [Value.ownBlock, e])
  have i5 : (0 : Int) ≤ (q : Int) := by omega
  have i6 : (q : Int) < (S.pers.length : Int) := by omega
  have w1 : IntKind.u32.wrap (q : Int) = (q : Int) := IntWalk.u32_in _ (by omega)
  have w2 : IntKind.i64.wrap S.fp = S.fp := IntWalk.i64_in _ (by omega)
  have hne0 : ((q : Int) + 1 != 0) = true := by rw [bne_iff_ne]; omega
  obtain ⟨q0, q1, q2⟩ := H.sltAt hy
  have hlt := H.lt
  have z2 := H.thaw 2
  have f0 := frozen_row H.slots (l * 3)
  have f1 := frozen_row H.slots (l * 3 + 1)
  have f2 := frozen_row H.slots (l * 3 + 2)
  have hs := (H.Fs sb rfl)
  have e2 : hb ≠ sb := Ne.symm hs.2.1
  have i3 : (0 : Int) ≤ (l : Int) := by omega
  have i4 : (l : Int) < (S.slots.length : Int) := by omega
  have hne : (y.gen + 1 != 4294967295) = true := by rw [bne_iff_ne]; omega
  have KP := ((((H.freed hy).freedP q).alloc (.cells #[.int .i64 d, .int .u64 s, .int .u32 l, .int .u32 ((q : Int) + 1)] 36)).drew).drew
  have fr := ((((((((Fr.refl w F).setCell (p := ⟨sb, l * 3, none⟩) hs.1 (.int .i64 0)).setCell (p := ⟨sb, l * 3 + 2, none⟩) hs.1 (.int .u32 (y.gen + 1))).setCell (p := ⟨sb, l * 3 + 1, none⟩) hs.1 (.int .u32 S.free)).setCell (p := ⟨hb, 2, none⟩) H.Fh (.int .u32 ((l : Int) + 1))).setCell (p := ⟨pb, q, none⟩) hps.1 (.int .i64 S.fp)).setCell (p := ⟨hb, 5, none⟩) H.Fh (.int .u32 ((q : Int) + 1))).alloc (.cells #[.int .i64 d, .int .u64 s, .int .u32 l, .int .u32 ((q : Int) + 1)] 36)).drew.drew
  have HH : Hid (_ ∧ _) := ⟨KP, fr⟩
  clear KP fr H hy hs hqv hps
  go_enter Yba.func25, Yba.ntmps25
  go_wp2_with fail
  go_region
  go_wp2_with fail
  go_region
  go_wp2_with fail
  go_ret
  exact ⟨rfl, ⟨_, _, _, HH.out.1⟩, HH.out.2⟩
end Go.Proofs.Ybulkadzc
