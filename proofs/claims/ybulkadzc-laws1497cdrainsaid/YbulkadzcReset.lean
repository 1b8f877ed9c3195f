import Derived.Test.YbulkadzcStops
import Derived.Test.YbulkadzcFixLaw
namespace Go.Proofs.Ybulkadzc
open Go.RowKit

set_option maxHeartbeats 1000000 in
theorem Reset_dead (F : Nat → Prop) (hb : Nat) (S : HSt) (s : Nat) (g dl : Int) (w : World) (hS : HP w F hb S) (hm : S.slots.length ≤ 1000000) (hp : pendB S s g = false) :
    Calls Yba.prog 19 #[.pointer (some ⟨hb, 0, none⟩), .agg #[.int .u32 s, .int .u32 g], .int .i64 dl] w
      fun r w' => r = .returned (.bool false) ∧ Ext w w' := by
  go_enter Yba.func19, Yba.ntmps19
  go_wp2_with fail
  refine (pending_ext F hb S s g _ (hS.ext ((Ext.refl w).alloc _)) hm).mono ?_
  rintro r W1 ⟨rfl, e1⟩
  rw [hp]
  go_wp2_with fail
  go_ret
  exact ⟨rfl, ((Ext.refl w).alloc _).trans e1⟩

set_option maxHeartbeats 2000000 in
theorem Reset_live (F : Nat → Prop) (hb : Nat) (S : HSt) (s p : Nat) (g dl : Int) (y : Slt) (x : Ent) (w : World) (hS : HP w F hb S) (hm : S.slots.length ≤ 1000000) (hn : S.ents.length ≤ 1000000)
    (hy : S.slots[s]? = some y) (hg : y.gen = g) (hp : y.pos = (p : Int)) (hx : S.ents[p]? = some x) (hxl : x.l = (s : Int)) (ho : Ord S) (hpos : PosOK S) (ha : 0 ≤ S.armed ∧ S.armed ≤ 1000000) :
    Calls Yba.prog 19 #[.pointer (some ⟨hb, 0, none⟩), .agg #[.int .u32 s, .int .u32 g], .int .i64 dl] w
      fun r w' => r = .returned (.bool true) ∧ ∃ S', Sifted ((({ S with armed := S.armed + 1 } : HSt)).place p ⟨dl, S.armed + 1, s, x.p⟩) S' ∧ HP w' F hb S' ∧ Fr w w' F F := by
  have hpe : pendB S s g = true := by simp [pendB, hy, hg]
  have hsl := (List.getElem?_eq_some_iff.1 hy).1
  have hpl := (List.getElem?_eq_some_iff.1 hx).1
  go_enter Yba.func19, Yba.ntmps19
  go_wp2_with fail
  have bx : Hnd (w.alloc (.cells #[.int .u32 s, .int .u32 g] 29)) w.heap.size s g := heap_new_at _ _ _ rfl
  have hS1 := hS.ext ((Ext.refl w).alloc (.cells #[.int .u32 s, .int .u32 g] 29))
  refine (pending_ext F hb S s g _ hS1 hm).mono ?_
  rintro r W1 ⟨rfl, e1⟩
  rw [hpe]
  have hS2 := hS1.ext e1
  have bx2 := bx.ext e1
  have ew : Ext w W1 := ((Ext.refl w).alloc _).trans e1
  clear hS1 bx e1 hS
  obtain ⟨ev, sv, pv, H⟩ := hS2
  obtain ⟨eb, ec, rfl, hec, hlt1⟩ := ownsRow_form H.ents (by omega)
  obtain ⟨sb, sc, rfl, hsc, hlt2⟩ := ownsRow_form H.slots (by omega)
  obtain ⟨h0, h1, _⟩ := H.cells
  obtain ⟨_, q1, _⟩ := H.sltAt hy
  obtain ⟨c0, c1, c2, c3⟩ := H.entAt hx
  obtain ⟨d0, d1⟩ := bx2.cells
  rw [hp] at q1
  rw [hxl] at c2
  have i1 : (0 : Int) ≤ (s : Int) := by omega
  have i2 : (s : Int) < (S.slots.length : Int) := by omega
  have i3 : (0 : Int) ≤ (p : Int) := by omega
  have i4 : (p : Int) < (S.ents.length : Int) := by omega
  have HF : Hid (S.slots[s]? = some y ∧ y.gen = g ∧ S.ents[p]? = some x) := ⟨hy, hg, hx⟩
  have HO : Hid (Ord S ∧ PosOK S) := ⟨ho, hpos⟩
  have HL : Hid (x.l = (s : Int)) := hxl
  clear hy hp hx hg hpe ho hpos hxl
  generalize w.heap.size = B at bx2 d0 d1 ⊢
  go_wp2_with fail
  go_quiet (fail)
  have eq : Ext W1 (W1.drewN nq) := (Ext.refl W1).drewN nq
  have H2 := H.ext eq
  have ew2 := ew.trans eq
  clear eq H h0 h1 q1 c0 c1 c2 c3 d0 d1 bx2 ew
  generalize W1.drewN nq = W2 at H2 ew2 ⊢
  obtain ⟨c0, c1, c2, c3⟩ := H2.entAt HF.out.2.2
  rw [HL.out] at c2
  obtain ⟨h0, h1, h2, h3, _⟩ := H2.cells
  have z3 := H2.thaw 3
  have hltb := H2.lt
  go_wp2_with fail
  go_region
  go_wp2_with fail
  have H3 := (((H2.setArmed (S.armed + 1)).alloc (.cells #[.int .i64 dl, .int .u64 (S.armed + 1), .int .u32 s, .int .u32 x.p] 36)).drew)
  have f3 := ((((ew2.fr F).setCell (p := ⟨hb, 3, none⟩) H2.Fh (.int .u64 (S.armed + 1))).alloc (.cells #[.int .i64 dl, .int .u64 (S.armed + 1), .int .u32 s, .int .u32 x.p] 36)).drew)
  refine (fix_ok F hb { S with armed := S.armed + 1 } p ⟨dl, S.armed + 1, s, x.p⟩ _ ⟨_, _, _, H3⟩ hpl hn hm HO.out.1 (rekey_pos (S := { S with armed := S.armed + 1 }) HO.out.2 HF.out.2.2 HL.out.symm)).mono ?_
  rintro r W4 ⟨rfl, S', hs, hS4, fr4⟩
  go_wp2_with fail
  go_ret
  exact ⟨rfl, S', hs, hS4, f3.trans fr4⟩
end Go.Proofs.Ybulkadzc
