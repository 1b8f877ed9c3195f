import Derived.Test.YbulkadzcState
namespace Go.Proofs.Ybulkadzc
open Go.RowKit

set_option maxHeartbeats 1000000 in
theorem PopDue_none (F : Nat → Prop) (hb : Nat) (S : HSt) (now : Int) (w : World) (hS : HP w F hb S) (h : S.ents.length = 0) :
    Calls Yba.prog 12 #[.pointer (some ⟨hb, 0, none⟩), .int .i64 now] w fun r w' => r = .returned (.tuple #[.int .i64 0, .int .i64 0, .bool false]) ∧ w' = w := by
  obtain ⟨ev, sv, pv, H⟩ := hS
  obtain ⟨sa, sc, hsv⟩ := ownsRow_shape H.ents
  subst hsv
  obtain ⟨h0, _⟩ := H.cells
  rw [h] at h0
  clear H h
  go_enter Yba.func12, Yba.ntmps12
  go_wp2_with fail
  go_ret3
  exact ⟨rfl, rfl⟩

set_option maxHeartbeats 2000000 in
theorem PopDue_one (F : Nat → Prop) (hb : Nat) (S : HSt) (now : Int) (x : Ent) (s : Nat) (y : Slt) (w : World) (hS : HP w F hb S) (hx : S.ents[0]? = some x) (hp0 : x.p = 0) (hd : x.d ≤ now) (hxl : x.l = (s : Int)) (hy : S.slots[s]? = some y)
    (hm : S.slots.length ≤ 1000000) (hn : S.ents.length ≤ 1000000) (ho : Ord S) (hpos : PosOK S) (hgb : 0 ≤ y.gen ∧ y.gen ≤ 1000000) (hqb : S.pers.length ≤ 1000000) (hfp : 0 ≤ S.fp ∧ S.fp ≤ 1000000) :
    Calls Yba.prog 12 #[.pointer (some ⟨hb, 0, none⟩), .int .i64 now] w
      fun r w' => ∃ S1 y1, r = .returned (.tuple #[.int .i64 y.v, .int .i64 x.d, .bool true]) ∧ Removed S 0 S1 ∧ S1.slots[s]? = some y1 ∧ HP w' F hb (S1.rel s y1 x.p) ∧ Fr w w' F F := by
  have hpl := (List.getElem?_eq_some_iff.1 hx).1
  obtain ⟨ev, sv, pv, H⟩ := hS
  obtain ⟨eb, ec, rfl, hec, hlt1⟩ := ownsRow_form H.ents (by omega)
  obtain ⟨h0, _⟩ := H.cells
  obtain ⟨c0, c1, c2, c3⟩ := H.entAt hx
  simp only [Nat.zero_mul, Nat.zero_add] at c0 c1 c2 c3
  rw [hxl] at c2
  rw [hp0] at c3
  have n0 : ((S.ents.length : Int) == 0) = false := beq_eq_false_iff_ne.2 (by omega)
  have n1 : (0 : Int) < (S.ents.length : Int) := by omega
  have HX : Hid (S.ents[0]? = some x ∧ x.l = (s : Int) ∧ S.slots[s]? = some y ∧ x.p = 0) := ⟨hx, hxl, hy, hp0⟩
  have HO : Hid (Ord S ∧ PosOK S) := ⟨ho, hpos⟩
  clear hx hxl hy ho hpos hp0
  go_enter Yba.func12, Yba.ntmps12
  go_upto_region 12 with (fail)
  have e3 : Ext w (w.alloc (.cells #[.int .i64 x.d, .int .u64 x.s, .int .u32 s, .int .u32 0] 36)) := (Ext.refl w).alloc _
  have b3 : Box (w.alloc (.cells #[.int .i64 x.d, .int .u64 x.s, .int .u32 s, .int .u32 0] 36)) w.heap.size x.d x.s s 0 := heap_new_at _ _ _ rfl
  have nB : ¬ F w.heap.size := fun f => by have := H.Flt _ f; omega
  have H3 := H.ext e3
  clear H h0 c0 c1 c2 c3
  generalize w.heap.size = Bx at b3 nB ⊢
  generalize w.alloc (.cells #[.int .i64 x.d, .int .u64 x.s, .int .u32 s, .int .u32 0] 36) = W3 at H3 b3 e3 ⊢
  go_wp2_with fail
  refine (remove_any F hb S 0 _ ⟨_, _, _, H3⟩ hpl hn hm HO.out.1 HO.out.2).mono ?_
  rintro r W4 ⟨rfl, S1, hrem, hS4, fr4⟩
  have RF := removed_facts HO.out.1 HO.out.2 HX.out.1 hrem
  obtain ⟨y1, hy1, hval, hgen, _⟩ := RF.slot s y HX.out.2.2.1
  have b4 := b3.kept (fr4.block _ b3.lt nB)
  have fw4 := (e3.fr F).trans fr4
  obtain ⟨c0, c1, c2, c3⟩ := b4.cells
  have HR : Hid (Removed S 0 S1 ∧ S1.slots[s]? = some y1 ∧ y1.v = y.v) := ⟨hrem, hy1, hval⟩
  have HG : Hid (y1.gen = y.gen) := hgen
  have HPQ : Hid (S1.pers = S.pers ∧ S1.fp = S.fp ∧ S1.slots.length = S.slots.length) := ⟨RF.pers, RF.fp, RF.slen⟩
  clear hrem hy1 hgen hval RF H3 b3 fr4 e3
  go_wp2_with fail
  go_region_with ((go_at_call 25; refine (release_any F hb S1 x.d x.s 0 s y1 _ (hS4.ext ((Ext.refl _).drew)) (by rw [HPQ.out.2.2]; exact hm) HR.out.2.1 (by rw [HG.out]; exact hgb) (.inl rfl) (by rw [HPQ.out.1]; exact hqb) (by rw [HPQ.out.2.1]; exact hfp)).mono ?_; rintro r W5 ⟨rfl, hS5, fr5⟩; have k0 : W5.cell? ⟨Bx, 0, none⟩ = some (.int .i64 x.d) := by rw [fr5.cell (by exact b4.lt) nB]; exact c0))
  all_goals
    go_wp2_with fail
    go_ret3
    refine ⟨S1, y1, ?_, HR.out.1, HR.out.2.1, by rw [HX.out.2.2.2]; exact hS5, fw4.trans (((Fr.refl W4 F).drew).trans fr5)⟩
    rw [← HR.out.2.2]
    rfl
end Go.Proofs.Ybulkadzc
