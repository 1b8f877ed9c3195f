import Derived.Test.YbulkadzcAddTop
namespace Go.Proofs.Ybulkadzc
open Go.RowKit

/-- Does the handle (s, g) name a pending timer? -/
def pendB (S : HSt) (s g : Int) : Bool := match S.slots[s.toNat]? with | some y => y.gen == g | none => false

set_option maxHeartbeats 1000000 in
theorem pending_any (F : Nat → Prop) (hb : Nat) (S : HSt) (s : Nat) (g : Int) (w : World) (hS : HP w F hb S) (hm : S.slots.length ≤ 1000000) :
    Calls Yba.prog 29 #[.pointer (some ⟨hb, 0, none⟩), .agg #[.int .u32 s, .int .u32 g]] w
      fun r w' => r = .returned (.bool (pendB S s g)) ∧ ∃ n, w' = (w.alloc (.cells #[.int .u32 s, .int .u32 g] 29)).drewN n := by
  obtain ⟨ev, sv, pv, H⟩ := hS
  obtain ⟨sa, sc, hsv⟩ := ownsRow_shape H.slots
  subst hsv
  obtain ⟨h0, h1, _⟩ := H.cells
  have hlt := H.lt
  by_cases hl : s < S.slots.length
  · obtain ⟨sb, sc', he, hsc, hlt2⟩ := ownsRow_form H.slots (by omega)
    simp only [Value.slice.injEq, true_and] at he
    obtain ⟨rfl, rfl⟩ := he
    obtain ⟨y, hy⟩ : ∃ y, S.slots[s]? = some y := ⟨_, List.getElem?_eq_getElem hl⟩
    obtain ⟨_, _, q2⟩ := H.sltAt hy
    have i1 : (0 : Int) ≤ (s : Int) := by omega
    have i2 : (s : Int) < (S.slots.length : Int) := by omega
    have hw : IntKind.u32.wrap (S.slots.length : Int) = (S.slots.length : Int) := IntWalk.u32_in _ (by omega)
    have HP' : Hid (pendB S s g = (y.gen == g)) := by show pendB S s g = (y.gen == g); simp [pendB, hy]
    clear hy H
    go_enter Yba.func29, Yba.ntmps29
    go_wp2_with fail
    go_quiet (fail)
    go_wp2_with fail
    go_ret
    exact ⟨ret_bool (by rw [HP'.out]), _, rfl⟩
  · have hy : S.slots[s]? = none := List.getElem?_eq_none_iff.2 (by omega)
    have i2 : decide ((s : Int) < (S.slots.length : Int)) = false := by simp; omega
    have i3 : decide (s < S.slots.length) = false := by simp; omega
    have hw : IntKind.u32.wrap (S.slots.length : Int) = (S.slots.length : Int) := IntWalk.u32_in _ (by omega)
    have HP' : Hid (pendB S s g = false) := by show pendB S s g = false; simp [pendB, hy]
    clear hy H
    go_enter Yba.func29, Yba.ntmps29
    go_wp2_with fail
    go_quiet (fail)
    go_wp2_with fail
    go_ret
    exact ⟨ret_bool (by rw [HP'.out]), _, rfl⟩

/-- Nothing that was there has turned. -/
def Ext (w w' : World) : Prop := Fr w w' (fun _ => False) (fun _ => False)
theorem Ext.refl (w : World) : Ext w w := Fr.refl w _
theorem Ext.trans {a b c : World} (h : Ext a b) (q : Ext b c) : Ext a c := Fr.trans h q
theorem Ext.alloc {a w : World} (h : Ext a w) (o : Obj) : Ext a (w.alloc o) := Fr.alloc h o
theorem Ext.drew {a w : World} (h : Ext a w) : Ext a w.drew := Fr.drew h
theorem Ext.drewN {a w : World} (h : Ext a w) (n : Nat) : Ext a (w.drewN n) := Fr.drewN h n
theorem Ext.blk {w w' : World} (h : Ext w w') {k : Nat} (hk : k < w.heap.size) : w'.heap[k]? = w.heap[k]? := h.block k hk (fun f => f)
theorem Ext.fr {w w' : World} (h : Ext w w') (F : Nat → Prop) : Fr w w' F F := ⟨h.os, h.tape, h.output, h.size, fun _ hk _ => h.blk hk, fun _ _ f => f⟩
theorem HPv.ext {w w' : World} {F : Nat → Prop} {hb : Nat} {S : HSt} {ev sv pv : Value} (H : HPv w F hb S ev sv pv) (h : Ext w w') : HPv w' F hb S ev sv pv := H.congr h.size (fun k hk => h.blk (H.Flt k hk))
theorem HP.ext {w w' : World} {F : Nat → Prop} {hb : Nat} {S : HSt} (H : HP w F hb S) (h : Ext w w') : HP w' F hb S := by
  obtain ⟨ev, sv, pv, H⟩ := H; exact ⟨ev, sv, pv, H.ext h⟩

theorem Hnd.ext {w w' : World} {B : Nat} {a b : Int} (h : Hnd w B a b) (e : Ext w w') : Hnd w' B a b := h.kept (e.blk h.lt)
theorem Box.ext {w w' : World} {B : Nat} {d s l p : Int} (h : Box w B d s l p) (e : Ext w w') : Box w' B d s l p := h.kept (e.blk h.lt)

theorem pending_ext (F : Nat → Prop) (hb : Nat) (S : HSt) (s : Nat) (g : Int) (w : World) (hS : HP w F hb S) (hm : S.slots.length ≤ 1000000) :
    Calls Yba.prog 29 #[.pointer (some ⟨hb, 0, none⟩), .agg #[.int .u32 s, .int .u32 g]] w fun r w' => r = .returned (.bool (pendB S s g)) ∧ Ext w w' :=
  (pending_any F hb S s g w hS hm).mono (by rintro r w' ⟨rfl, n, rfl⟩; exact ⟨rfl, ((Ext.refl w).alloc _).drewN n⟩)

set_option maxHeartbeats 1000000 in
theorem Deadline_dead (F : Nat → Prop) (hb : Nat) (S : HSt) (s : Nat) (g : Int) (w : World) (hS : HP w F hb S) (hm : S.slots.length ≤ 1000000) (hp : pendB S s g = false) :
    Calls Yba.prog 21 #[.pointer (some ⟨hb, 0, none⟩), .agg #[.int .u32 s, .int .u32 g]] w
      fun r w' => r = .returned (.tuple #[.int .i64 0, .bool false]) ∧ Ext w w' := by
  go_enter Yba.func21, Yba.ntmps21
  go_wp2_with fail
  refine (pending_ext F hb S s g _ (hS.ext ((Ext.refl w).alloc _)) hm).mono ?_
  rintro r W1 ⟨rfl, e1⟩
  rw [hp]
  go_wp2_with fail
  go_ret2
  exact ⟨rfl, ((Ext.refl w).alloc _).trans e1⟩

set_option maxHeartbeats 1000000 in
theorem Deadline_live (F : Nat → Prop) (hb : Nat) (S : HSt) (s p : Nat) (g : Int) (y : Slt) (x : Ent) (w : World) (hS : HP w F hb S) (hm : S.slots.length ≤ 1000000) (hn : S.ents.length ≤ 1000000)
    (hy : S.slots[s]? = some y) (hg : y.gen = g) (hp : y.pos = (p : Int)) (hx : S.ents[p]? = some x) :
    Calls Yba.prog 21 #[.pointer (some ⟨hb, 0, none⟩), .agg #[.int .u32 s, .int .u32 g]] w
      fun r w' => r = .returned (.tuple #[.int .i64 x.d, .bool true]) ∧ Ext w w' := by
  have hpe : pendB S s g = true := by simp [pendB, hy, hg]
  have hsl := (List.getElem?_eq_some_iff.1 hy).1
  have hpl := (List.getElem?_eq_some_iff.1 hx).1
  go_enter Yba.func21, Yba.ntmps21
  go_wp2_with fail
  have bx : Hnd (w.alloc (.cells #[.int .u32 s, .int .u32 g] 29)) w.heap.size s g := heap_new_at _ _ _ rfl
  have hS1 := hS.ext ((Ext.refl w).alloc (.cells #[.int .u32 s, .int .u32 g] 29))
  refine (pending_ext F hb S s g _ hS1 hm).mono ?_
  rintro r W1 ⟨rfl, e1⟩
  rw [hpe]
  have hS2 := hS1.ext e1
  have bx2 := bx.ext e1
  have ew : Ext w W1 := ((Ext.refl w).alloc _).trans e1
  clear hS1 bx e1 hS
  obtain ⟨ev, sv, pv, H⟩ := hS2
  obtain ⟨eb, ec, rfl, hec, hlt1⟩ := ownsRow_form H.ents (by omega)
  obtain ⟨sb, sc, rfl, hsc, hlt2⟩ := ownsRow_form H.slots (by omega)
  obtain ⟨h0, h1, _⟩ := H.cells
  obtain ⟨_, q1, _⟩ := H.sltAt hy
  obtain ⟨c0, _⟩ := H.entAt hx
  obtain ⟨d0, d1⟩ := bx2.cells
  rw [hp] at q1
  have i1 : (0 : Int) ≤ (s : Int) := by omega
  have i2 : (s : Int) < (S.slots.length : Int) := by omega
  have i3 : (0 : Int) ≤ (p : Int) := by omega
  have i4 : (p : Int) < (S.ents.length : Int) := by omega
  clear hy hp hx H hg
  generalize w.heap.size = B at bx2 d0 d1 ⊢
  go_wp2_with fail
  go_quiet (fail)
  go_wp2_with fail
  go_ret2
  exact ⟨rfl, ew.drewN _⟩

set_option maxHeartbeats 400000 in
theorem Len_any (F : Nat → Prop) (hb : Nat) (S : HSt) (w : World) (hS : HP w F hb S) :
    Calls Yba.prog 13 #[.pointer (some ⟨hb, 0, none⟩)] w fun r w' => r = .returned (.int .i64 S.ents.length) ∧ w' = w := by
  obtain ⟨ev, sv, pv, H⟩ := hS
  obtain ⟨sa, sc, hsv⟩ := ownsRow_shape H.ents
  subst hsv
  obtain ⟨h0, _⟩ := H.cells
  clear H
  go_enter Yba.func13, Yba.ntmps13
  go_wp2_with fail
  go_ret
  exact ⟨rfl, rfl⟩

set_option maxHeartbeats 400000 in
theorem Next_none (F : Nat → Prop) (hb : Nat) (S : HSt) (w : World) (hS : HP w F hb S) (h : S.ents.length = 0) :
    Calls Yba.prog 22 #[.pointer (some ⟨hb, 0, none⟩)] w fun r w' => r = .returned (.tuple #[.int .i64 0, .bool false]) ∧ w' = w := by
  obtain ⟨ev, sv, pv, H⟩ := hS
  obtain ⟨sa, sc, hsv⟩ := ownsRow_shape H.ents
  subst hsv
  obtain ⟨h0, _⟩ := H.cells
  rw [h] at h0
  clear H h
  go_enter Yba.func22, Yba.ntmps22
  go_wp2_with fail
  go_ret2
  exact ⟨rfl, rfl⟩

set_option maxHeartbeats 400000 in
theorem Next_some (F : Nat → Prop) (hb : Nat) (S : HSt) (x : Ent) (w : World) (hS : HP w F hb S) (h : S.ents[0]? = some x) :
    Calls Yba.prog 22 #[.pointer (some ⟨hb, 0, none⟩)] w fun r w' => r = .returned (.tuple #[.int .i64 x.d, .bool true]) ∧ w' = w := by
  obtain ⟨ev, sv, pv, H⟩ := hS
  have hl := (List.getElem?_eq_some_iff.1 h).1
  obtain ⟨eb, ec, rfl, hec, hlt1⟩ := ownsRow_form H.ents (by omega)
  obtain ⟨h0, _⟩ := H.cells
  obtain ⟨c0, _⟩ := H.entAt h
  simp only [Nat.zero_mul] at c0
  have n0 : ((S.ents.length : Int) == 0) = false := beq_eq_false_iff_ne.2 (by omega)
  have n1 : (0 : Int) < (S.ents.length : Int) := by omega
  clear H h
  go_enter Yba.func22, Yba.ntmps22
  go_wp2_with fail
  go_ret2
  exact ⟨rfl, rfl⟩
end Go.Proofs.Ybulkadzc
