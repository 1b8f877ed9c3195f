import Derived.Test.YbulkadzcPend
namespace Go.Proofs.Ybulkadzc
open Go.RowKit

def HSt.cut (S : HSt) : HSt := { S with ents := S.ents.dropLast }

theorem eflat_dropLast (es : List Ent) (m : Nat) (h : es.length = m + 1) : (eflat es).take (m * 4) = eflat es.dropLast := by
  have hne : es ≠ [] := by intro e; rw [e] at h; simp at h
  have e1 : es = es.dropLast ++ [es.getLast hne] := (List.dropLast_concat_getLast hne).symm
  have hl : (eflat es.dropLast).length = m * 4 := by rw [eflat_len]; simp [h]
  have e2 : eflat es = eflat es.dropLast ++ eflat [es.getLast hne] := by rw [← eflat_append, ← e1]
  rw [e2, ← hl, List.take_left]

section
variable {w : World} {F : Nat → Prop} {hb : Nat} {S : HSt} {sv pv : Value}
theorem HPv.popped {eb ec m : Nat} (H : HPv w F hb S (.slice (some ⟨eb, 0, none⟩) S.ents.length ec) sv pv) (hm : S.ents.length = m + 1) :
    HPv (w.setCell ⟨hb, 0, none⟩ (.slice (some ⟨eb, 0, none⟩) m ec)) F hb S.cut (.slice (some ⟨eb, 0, none⟩) m ec) sv pv := by
  have hold : ∀ k, k ≠ hb → (w.setCell ⟨hb, 0, none⟩ (.slice (some ⟨eb, 0, none⟩) m ec)).heap[k]? = w.heap[k]? := fun k h1 => Below.heap_setCell _ _ _ _ h1
  refine ⟨?_, ?_, ?_, ?_, H.Fh, ?_, ?_, ?_, ?_⟩
  · rw [blk_set H.blk]; rfl
  · have e := H.ents
    have hl : S.cut.ents.length = m := by simp [HSt.cut, hm]
    rw [hl]
    rcases e.2 with ⟨h', _⟩ | ⟨g', cap', cur, h', _, hg, hc1, hc2, hc3, htake⟩
    · simp at h'
    · simp only [Value.slice.injEq, Option.some.injEq, Addr.mk.injEq, and_true, true_and] at h'
      obtain ⟨rfl, rfl⟩ := h'
      refine ⟨by rw [eflat_len, hl], .inr ⟨eb, ec, cur, rfl, Nat.zero_le _, ?_, by omega, hc2, hc3, ?_⟩⟩
      · rw [hold eb (H.Fe eb rfl).2]; exact hg
      · have h2 := congrArg (List.take (m * 4)) htake
        rw [List.take_take] at h2
        rw [show min (m * 4) (S.ents.length * 4) = m * 4 from by omega] at h2
        rw [h2, eflat_dropLast S.ents m hm]; rfl
  · exact ownsRow_congr H.slots (fun k hk => hold k (H.Fs k hk).2.1)
  · exact ownsRow_congr H.pers (fun k hk => hold k (H.Fp k hk).2.1)
  · exact fun k hk => H.Fe k hk
  · exact fun k hk => H.Fs k hk
  · exact fun k hk => H.Fp k hk
  · intro k hk; simpa [World.setCell] using H.Flt k hk
end

set_option maxHeartbeats 1000000 in
theorem remove_last (F : Nat → Prop) (hb : Nat) (S : HSt) (m : Nat) (w : World) (hS : HP w F hb S) (hm : S.ents.length = m + 1) (hn : S.ents.length ≤ 1000000) :
    Calls Yba.prog 24 #[.pointer (some ⟨hb, 0, none⟩), .int .i64 m] w
      fun r w' => r = .returned (.tuple #[]) ∧ HP w' F hb S.cut ∧ Fr w w' F F := by
  obtain ⟨ev, sv, pv, H⟩ := hS
  obtain ⟨eb, ec, rfl, hec, hlt1⟩ := ownsRow_form H.ents (by omega)
  obtain ⟨h0, h1, _⟩ := H.cells
  obtain ⟨x, hx⟩ : ∃ x, S.ents[m]? = some x := ⟨_, List.getElem?_eq_getElem (by omega)⟩
  obtain ⟨c0, c1, c2, c3⟩ := H.entAt hx
  have hlt := H.lt
  have z0 := H.thaw 0
  have KP := (H.popped hm).alloc (.cells #[.int .i64 x.d, .int .u64 x.s, .int .u32 x.l, .int .u32 x.p] 36)
  have fr := ((Fr.refl w F).setCell (p := ⟨hb, 0, none⟩) H.Fh (.slice (some ⟨eb, 0, none⟩) m ec)).alloc (.cells #[.int .i64 x.d, .int .u64 x.s, .int .u32 x.l, .int .u32 x.p] 36)
  have HH : Hid (_ ∧ _) := ⟨KP, fr⟩
  rw [hm] at h0 hec
  have i1 : (0 : Int) ≤ (m : Int) := by omega
  have i2 : (m : Int) < (m : Int) + 1 := by omega
  have mb : m ≤ 1000000 := by omega
  have mec : m ≤ ec := by omega
  clear KP fr H hx hm hn
  go_enter Yba.func24, Yba.ntmps24
  go_wp2_with fail
  go_end0
  exact ⟨rfl, ⟨_, _, _, HH.out.1⟩, HH.out.2⟩

set_option maxHeartbeats 1000000 in
theorem remove_mid (F : Nat → Prop) (hb : Nat) (S : HSt) (i m : Nat) (x : Ent) (w : World) (hS : HP w F hb S) (hm : S.ents.length = m + 1) (him : i < m) (hn : S.ents.length ≤ 1000000) (hsl : S.slots.length ≤ 1000000)
    (hx : S.ents[m]? = some x) (ho : Ord S.cut) (hp : PosOK (S.cut.place i x)) :
    Calls Yba.prog 24 #[.pointer (some ⟨hb, 0, none⟩), .int .i64 i] w
      fun r w' => r = .returned (.tuple #[]) ∧ ∃ S', Sifted (S.cut.place i x) S' ∧ HP w' F hb S' ∧ Fr w w' F F := by
  obtain ⟨ev, sv, pv, H⟩ := hS
  obtain ⟨eb, ec, rfl, hec, hlt1⟩ := ownsRow_form H.ents (by omega)
  obtain ⟨h0, h1, _⟩ := H.cells
  obtain ⟨c0, c1, c2, c3⟩ := H.entAt hx
  have hlt := H.lt
  have z0 := H.thaw 0
  have KP := (H.popped hm).alloc (.cells #[.int .i64 x.d, .int .u64 x.s, .int .u32 x.l, .int .u32 x.p] 36)
  have fr := ((Fr.refl w F).setCell (p := ⟨hb, 0, none⟩) H.Fh (.slice (some ⟨eb, 0, none⟩) m ec)).alloc (.cells #[.int .i64 x.d, .int .u64 x.s, .int .u32 x.l, .int .u32 x.p] 36)
  have HH : Hid (_ ∧ _) := ⟨KP, fr⟩
  have hcl : Hid (S.cut.ents.length = m) := by show S.cut.ents.length = m; simp [HSt.cut, hm]
  have Hop : Hid (Ord S.cut ∧ PosOK (S.cut.place i x)) := ⟨ho, hp⟩
  have Hsl : Hid (S.cut.slots.length ≤ 1000000) := hsl
  rw [hm] at h0 hec
  have i1 : (0 : Int) ≤ (m : Int) := by omega
  have i2 : (m : Int) < (m : Int) + 1 := by omega
  have mb : m ≤ 1000000 := by omega
  have mec : m ≤ ec := by omega
  clear KP fr H hx hm hn ho hp hsl
  go_enter Yba.func24, Yba.ntmps24
  go_wp2_with fail
  refine (fix_ok F hb S.cut i x _ ⟨_, _, _, HH.out.1⟩ (by rw [hcl.out]; exact him) (by rw [hcl.out]; exact mb) Hsl.out Hop.out.1 Hop.out.2).mono ?_
  rintro r w' ⟨rfl, S', hs, hp, fr⟩
  go_wp2_with fail
  go_end0
  exact ⟨rfl, S', hs, hp, HH.out.2.trans fr⟩

/-- release's state: the slot l forgets its value, its gen moves on, it joins the free list; the period p (1 + its index; 0: none) joins the other. -/
def HSt.freed (S : HSt) (l : Nat) (y : Slt) : HSt :=
  { S with slots := setPos ((S.slots.modify l fun y => { y with v := 0 }).modify l fun z => { z with gen := y.gen + 1 }) l S.free, free := (l : Int) + 1 }
def HSt.freedP (S : HSt) (p : Nat) : HSt := { S with pers := S.pers.set p S.fp, fp := (p : Int) + 1 }

theorem sflat_setG (es : List Slt) (i : Nat) (q : Int) (x : Slt) (h : es[i]? = some x) : (sflat es).set (i * 3 + 2) (.int .u32 q) = sflat (es.modify i fun x => { x with gen := q }) := by
  have := sflat_set es i (fun x => { x with gen := q }) x h
  obtain ⟨h1, h2, h3⟩ := sflat_get es i x h
  rw [← this]
  simp only
  rw [set_same _ (i * 3) _ h1, set_same _ (i * 3 + 1) _ h2]

section
variable {w : World} {F : Nat → Prop} {hb : Nat} {S : HSt} {ev pv : Value}
/-- release's stores. -/
theorem HPv.freed {sb sc l : Nat} {y : Slt} (H : HPv w F hb S ev (.slice (some ⟨sb, 0, none⟩) S.slots.length sc) pv) (hy : S.slots[l]? = some y) :
    HPv ((((w.setCell ⟨sb, l * 3, none⟩ (.int .i64 0)).setCell ⟨sb, l * 3 + 2, none⟩ (.int .u32 (y.gen + 1))).setCell ⟨sb, l * 3 + 1, none⟩ (.int .u32 S.free)).setCell ⟨hb, 2, none⟩ (.int .u32 ((l : Int) + 1))) F hb (S.freed l y) ev (.slice (some ⟨sb, 0, none⟩) S.slots.length sc) pv := by
  have hl := (List.getElem?_eq_some_iff.1 hy).1
  have H1 := H.setSlot (l * 3) (.int .i64 0) (S.slots.modify l fun y => { y with v := 0 }) (by simp) (sflat_setV S.slots l 0 y hy) (by omega)
  have e1 : (S.slots.modify l fun y => { y with v := 0 })[l]? = some { y with v := 0 } := by rw [List.getElem?_modify_eq, hy]; rfl
  have H2 := H1.setSlot (l * 3 + 2) (.int .u32 (y.gen + 1)) ((S.slots.modify l fun y => { y with v := 0 }).modify l fun z => { z with gen := y.gen + 1 }) (by simp) (sflat_setG _ l (y.gen + 1) _ e1) (by simp; omega)
  have e2 : ((S.slots.modify l fun y => { y with v := 0 }).modify l fun z => { z with gen := y.gen + 1 })[l]? = some { v := 0, pos := y.pos, gen := y.gen + 1 } := by rw [List.getElem?_modify_eq, e1]; rfl
  have H3 := H2.setSlot (l * 3 + 1) (.int .u32 S.free) (setPos ((S.slots.modify l fun y => { y with v := 0 }).modify l fun z => { z with gen := y.gen + 1 }) l S.free) (by simp [setPos]) (sflat_setPos _ l S.free _ e2) (by simp; omega)
  exact H3.setFree ((l : Int) + 1)
end
section
variable {w : World} {F : Nat → Prop} {hb : Nat} {S : HSt} {ev sv : Value}
theorem pflat_set (ps : List Int) (p : Nat) (q : Int) : (pflat ps).set p (.int .i64 q) = pflat (ps.set p q) := by
  unfold pflat; rw [← List.map_set]
theorem HPv.setPer {pb pc : Nat} (H : HPv w F hb S ev sv (.slice (some ⟨pb, 0, none⟩) S.pers.length pc)) (p : Nat) (q : Int) :
    HPv (w.setCell ⟨pb, p, none⟩ (.int .i64 q)) F hb { S with pers := S.pers.set p q } ev sv (.slice (some ⟨pb, 0, none⟩) S.pers.length pc) := by
  have hs := H.Fp pb rfl
  have hold : ∀ k, k ≠ pb → (w.setCell ⟨pb, p, none⟩ (.int .i64 q)).heap[k]? = w.heap[k]? := fun k h1 => Below.heap_setCell _ _ _ _ h1
  refine ⟨?_, ?_, ?_, ?_, H.Fh, H.Fe, H.Fs, H.Fp, ?_⟩
  · rw [hold hb (Ne.symm hs.2.1)]; exact H.blk
  · exact ownsRow_congr H.ents (fun k hk => hold k (fun e => hs.2.2.1 (e ▸ hk)))
  · exact ownsRow_congr H.slots (fun k hk => hold k (fun e => hs.2.2.2 (e ▸ hk)))
  · have := (H.pers.stored p (.int .i64 q)).1
    rw [pflat_set] at this
    simpa using this
  · intro k hk; simpa [World.setCell] using H.Flt k hk
theorem HPv.freedP {pb pc : Nat} (H : HPv w F hb S ev sv (.slice (some ⟨pb, 0, none⟩) S.pers.length pc)) (p : Nat) :
    HPv ((w.setCell ⟨pb, p, none⟩ (.int .i64 S.fp)).setCell ⟨hb, 5, none⟩ (.int .u32 ((p : Int) + 1))) F hb (S.freedP p) ev sv (.slice (some ⟨pb, 0, none⟩) S.pers.length pc) :=
  (H.setPer p S.fp).setFp ((p : Int) + 1)
theorem HPv.perAt {pb n pc : Nat} (H : HPv w F hb S ev sv (.slice (some ⟨pb, 0, none⟩) n pc)) {p : Nat} {q : Int} (hq : S.pers[p]? = some q) : w.cell? ⟨pb, p, none⟩ = some (.int .i64 q) := by
  have hi := (List.getElem?_eq_some_iff.1 hq).1
  have e := H.pers
  have hn : n = S.pers.length := by
    obtain ⟨g, c, h, _⟩ := ownsRow_form e (by omega)
    simp at h; exact h.2.1
  subst hn
  rw [e.cellAt _ (by omega)]
  simp [pflat, hq]
end
end Go.Proofs.Ybulkadzc
