import Derived.Test.YbulkadzcAddTop
namespace Go.Proofs.Ybulkadzc
open Go.RowKit

theorem added_good {S S' : HSt} {d v : Int} (hG : Good S) (hf : S.free = 0) (h : Sifted ((S.toAdd d 0 v).place S.ents.length ⟨d, S.armed + 1, S.takes, 0⟩) S')
    (h1 : S.ents.length < 100000) (h2 : S.slots.length < 100000) (h3 : S.armed < 1000000) :
    Good S' ∧ S'.ents.length = S.ents.length + 1 ∧ S'.slots.length = S.slots.length + 1 ∧ S'.free = 0 ∧ S'.armed = S.armed + 1 := by
  obtain ⟨ho, hp, hr⟩ := h
  have e1 : S'.ents.length = S.ents.length + 1 := by
    rw [hr.len, toAdd_place_ents]; simp
  have e2 : S'.slots.length = S.slots.length + 1 := by
    rw [hr.slen, place_slen]; simp [HSt.toAdd, HSt.took, hf]
  have e3 : S'.free = 0 := by rw [hr.free]; simp [HSt.place, HSt.toAdd, HSt.took, hf]
  have e4 : S'.armed = S.armed + 1 := by rw [hr.armed]; simp [HSt.place, HSt.toAdd, took_armed]
  refine ⟨⟨ho, hp, by omega, by omega, ⟨by have := hG.a; omega, by omega⟩, .inl e3, ?_⟩, e1, e2, e3, e4⟩
  intro x hx
  obtain ⟨k, hk⟩ := List.mem_iff_getElem?.1 hx
  obtain ⟨_, y, hy, _⟩ := hp k x hk
  have := (List.getElem?_eq_some_iff.1 hy).1
  simp [HSt.takes, e3]; omega

theorem empty_good : Good emptyH := by
  refine ⟨fun k x y _ h => by simp [emptyH] at h, fun k x h => by simp [emptyH] at h, by simp [emptyH], by simp [emptyH], by simp [emptyH], .inl rfl, fun x h => by simp [emptyH] at h⟩

theorem Yba.info24 : (Yba.prog.info? 24).map (fun i => (i.zero, i.size, i.bytes)) = some (some (.int .u64 0), 1, 8) := by kernel_rfl
theorem Yba.info4 : (Yba.prog.info? 4).map (fun i => (i.zero, i.size, i.bytes)) = some (some (.bool false), 1, 1) := by kernel_rfl

/-- A row of integers, or of bools, of the call's own, at block g. -/
def IR (w : World) (F : Nat → Prop) (g : Nat) (e : TypeId) (k : IntKind) (xs : List Int) : Prop :=
  ¬ F g ∧ w.ownsRow 0 e 1 (.slice (some ⟨g, 0, none⟩) xs.length xs.length) xs.length (xs.map (Value.int k))
def BR (w : World) (F : Nat → Prop) (g : Nat) (xs : List Bool) : Prop :=
  ¬ F g ∧ w.ownsRow 0 4 1 (.slice (some ⟨g, 0, none⟩) xs.length xs.length) xs.length (xs.map Value.bool)
section
variable {w w' : World} {F F' : Nat → Prop} {g : Nat} {e : TypeId} {k : IntKind} {xs : List Int} {bs : List Bool}
theorem IR.lt (h : IR w F g e k xs) : g < w.heap.size := (h.2.lt g rfl).2
theorem BR.lt (h : BR w F g bs) : g < w.heap.size := (h.2.lt g rfl).2
theorem IR.kept (h : IR w F g e k xs) (hF : ¬ F' g) (hh : w'.heap[g]? = w.heap[g]?) : IR w' F' g e k xs :=
  ⟨hF, ownsRow_congr h.2 (fun j hj => by simp [Value.ownBlock] at hj; subst hj; exact hh)⟩
theorem BR.kept (h : BR w F g bs) (hF : ¬ F' g) (hh : w'.heap[g]? = w.heap[g]?) : BR w' F' g bs :=
  ⟨hF, ownsRow_congr h.2 (fun j hj => by simp [Value.ownBlock] at hj; subst hj; exact hh)⟩
theorem IR.fr (h : IR w F g e k xs) (f : Fr w w' F F') : IR w' F' g e k xs := h.kept (fun x => h.1 (f.foot _ h.lt x)) (f.block _ h.lt h.1)
theorem BR.fr (h : BR w F g bs) (f : Fr w w' F F') : BR w' F' g bs := h.kept (fun x => h.1 (f.foot _ h.lt x)) (f.block _ h.lt h.1)
theorem IR.cell (h : IR w F g e k xs) {j : Nat} {v : Int} (hv : xs[j]? = some v) : w.cell? ⟨g, j, none⟩ = some (.int k v) := by
  have := (List.getElem?_eq_some_iff.1 hv).1
  rw [h.2.cellAt j (by omega), List.getElem?_map, hv]; rfl
theorem BR.cell (h : BR w F g bs) {j : Nat} {v : Bool} (hv : bs[j]? = some v) : w.cell? ⟨g, j, none⟩ = some (.bool v) := by
  have := (List.getElem?_eq_some_iff.1 hv).1
  rw [h.2.cellAt j (by omega), List.getElem?_map, hv]; rfl
theorem IR.thaw (h : IR w F g e k xs) (j : Nat) : w.frozen? ⟨g, j, none⟩ = false := frozen_row h.2 j
theorem BR.thaw (h : BR w F g bs) (j : Nat) : w.frozen? ⟨g, j, none⟩ = false := frozen_row h.2 j
theorem IR.set (h : IR w F g e k xs) (j : Nat) (v : Int) : IR (w.setCell ⟨g, j, none⟩ (.int k v)) F g e k (xs.set j v) := by
  refine ⟨h.1, ?_⟩
  have := (h.2.stored j (.int k v)).1
  rw [← List.map_set] at this
  simpa using this
theorem BR.set (h : BR w F g bs) (j : Nat) (v : Bool) : BR (w.setCell ⟨g, j, none⟩ (.bool v)) F g (bs.set j v) := by
  refine ⟨h.1, ?_⟩
  have := (h.2.stored j (.bool v)).1
  rw [← List.map_set] at this
  simpa using this
theorem IR.made (hF : ¬ F g) {n : Nat} (h : w.ownsRow 0 e 1 (.slice (some ⟨g, 0, none⟩) n n) n (madeCells #[Value.int k 0] n).toList) : IR w F g e k (List.replicate n 0) := by
  refine ⟨hF, ?_⟩
  have e1 : (madeCells #[Value.int k 0] n).toList = (List.replicate n (0 : Int)).map (Value.int k) := by
    simp [toList_madeCells_one]
  rw [e1] at h
  simpa using h
theorem BR.made (hF : ¬ F g) {n : Nat} (h : w.ownsRow 0 4 1 (.slice (some ⟨g, 0, none⟩) n n) n (madeCells #[Value.bool false] n).toList) : BR w F g (List.replicate n false) := by
  refine ⟨hF, ?_⟩
  have e1 : (madeCells #[Value.bool false] n).toList = (List.replicate n false).map Value.bool := by
    simp [toList_madeCells_one]
  rw [e1] at h
  simpa using h
theorem IR.alloc (h : IR w F g e k xs) (o : Obj) : IR (w.alloc o) F g e k xs := h.kept h.1 (Below.heap_alloc _ _ _ h.lt)
theorem IR.setO (h : IR w F g e k xs) {p : Addr} (hp : g ≠ p.block) (u : Value) : IR (w.setCell p u) F g e k xs := h.kept h.1 (Below.heap_setCell _ _ _ _ hp)
theorem BR.alloc (h : BR w F g bs) (o : Obj) : BR (w.alloc o) F g bs := h.kept h.1 (Below.heap_alloc _ _ _ h.lt)
theorem BR.setO (h : BR w F g bs) {p : Addr} (hp : g ≠ p.block) (u : Value) : BR (w.setCell p u) F g bs := h.kept h.1 (Below.heap_setCell _ _ _ _ hp)
theorem Box.alloc {B : Nat} {d s l p : Int} (h : Box w B d s l p) (o : Obj) : Box (w.alloc o) B d s l p := h.kept (Below.heap_alloc _ _ _ h.lt)
theorem Box.setO {B : Nat} {d s l p : Int} (h : Box w B d s l p) {a : Addr} (ha : B ≠ a.block) (u : Value) : Box (w.setCell a u) B d s l p := h.kept (Below.heap_setCell _ _ _ _ ha)
theorem Fr.ofGrown (h : w.grownBy w' none) (F : Nat → Prop) : Fr w w' F F := ⟨h.os, h.tape, h.output, h.size, fun k hk _ => h.block k hk (by simp), fun _ _ h => h⟩
theorem HPv.fr {hb : Nat} {S : HSt} {ev sv pv : Value} (H : HPv w F hb S ev sv pv) (h : w.grownBy w' none) : HPv w' F hb S ev sv pv := H.congr h.size (fun k hk => h.block k (H.Flt k hk) (by simp))
end

theorem drewN_two {W8 W9 : World} {a b : Nat} (h : (W8.drewN a).drewN b = W9) (F : Nat → Prop) : Fr W8 W9 F F ∧ ∀ k : Nat, W9.heap[k]? = W8.heap[k]? := by
  subst h
  exact ⟨((Fr.refl W8 F).drewN _).drewN _, fun _ => rfl⟩

/-- The same slot, a new key: the places stand. -/
theorem rekey_pos {S : HSt} {i : Nat} {x e : Ent} (h : PosOK S) (hx : S.ents[i]? = some x) (he : e.l = x.l) : PosOK (S.place i e) := by
  have hi := (List.getElem?_eq_some_iff.1 hx).1
  intro k z hz
  rw [virt_get hi] at hz
  by_cases c : k = i
  · subst c
    simp at hz; subst hz
    obtain ⟨x0, y, hy, _⟩ := h k x hx
    refine ⟨by omega, ?_⟩
    rw [place_slot, if_pos rfl, he, hy]
    exact ⟨_, rfl, rfl⟩
  · simp [c] at hz
    obtain ⟨z0, y, hy, py⟩ := h k z hz
    have hne : e.l.toNat ≠ z.l.toNat := fun q => c (h.inj hz hx (by have := (h i x hx).1; omega))
    exact ⟨z0, y, by rw [place_slot, if_neg hne]; exact hy, py⟩

/-- Behind fix: what the two rows expect of each entry. -/
theorem rekey_expect {S S' : HSt} {i : Nat} {x e : Ent} (h : PosOK S) (hx : S.ents[i]? = some x) (he : e.l = x.l) (hr : Rel (S.place i e) S') {dl sl : List Int}
    (hd : S.slots.length = dl.length) (hs : S.slots.length = sl.length)
    (hq : ∀ (m : Nat) (z : Ent), S.ents[m]? = some z → dl[z.l.toNat]? = some z.d ∧ sl[z.l.toNat]? = some z.s) :
    ∀ z ∈ S'.ents, (dl.set x.l.toNat e.d)[z.l.toNat]? = some z.d ∧ (sl.set x.l.toNat e.s)[z.l.toNat]? = some z.s := by
  have hi := (List.getElem?_eq_some_iff.1 hx).1
  intro z hz
  have hz' := (hr.mem z).1 hz
  obtain ⟨k, hk⟩ := List.mem_iff_getElem?.1 hz'
  rw [virt_get hi] at hk
  obtain ⟨_, y, hy, _⟩ := h i x hx
  have hyl := (List.getElem?_eq_some_iff.1 hy).1
  by_cases c : k = i
  · subst c
    simp at hk; subst hk
    rw [he, List.getElem?_set, List.getElem?_set]
    simp [← hd, ← hs, hyl]
  · simp [c] at hk
    have hne : x.l.toNat ≠ z.l.toNat := fun q => c (h.inj hk hx (by have := (h i x hx).1; have := (h k z hk).1; omega))
    rw [List.getElem?_set, if_neg hne, List.getElem?_set, if_neg hne]
    exact hq k z hk

set_option maxHeartbeats 8000000 in
set_option maxRecDepth 100000 in
theorem fix_law (b off len cap : Nat) (zs : List Int) (pick nd nseq : Int) (w : World) (_hlc : len ≤ cap) (_hcap : cap ≤ 9223372036854775807) (_hz : zs.length = cap)
    (hc : ∀ i, i < len → w.cell? ⟨b, off + i, none⟩ = some (.int .i64 (zs.getD i 0))) (hl0 : 0 < len) (hl : len ≤ 1024)
    (hp : 0 ≤ pick ∧ pick ≤ 65535) :
    Calls Yba.prog 3 #[.slice (some ⟨b, off, none⟩) len cap, .int .u16 pick, .int .i64 nd, .int .u64 nseq] w fun e w' => e = .returned (.bool true) ∧ Below w.heap.size w w' := by
  have hbw : b < w.heap.size := World.block_lt_of_cell? w _ (hc 0 hl0)
  have n0 : ((len : Int) == 0) = false := beq_eq_false_iff_ne.2 (by omega)
  go_enter Yba.func3, Yba.ntmps3
  go_wp2_with (go_at_call 6; refine (New_ok _).mono ?_; rintro r w1 ⟨rfl, hp1, fr1⟩)
  obtain ⟨hb, hhb⟩ : ∃ hb, w.heap.size = hb := ⟨_, rfl⟩
  rw [hhb] at hp1 fr1 ⊢
  have hhb' : Hid (w.heap.size = hb) := hhb
  rw [hhb] at hbw
  clear hhb
  go_loopw [32] (fun kv wr => ∃ (k : Nat) (S : HSt) (F : Nat → Prop), kv = .int .i64 k ∧ k ≤ len ∧ HP wr F hb S ∧ Fr w wr (fun _ => False) F ∧ Good S ∧ Hid (S.ents.length = k ∧ S.slots.length = k ∧ S.free = 0 ∧ S.armed = k)) (fun kv _ => len - (intOf kv).toNat)
  case atStart => exact ⟨0, emptyH, _, rfl, by omega, hp1, fr1, empty_good, ⟨rfl, rfl, rfl, rfl⟩⟩
  case round =>
    clear hp1 fr1
    obtain ⟨k, S, F, rfl, hk, hS, hfr, hG, hH⟩ := hrel
    by_cases hlt : k < len
    · have hcell : wr.cell? ⟨b, off + k, none⟩ = some (.int .i64 (zs.getD k 0)) := by
        rw [hfr.cell (by rw [hhb'.out]; exact hbw) (fun h => h)]; exact hc k hlt
      obtain ⟨z, hz⟩ : ∃ z, zs.getD k 0 = z := ⟨_, rfl⟩
      rw [hz] at hcell
      clear hc
      go_wp2_with fail
      refine (Add_ok F hb S z k _ hS hG).mono ?_
      rintro r w2 ⟨S', F', y, hs, hy, rfl, hp', fr'⟩
      go_wp2_with fail
      go_roundw
      case rel =>
        obtain ⟨g1, g2, g3, g4⟩ := hH.out
        obtain ⟨q1, q2, q3, q4, q5⟩ := added_good hG g3 hs (by omega) (by omega) (by omega)
        exact ⟨k + 1, S', F', by go_num, by omega, hp', hfr.trans fr', q1, ⟨by omega, by omega, q4, by omega⟩⟩
      case measure => simp [intOf]; omega
    · obtain ⟨hn, hm, hfree, harm⟩ := hH.out
      have hkl : k = len := by omega
      rw [hkl] at hn hm
      obtain ⟨pk, rfl⟩ := Int.eq_ofNat_of_zero_le hp.1
      have pk' : pk ≤ 65535 := by omega
      obtain ⟨i, hi⟩ : ∃ i, pk % len = i := ⟨_, rfl⟩
      have hil : i < len := by rw [← hi]; exact Nat.mod_lt _ hl0
      have Hi : Hid (pk % len = i) := hi
      obtain ⟨ev, sv, pv, H⟩ := hS
      obtain ⟨eb, ec, rfl, hec, hlt1⟩ := ownsRow_form H.ents (by omega)
      obtain ⟨sb, sc, rfl, hsc, hlt2⟩ := ownsRow_form H.slots (by omega)
      have hc0 := H.cells
      rw [hn, hm] at hc0
      obtain ⟨h0, h1, _⟩ := hc0
      have hNM : Hid (S.ents.length = len ∧ S.slots.length = len) := ⟨hn, hm⟩
      obtain ⟨x0, hx0⟩ : ∃ x, S.ents[i]? = some x := ⟨_, List.getElem?_eq_getElem (by omega)⟩
      clear hn hm hfree harm hkl hi hH hc
      go_upto_region 13 with (fail)
      rw [show ((pk : Int) % (len : Int)) = (i : Int) from by rw [← Hi.out]; simp]
      obtain ⟨c0, c1, c2, c3⟩ := H.entAt hx0
      obtain ⟨l0, hl0⟩ := Int.eq_ofNat_of_zero_le (hG.pos i x0 hx0).1
      rw [hl0] at c2
      have i1 : (0 : Int) ≤ (i : Int) := by omega
      have i2 : (i : Int) < (len : Int) := by omega
      have hlb := H.lt
      obtain ⟨t2, e2, z2, s2, y2⟩ := info_parts Yba.info2
      obtain ⟨t24, e24, z24, s24, y24⟩ := info_parts Yba.info24
      obtain ⟨t4, e4, z4, s4, y4⟩ := info_parts Yba.info4
      have HL0 : Hid (x0.l = (l0 : Int) ∧ S.ents[i]? = some x0) := ⟨hl0, hx0⟩
      clear hl0 hx0
      go_wp2_with (at_make; refine wpList_make_full _ rfl _ _ 22 rfl 0 2 t2 _ 1 Yba.underlying22 e2 z2 s2 .i64 .i64 _ _ len rfl rfl rfl rfl (by rw [y2]; omega) (by unfold maxLen; omega) (by omega) ?_)
      have H1 := H.alloc (.cells #[.int .i64 x0.d, .int .u64 x0.s, .int .u32 l0, .int .u32 x0.p] 36)
      have fr1 := hfr.alloc (.cells #[.int .i64 x0.d, .int .u64 x0.s, .int .u32 l0, .int .u32 x0.p] 36)
      have bx1 : Box (wr.alloc (.cells #[.int .i64 x0.d, .int .u64 x0.s, .int .u32 l0, .int .u32 x0.p] 36)) wr.heap.size x0.d x0.s l0 x0.p := heap_new_at _ _ _ rfl
      have hW1 : (wr.alloc (.cells #[.int .i64 x0.d, .int .u64 x0.s, .int .u32 l0, .int .u32 x0.p] 36)).heap.size = wr.heap.size + 1 := by simp
      generalize hB : wr.heap.size = B at bx1 hW1 ⊢
      have nB : ¬ F B := fun f => by have := H.Flt _ f; omega
      have hwB : w.heap.size ≤ B := by rw [← hB]; exact hfr.size
      clear H hfr c0 c1 c2 c3 h0 h1 hlb
      generalize (wr.alloc (.cells #[.int .i64 x0.d, .int .u64 x0.s, .int .u32 l0, .int .u32 x0.p] 36)) = W1 at H1 fr1 bx1 hW1 ⊢
      intro W2 own2 gr2
      have hBW := bx1.lt
      have H2 := H1.fr gr2
      have fr2 := fr1.trans (Fr.ofGrown gr2 F)
      have bx2 := bx1.kept (gr2.block B bx1.lt (by simp))
      have nD : ¬ F (B + 1) := fun f => by have := H1.Flt _ f; omega
      have D2 : IR W2 F (B + 1) 2 .i64 (List.replicate len 0) := IR.made nD own2
      generalize hD : B + 1 = D at D2 nD ⊢
      clear H1 fr1 bx1 own2 gr2
      have h1 := H2.cells.2.1
      rw [hNM.out.2] at h1
      go_wp2_with (at_make; refine wpList_make_full _ rfl _ _ 37 rfl 0 24 t24 _ 1 Yba.underlying37 e24 z24 s24 .i64 .i64 _ _ len rfl rfl rfl rfl (by rw [y24]; omega) (by unfold maxLen; omega) (by omega) ?_)
      intro W3 own3 gr3
      have H3 := H2.fr gr3
      have fr3 := fr2.trans (Fr.ofGrown gr3 F)
      have bx3 := bx2.kept (gr3.block B bx2.lt (by simp))
      have nE : ¬ F W2.heap.size := fun f => by have := H2.Flt _ f; omega
      have D3 := D2.fr (Fr.ofGrown gr3 F)
      have E3 : IR W3 F W2.heap.size 24 .u64 (List.replicate len 0) := IR.made nE own3
      have hDE : D ≠ W2.heap.size := by have := D2.lt; omega
      have hBE : B ≠ W2.heap.size := by have := bx2.lt; omega
      have hBD : B ≠ D := by omega
      have hwD : w.heap.size ≤ D := by omega
      have hwE : w.heap.size ≤ W2.heap.size := fr2.size
      generalize hE : W2.heap.size = E at E3 nE hDE hBE hwE ⊢
      clear H2 fr2 bx2 own3 gr3 D2 h1
      go_upto_region 17 with (fail)
      go_loopw [17] (fun kv wq => ∃ (j : Nat) (dl sl : List Int), kv = .int .i64 j ∧ j ≤ len ∧ dl.length = len ∧ sl.length = len ∧ HPv wq F hb S (.slice (some ⟨eb, 0, none⟩) S.ents.length ec) (.slice (some ⟨sb, 0, none⟩) S.slots.length sc) pv ∧ Fr w wq (fun _ => False) F ∧ Box wq B x0.d x0.s l0 x0.p ∧ IR wq F D 2 .i64 dl ∧ IR wq F E 24 .u64 sl ∧ Hid (∀ m x, m < j → S.ents[m]? = some x → dl[x.l.toNat]? = some x.d ∧ sl[x.l.toNat]? = some x.s)) (fun kv _ => len - (intOf kv).toNat)
      case atStart => exact ⟨0, _, _, rfl, by omega, by simp, by simp, H3, fr3, bx3, D3, E3, fun m x h => by omega⟩
      case round =>
        clear H3 fr3 bx3 D3 E3
        obtain ⟨j, dl, sl, rfl, hj, hdl, hsl, H, hfr, bx, hD1, hE1, HQ⟩ := hrel
        by_cases hjl : j < len
        · obtain ⟨x, hx⟩ : ∃ x, S.ents[j]? = some x := ⟨_, List.getElem?_eq_getElem (by rw [hNM.out.1]; exact hjl)⟩
          obtain ⟨xp, y, hy, _⟩ := hG.pos j x hx
          have hyl := (List.getElem?_eq_some_iff.1 hy).1
          rw [hNM.out.2] at hyl
          obtain ⟨c0, c1, c2, c3⟩ := H.entAt hx
          obtain ⟨l, hl⟩ := Int.eq_ofNat_of_zero_le xp
          rw [hl] at c2
          have h0 := H.cells.1
          rw [hNM.out.1] at h0
          have j1 : (0 : Int) ≤ (j : Int) := by omega
          have j2 : (j : Int) < (len : Int) := by omega
          have hll : l < len := by rw [hl] at hyl; simpa using hyl
          have l1 : (0 : Int) ≤ (l : Int) := by omega
          have l2 : (l : Int) < (len : Int) := by omega
          have q1 := hD1.cell (List.getElem?_eq_getElem (l := dl) (i := l) (by omega))
          have q2 := hE1.cell (List.getElem?_eq_getElem (l := sl) (i := l) (by omega))
          have q3 := hD1.thaw l
          have q4 := hE1.thaw l
          have r1 := hD1.lt
          have r2 := hE1.lt
          have HX : Hid (S.ents[j]? = some x ∧ x.l = (l : Int)) := ⟨hx, hl⟩
          have D5 := ((hD1.set l x.d).setO (p := ⟨E, l, none⟩) hDE (.int .u64 x.s)).alloc (.cells #[.int .i64 x.d, .int .u64 x.s, .int .u32 l, .int .u32 x.p] 36)
          have E5 := ((hE1.setO (p := ⟨D, l, none⟩) (Ne.symm hDE) (.int .i64 x.d)).set l x.s).alloc (.cells #[.int .i64 x.d, .int .u64 x.s, .int .u32 l, .int .u32 x.p] 36)
          have H5 := ((H.setOther (p := ⟨D, l, none⟩) nD (.int .i64 x.d)).setOther (p := ⟨E, l, none⟩) nE (.int .u64 x.s)).alloc (.cells #[.int .i64 x.d, .int .u64 x.s, .int .u32 l, .int .u32 x.p] 36)
          have f5 := ((hfr.setNew (p := ⟨D, l, none⟩) hwD (.int .i64 x.d)).setNew (p := ⟨E, l, none⟩) hwE (.int .u64 x.s)).alloc (.cells #[.int .i64 x.d, .int .u64 x.s, .int .u32 l, .int .u32 x.p] 36)
          have b5 := ((bx.setO (a := ⟨D, l, none⟩) hBD (.int .i64 x.d)).setO (a := ⟨E, l, none⟩) hBE (.int .u64 x.s)).alloc (.cells #[.int .i64 x.d, .int .u64 x.s, .int .u32 l, .int .u32 x.p] 36)
          have ALL : Hid (_ ∧ _ ∧ _ ∧ _ ∧ _) := ⟨D5, E5, H5, f5, b5⟩
          clear D5 E5 H5 f5 b5 hx hl hy H hD1 hE1 bx hfr
          go_wp2_with fail
          obtain ⟨D5, E5, H5, f5, b5⟩ := ALL.out
          refine ⟨⟨j + 1, dl.set l x.d, sl.set l x.s, by go_num, by omega, by simp [hdl], by simp [hsl], H5, f5, b5, D5, E5, ?_⟩, by simp [intOf]; omega⟩
          intro m z hm hz
          by_cases e1 : m = j
          · subst e1
            have := HX.out.1
            rw [hz] at this; injection this with this; subst this
            rw [HX.out.2]
            simp [hdl, hsl, hll]
          · obtain ⟨a1, a2⟩ := HQ.out m z (by omega) hz
            have hne : l ≠ z.l.toNat := fun c => e1 (hG.pos.inj hz HX.out.1 (by have := (hG.pos m z hz).1; rw [HX.out.2]; omega))
            rw [List.getElem?_set, if_neg hne, List.getElem?_set, if_neg hne]
            exact ⟨a1, a2⟩
        · have HQ' : Hid (∀ (m : Nat) (x : Ent), S.ents[m]? = some x → dl[x.l.toNat]? = some x.d ∧ sl[x.l.toNat]? = some x.s) := fun m x hx => HQ.out m x (by
            have := (List.getElem?_eq_some_iff.1 hx).1
            rw [hNM.out.1] at this; omega) hx
          clear HQ
          have hll : l0 < len := by
            obtain ⟨_, y, hy, _⟩ := hG.pos i x0 HL0.out.2
            have := (List.getElem?_eq_some_iff.1 hy).1
            rw [hNM.out.2, HL0.out.1] at this
            simpa using this
          obtain ⟨c0, c1, c2, c3⟩ := bx.cells
          have l1 : (0 : Int) ≤ (l0 : Int) := by omega
          have l2 : (l0 : Int) < (len : Int) := by omega
          have q1 := hD1.cell (List.getElem?_eq_getElem (l := dl) (i := l0) (by omega))
          have q2 := hE1.cell (List.getElem?_eq_getElem (l := sl) (i := l0) (by omega))
          have q3 := hD1.thaw l0
          have q4 := hE1.thaw l0
          have r1 := hD1.lt
          have r2 := hE1.lt
          have D5 := ((hD1.set l0 nd).setO (p := ⟨E, l0, none⟩) hDE (.int .u64 nseq)).alloc (.cells #[.int .i64 nd, .int .u64 nseq, .int .u32 l0, .int .u32 x0.p] 36)
          have E5 := ((hE1.setO (p := ⟨D, l0, none⟩) (Ne.symm hDE) (.int .i64 nd)).set l0 nseq).alloc (.cells #[.int .i64 nd, .int .u64 nseq, .int .u32 l0, .int .u32 x0.p] 36)
          have H5 := ((H.setOther (p := ⟨D, l0, none⟩) nD (.int .i64 nd)).setOther (p := ⟨E, l0, none⟩) nE (.int .u64 nseq)).alloc (.cells #[.int .i64 nd, .int .u64 nseq, .int .u32 l0, .int .u32 x0.p] 36)
          have f5 := ((hfr.setNew (p := ⟨D, l0, none⟩) hwD (.int .i64 nd)).setNew (p := ⟨E, l0, none⟩) hwE (.int .u64 nseq)).alloc (.cells #[.int .i64 nd, .int .u64 nseq, .int .u32 l0, .int .u32 x0.p] 36)
          have ALL : Hid (_ ∧ _ ∧ _ ∧ _) := ⟨D5, E5, H5, f5⟩
          clear D5 E5 H5 f5 H hD1 hE1 bx hfr
          go_wp2_with fail
          obtain ⟨D5, E5, H5, f5⟩ := ALL.out
          refine (fix_ok F hb S i ⟨nd, nseq, l0, x0.p⟩ _ ⟨_, _, _, H5⟩ (by rw [hNM.out.1]; exact hil) (by rw [hNM.out.1]; omega) (by rw [hNM.out.2]; omega) hG.ord (rekey_pos hG.pos HL0.out.2 HL0.out.1.symm)).mono ?_
          rintro r W5 ⟨rfl, S', ⟨hO', hP', hR'⟩, ⟨ev', sv', pv', H6⟩, fr6⟩
          have HE' : Hid (∀ z ∈ S'.ents, (dl.set l0 nd)[z.l.toNat]? = some z.d ∧ (sl.set l0 nseq)[z.l.toNat]? = some z.s) := by
            have := rekey_expect hG.pos HL0.out.2 (e := ⟨nd, nseq, l0, x0.p⟩) HL0.out.1.symm hR' (hNM.out.2.trans hdl.symm) (hNM.out.2.trans hsl.symm) HQ'.out
            rw [HL0.out.1] at this
            simp only [Int.toNat_natCast] at this
            exact this
          have hNM' : Hid (S'.ents.length = len ∧ S'.slots.length = len) := ⟨by rw [hR'.len, place_len]; exact hNM.out.1, by rw [hR'.slen, place_slen]; exact hNM.out.2⟩
          have D6 := D5.fr fr6
          have E6 := E5.fr fr6
          have f6 := f5.trans fr6
          have hOP : Hid (Ord S' ∧ PosOK S') := ⟨hO', hP'⟩
          have hdl' : (dl.set l0 nd).length = len := by simp [hdl]
          have hsl' : (sl.set l0 nseq).length = len := by simp [hsl]
          clear ALL D5 E5 H5 f5 fr6 hR' hO' hP' HQ' q1 q2 q3 q4 r1 r2 c0 c1 c2 c3 HL0 hNM hG hdl hsl
          generalize (dl.set l0 nd) = dl' at HE' D6 hdl'
          generalize (sl.set l0 nseq) = sl' at HE' E6 hsl'
          obtain ⟨eb', ec', rfl, hec', _⟩ := ownsRow_form H6.ents (by rw [hNM'.out.1]; omega)
          obtain ⟨sb', sc', rfl, hsc', _⟩ := ownsRow_form H6.slots (by rw [hNM'.out.2]; omega)
          have hc0 := H6.cells
          rw [hNM'.out.1, hNM'.out.2] at hc0
          obtain ⟨h0, h1, _⟩ := hc0
          go_wp2_with (at_make; refine wpList_make_full _ rfl _ _ 39 rfl 0 4 t4 _ 1 Yba.underlying39 e4 z4 s4 .i64 .i64 _ _ len rfl rfl rfl rfl (by rw [y4]; omega) (by unfold maxLen; omega) (by omega) ?_)
          intro W7 own7 gr7
          have H7 := H6.fr gr7
          have f7 := f6.trans (Fr.ofGrown gr7 F)
          have nG : ¬ F W5.heap.size := fun f => by have := H6.Flt _ f; omega
          have D7 := D6.fr (Fr.ofGrown gr7 F)
          have E7 := E6.fr (Fr.ofGrown gr7 F)
          have G7 : BR W7 F W5.heap.size (List.replicate len false) := BR.made nG own7
          have hDG : D ≠ W5.heap.size := by have := D6.lt; omega
          have hEG : E ≠ W5.heap.size := by have := E6.lt; omega
          have hwG : w.heap.size ≤ W5.heap.size := f6.size
          generalize hG' : W5.heap.size = G at G7 nG hDG hEG hwG ⊢
          clear H6 f6 D6 E6 own7 gr7 h0 h1
          go_upto_region 32 with (fail)
          go_loopw [21] (fun kv wq => ∃ (m : Nat) (bs : List Bool), kv = .int .i64 m ∧ m ≤ len ∧ bs.length = len ∧ HPv wq F hb S' (.slice (some ⟨eb', 0, none⟩) S'.ents.length ec') (.slice (some ⟨sb', 0, none⟩) S'.slots.length sc') pv' ∧ Fr w wq (fun _ => False) F ∧ IR wq F D 2 .i64 dl' ∧ IR wq F E 24 .u64 sl' ∧ BR wq F G bs ∧ Hid (∀ l : Nat, bs[l]? = some true → ∃ (j : Nat) (x : Ent), j < m ∧ S'.ents[j]? = some x ∧ x.l.toNat = l)) (fun kv _ => len - (intOf kv).toNat)
          case atStart => exact ⟨0, _, rfl, by omega, by simp, H7, f7, D7, E7, G7, fun l h => by
            rw [List.getElem?_replicate] at h
            split at h <;> simp at h⟩
          case round =>
            clear H7 f7 D7 E7 G7
            obtain ⟨m, bs, rfl, hm, hbs, H, hfr, hD1, hE1, hG1, HQ⟩ := hrel
            by_cases hml : m < len
            · obtain ⟨x, hx⟩ : ∃ x, S'.ents[m]? = some x := ⟨_, List.getElem?_eq_getElem (by rw [hNM'.out.1]; exact hml)⟩
              obtain ⟨xp, y, hy, py⟩ := hOP.out.2 m x hx
              have hyl := (List.getElem?_eq_some_iff.1 hy).1
              rw [hNM'.out.2] at hyl
              obtain ⟨xd, xs⟩ := HE'.out x (List.mem_iff_getElem?.2 ⟨m, hx⟩)
              have bF : bs[x.l.toNat]? = some false := by
                cases hb' : bs[x.l.toNat]? with
                | none => rw [List.getElem?_eq_none_iff] at hb'; omega
                | some v =>
                  cases v with
                  | false => rfl
                  | true =>
                    obtain ⟨j, z, hj, hz, e⟩ := HQ.out _ hb'
                    have := hOP.out.2.inj hz hx (by have := (hOP.out.2 j z hz).1; omega)
                    omega
              obtain ⟨c0, c1, c2, c3⟩ := H.entAt hx
              obtain ⟨l, hl⟩ := Int.eq_ofNat_of_zero_le xp
              rw [hl] at c2 xd xs bF hyl hy
              simp only [Int.toNat_natCast] at xd xs bF hyl hy
              obtain ⟨_, y1, _⟩ := H.sltAt hy
              rw [py] at y1
              have h0 := H.cells.1
              have h1 := H.cells.2.1
              rw [hNM'.out.1] at h0
              rw [hNM'.out.2] at h1
              have j1 : (0 : Int) ≤ (m : Int) := by omega
              have j2 : (m : Int) < (len : Int) := by omega
              have l1 : (0 : Int) ≤ (l : Int) := by omega
              have l2 : (l : Int) < (len : Int) := by omega
              have q1 := hD1.cell xd
              have q2 := hE1.cell xs
              have q3 := hG1.cell bF
              have q4 := hG1.thaw l
              have r3 := hG1.lt
              have HX : Hid (S'.ents[m]? = some x ∧ x.l = (l : Int)) := ⟨hx, hl⟩
              have D5 := (hD1.setO (p := ⟨G, l, none⟩) hDG (.bool true)).alloc (.cells #[.int .i64 x.d, .int .u64 x.s, .int .u32 l, .int .u32 x.p] 36)
              have E5 := (hE1.setO (p := ⟨G, l, none⟩) hEG (.bool true)).alloc (.cells #[.int .i64 x.d, .int .u64 x.s, .int .u32 l, .int .u32 x.p] 36)
              have G5 := (hG1.set l true).alloc (.cells #[.int .i64 x.d, .int .u64 x.s, .int .u32 l, .int .u32 x.p] 36)
              have H5 := (H.setOther (p := ⟨G, l, none⟩) nG (.bool true)).alloc (.cells #[.int .i64 x.d, .int .u64 x.s, .int .u32 l, .int .u32 x.p] 36)
              have f5 := (hfr.setNew (p := ⟨G, l, none⟩) hwG (.bool true)).alloc (.cells #[.int .i64 x.d, .int .u64 x.s, .int .u32 l, .int .u32 x.p] 36)
              have b5 : Box ((wr.setCell ⟨G, l, none⟩ (.bool true)).alloc (.cells #[.int .i64 x.d, .int .u64 x.s, .int .u32 l, .int .u32 x.p] 36)) wr.heap.size x.d x.s l x.p := heap_new_at _ _ _ (by simp [World.setCell])
              have ALL : Hid (_ ∧ _ ∧ _ ∧ _ ∧ _ ∧ _) := ⟨D5, E5, G5, H5, f5, b5⟩
              have HY : Hid (S'.slots[l]? = some y ∧ y.pos = (m : Int) ∧ dl'[l]? = some x.d ∧ sl'[l]? = some x.s) := ⟨hy, py, xd, xs⟩
              clear D5 E5 G5 H5 f5 b5 hx hl hy H hD1 hE1 hG1 hfr xd xs bF py
              go_upto_region 38 with (fail)
              obtain ⟨D5, E5, G5, H5, f5, b5⟩ := ALL.out
              generalize wr.heap.size = Bx at b5 ⊢
              clear ALL c0 c1 c2 c3 q1 q2 q3 q4 r3 h0 h1 y1
              generalize (wr.setCell ⟨G, l, none⟩ (.bool true)).alloc (.cells #[.int .i64 x.d, .int .u64 x.s, .int .u32 l, .int .u32 x.p] 36) = W8 at D5 E5 G5 H5 f5 b5 ⊢
              obtain ⟨c0, c1, c2, c3⟩ := b5.cells
              have q1 := D5.cell HY.out.2.2.1
              have q2 := E5.cell HY.out.2.2.2
              obtain ⟨_, y1, _⟩ := H5.sltAt HY.out.1
              rw [HY.out.2.1] at y1
              have h0 := H5.cells.1
              have h1 := H5.cells.2.1
              rw [hNM'.out.1] at h0
              rw [hNM'.out.2] at h1
              go_quiet (fail)
              go_wp2_with fail
              go_quiet (fail)
              go_wp2_with fail
              have hnext : Hid (∀ l' : Nat, (bs.set l true)[l']? = some true → ∃ (j : Nat) (x : Ent), j < m + 1 ∧ S'.ents[j]? = some x ∧ x.l.toNat = l') := by
                intro l' hl'
                rw [List.getElem?_set] at hl'
                by_cases e : l = l'
                · exact ⟨m, x, by omega, HX.out.1, by rw [HX.out.2]; simpa using e⟩
                · rw [if_neg e] at hl'
                  obtain ⟨j, z, hj, hz, e'⟩ := HQ.out l' hl'
                  exact ⟨j, z, by omega, hz, e'⟩
              generalize hW9 : ((W8.drewN _).drewN _) = W9
              obtain ⟨fq, hq9⟩ := drewN_two hW9 F
              have D9 := D5.fr fq
              have E9 := E5.fr fq
              have G9 := G5.fr fq
              have H9 := H5.congr (Nat.le_of_eq (by rw [← hW9]; rfl)) (fun k _ => hq9 k)
              have f9 := f5.trans fq
              have b9 := b5.kept (hq9 Bx)
              clear D5 E5 G5 H5 f5 b5 fq hq9 hW9 c0 c1 c2 c3 q1 q2 y1 h0 h1
              by_cases hm0 : m = 0
              · have hd : decide (0 < m) = false := by simp [hm0]
                clear hm0
                go_quiet (fail)
                go_wp2_with fail
                have D10 := D9.kept (w' := W9.drewN nq) D9.1 rfl
                have E10 := E9.kept (w' := W9.drewN nq) E9.1 rfl
                have G10 := G9.kept (w' := W9.drewN nq) G9.1 rfl
                exact ⟨⟨m + 1, bs.set l true, by go_num, by omega, by simp [hbs], H9.drewN _, f9.drewN _, D10, E10, G10, hnext⟩, by simp [intOf]; omega⟩
              · obtain ⟨z, hz⟩ : ∃ z, S'.ents[(m - 1) / 4]? = some z := ⟨_, List.getElem?_eq_getElem (by rw [hNM'.out.1]; omega)⟩
                have hbf : befB x.d x.s z.d z.s = false := hOP.out.1 m x z (by omega) HX.out.1 hz
                obtain ⟨c0, c1, c2, c3⟩ := b9.cells
                obtain ⟨d0, d1, d2, d3⟩ := H9.entAt hz
                have h0 := H9.cells.1
                rw [hNM'.out.1] at h0
                obtain ⟨q, hq⟩ : ∃ q, q = (m - 1) / 4 := ⟨_, rfl⟩
                rw [← hq] at d0 d1 d2 d3
                have hq' : Hid (q = (m - 1) / 4) := hq
                clear hq hz
                have k1 : (0 : Int) < (m : Int) := by omega
                have k2 : IntKind.i64.wrap ((m : Int) - 1) = (m : Int) - 1 := IntWalk.i64_in _ (by omega)
                have k2' : IntKind.i64.wrap (((m : Int) - 1).tdiv 4) = (q : Int) := by rw [IntWalk.i64_quo _ _ (by omega)]; have := hq'.out; omega
                have k3 : (0 : Int) ≤ (q : Int) := by omega
                have k4 : (q : Int) < (len : Int) := by have := hq'.out; omega
                have k5 : 0 < m := by omega
                go_region_held3 (fun w' => w'.cell? ⟨hb, 0, none⟩ = some (.slice (some ⟨eb', 0, none⟩) len ec') ∧ w'.cell? ⟨Bx, 0, none⟩ = some (.int .i64 x.d) ∧ w'.cell? ⟨Bx, 1, none⟩ = some (.int .u64 x.s) ∧ w'.cell? ⟨Bx, 2, none⟩ = some (.int .u32 l) ∧ w'.cell? ⟨Bx, 3, none⟩ = some (.int .u32 x.p) ∧ w'.cell? ⟨eb', q * 4, none⟩ = some (.int .i64 z.d) ∧ w'.cell? ⟨eb', q * 4 + 1, none⟩ = some (.int .u64 z.s) ∧ w'.cell? ⟨eb', q * 4 + 2, none⟩ = some (.int .u32 z.l) ∧ w'.cell? ⟨eb', q * 4 + 3, none⟩ = some (.int .u32 z.p)) (go_keep)
                  (first | (go_at_call 9; refine (before_any _ _ _ _ _ _ _ _ _).mono ?_; rintro r w' ⟨rfl, rfl⟩))
                go_wp2_with fail
                have fz := ((((Fr.refl W9 F).alloc (.cells #[.int .i64 x.d, .int .u64 x.s, .int .u32 l, .int .u32 x.p] 36)).alloc (.cells #[.int .i64 z.d, .int .u64 z.s, .int .u32 z.l, .int .u32 z.p] 36)).drew)
                exact ⟨⟨m + 1, bs.set l true, by go_num, by omega, by simp [hbs], ((H9.alloc _).alloc _).drew, ((f9.alloc _).alloc _).drew, D9.fr fz, E9.fr fz, G9.fr fz, hnext⟩, by simp [intOf]; omega⟩
            · go_wp2_with fail
              go_ret
              exact ⟨rfl, hfr.below w.heap.size (Nat.le_refl _) (fun k h => h.elim)⟩
end Go.Proofs.Ybulkadzc
