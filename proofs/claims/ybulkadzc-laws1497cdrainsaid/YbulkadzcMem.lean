/-
  THE HEAP's STATE IN MEMORY: 'HP w F hb S': at block hb lies a Heap whose data are S; F holds every block that it owns. 'Fr w w' F F'': between w and w' nothing outside F has turned.
-/
import Derived.Test.YbulkadzcBefore
namespace Go.Proofs.Ybulkadzc
open Go.RowKit

/-! ### Lists of cells -/
def Ent.cells (e : Ent) : List Value := [.int .i64 e.d, .int .u64 e.s, .int .u32 e.l, .int .u32 e.p]
def Slt.cells (y : Slt) : List Value := [.int .i64 y.v, .int .u32 y.pos, .int .u32 y.gen]
def eflat (es : List Ent) : List Value := es.flatMap Ent.cells
def sflat (ss : List Slt) : List Value := ss.flatMap Slt.cells
def pflat (ps : List Int) : List Value := ps.map (Value.int .i64)

theorem eflat_cons (x : Ent) (es : List Ent) : eflat (x :: es) = .int .i64 x.d :: .int .u64 x.s :: .int .u32 x.l :: .int .u32 x.p :: eflat es := by
  simp [eflat, Ent.cells]
theorem sflat_cons (x : Slt) (es : List Slt) : sflat (x :: es) = .int .i64 x.v :: .int .u32 x.pos :: .int .u32 x.gen :: sflat es := by
  simp [sflat, Slt.cells]
theorem eflat_len (es : List Ent) : (eflat es).length = es.length * 4 := by
  induction es with
  | nil => rfl
  | cons x es ih => rw [eflat_cons]; simp [ih]; omega
theorem sflat_len (es : List Slt) : (sflat es).length = es.length * 3 := by
  induction es with
  | nil => rfl
  | cons x es ih => rw [sflat_cons]; simp [ih]; omega
theorem pflat_len (ps : List Int) : (pflat ps).length = ps.length * 1 := by simp [pflat]
theorem eflat_append (a b : List Ent) : eflat (a ++ b) = eflat a ++ eflat b := by simp [eflat]
theorem sflat_append (a b : List Slt) : sflat (a ++ b) = sflat a ++ sflat b := by simp [sflat]
theorem pflat_append (a b : List Int) : pflat (a ++ b) = pflat a ++ pflat b := by simp [pflat]

theorem eflat_get : ∀ (es : List Ent) (i : Nat) (x : Ent), es[i]? = some x →
    (eflat es)[i * 4]? = some (.int .i64 x.d) ∧ (eflat es)[i * 4 + 1]? = some (.int .u64 x.s) ∧ (eflat es)[i * 4 + 2]? = some (.int .u32 x.l) ∧ (eflat es)[i * 4 + 3]? = some (.int .u32 x.p)
  | [], i, x, h => by simp at h
  | y :: es, 0, x, h => by simp at h; subst h; rw [eflat_cons]; simp
  | y :: es, i + 1, x, h => by
    have := eflat_get es i x (by simpa using h)
    rw [eflat_cons, show (i + 1) * 4 = i * 4 + 1 + 1 + 1 + 1 from by omega]
    simpa using this
theorem sflat_get : ∀ (es : List Slt) (i : Nat) (x : Slt), es[i]? = some x →
    (sflat es)[i * 3]? = some (.int .i64 x.v) ∧ (sflat es)[i * 3 + 1]? = some (.int .u32 x.pos) ∧ (sflat es)[i * 3 + 2]? = some (.int .u32 x.gen)
  | [], i, x, h => by simp at h
  | y :: es, 0, x, h => by simp at h; subst h; rw [sflat_cons]; simp
  | y :: es, i + 1, x, h => by
    have := sflat_get es i x (by simpa using h)
    rw [sflat_cons, show (i + 1) * 3 = i * 3 + 1 + 1 + 1 from by omega]
    simpa using this
theorem eflat_set : ∀ (es : List Ent) (i : Nat) (e : Ent),
    ((((eflat es).set (i * 4) (.int .i64 e.d)).set (i * 4 + 1) (.int .u64 e.s)).set (i * 4 + 2) (.int .u32 e.l)).set (i * 4 + 3) (.int .u32 e.p) = eflat (es.set i e)
  | [], i, e => by simp [eflat]
  | y :: es, 0, e => by rw [eflat_cons]; simp [eflat_cons]
  | y :: es, i + 1, e => by
    have := eflat_set es i e
    rw [eflat_cons, show (i + 1) * 4 = i * 4 + 1 + 1 + 1 + 1 from by omega]
    simp only [List.set_cons_succ]
    rw [this, ← eflat_cons]
theorem sflat_set : ∀ (es : List Slt) (i : Nat) (f : Slt → Slt) (x : Slt), es[i]? = some x →
    (((sflat es).set (i * 3) (.int .i64 (f x).v)).set (i * 3 + 1) (.int .u32 (f x).pos)).set (i * 3 + 2) (.int .u32 (f x).gen) = sflat (es.modify i f)
  | [], i, f, x, h => by simp at h
  | y :: es, 0, f, x, h => by simp at h; subst h; rw [sflat_cons]; simp [sflat_cons]
  | y :: es, i + 1, f, x, h => by
    have := sflat_set es i f x (by simpa using h)
    rw [sflat_cons, show (i + 1) * 3 = i * 3 + 1 + 1 + 1 from by omega]
    simp only [List.set_cons_succ, List.modify_succ_cons]
    rw [this, ← sflat_cons]
theorem set_same {α : Type} (l : List α) (k : Nat) (v : α) (h : l[k]? = some v) : l.set k v = l := by
  apply List.ext_getElem?
  intro j
  rw [List.getElem?_set]
  split
  · rename_i e; subst e; rw [h]; simp [(List.getElem?_eq_some_iff.1 h).1]
  · rfl
theorem sflat_setPos (es : List Slt) (i : Nat) (q : Int) (x : Slt) (h : es[i]? = some x) : (sflat es).set (i * 3 + 1) (.int .u32 q) = sflat (setPos es i q) := by
  have := sflat_set es i (fun x => { x with pos := q }) x h
  obtain ⟨h1, h2, h3⟩ := sflat_get es i x h
  unfold setPos
  rw [← this]
  simp only
  rw [set_same _ _ _ h1, set_same _ (i * 3 + 2) _ (by rw [List.getElem?_set]; simp [h3])]
theorem sflat_setV (es : List Slt) (i : Nat) (q : Int) (x : Slt) (h : es[i]? = some x) : (sflat es).set (i * 3) (.int .i64 q) = sflat (es.modify i fun x => { x with v := q }) := by
  have := sflat_set es i (fun x => { x with v := q }) x h
  obtain ⟨h1, h2, h3⟩ := sflat_get es i x h
  rw [← this]
  simp only
  rw [set_same _ (i * 3 + 1) _ (by rw [List.getElem?_set]; simp [h2]), set_same _ (i * 3 + 2) _ (by rw [List.getElem?_set]; simp [h3])]

/-! ### Owned rows -/
theorem ownsRow_congr {w w' : World} {base : Nat} {e : TypeId} {size : Nat} {v : Value} {n : Nat} {xs : List Value} (h : w.ownsRow base e size v n xs) (hb : ∀ k, v.ownBlock = some k → w'.heap[k]? = w.heap[k]?) : w'.ownsRow base e size v n xs := by
  obtain ⟨h1, h2⟩ := h
  refine ⟨h1, ?_⟩
  rcases h2 with h2 | ⟨g, cap, cur, hv, hg, hh, r⟩
  · exact .inl h2
  · subst hv
    exact .inr ⟨g, cap, cur, rfl, hg, by rw [hb g rfl]; exact hh, r⟩
theorem ownsRow_form {w : World} {base : Nat} {e : TypeId} {size : Nat} {v : Value} {n : Nat} {xs : List Value} (h : w.ownsRow base e size v n xs) (hn : 0 < n) :
    ∃ g cap, v = .slice (some ⟨g, 0, none⟩) n cap ∧ n ≤ cap ∧ g < w.heap.size := by
  rcases h.2 with ⟨_, h2⟩ | ⟨g, cap, cur, hv, hg, hh, hc, _⟩
  · omega
  · exact ⟨g, cap, hv, hc, lt_of_block hh⟩

/-! ### The frame -/
structure Fr (w w' : World) (F F' : Nat → Prop) : Prop where
  os : w'.os = w.os
  tape : w'.tape = w.tape
  output : w'.output = w.output
  size : w.heap.size ≤ w'.heap.size
  block : ∀ k, k < w.heap.size → ¬ F k → w'.heap[k]? = w.heap[k]?
  foot : ∀ k, k < w.heap.size → F' k → F k
theorem Fr.refl (w : World) (F : Nat → Prop) : Fr w w F F := ⟨rfl, rfl, rfl, Nat.le_refl _, fun _ _ _ => rfl, fun _ _ h => h⟩
theorem Fr.trans {a b c : World} {F G H : Nat → Prop} (h : Fr a b F G) (k : Fr b c G H) : Fr a c F H :=
  ⟨k.os.trans h.os, k.tape.trans h.tape, k.output.trans h.output, Nat.le_trans h.size k.size,
   fun i hi hn => (k.block i (Nat.lt_of_lt_of_le hi h.size) (fun g => hn (h.foot i hi g))).trans (h.block i hi hn),
   fun i hi hh => h.foot i hi (k.foot i (Nat.lt_of_lt_of_le hi h.size) hh)⟩
theorem Fr.drew {a w : World} {F G : Nat → Prop} (h : Fr a w F G) : Fr a w.drew F G := ⟨h.os, h.tape, h.output, h.size, h.block, h.foot⟩
theorem Fr.alloc {a w : World} {F G : Nat → Prop} (h : Fr a w F G) (o : Obj) : Fr a (w.alloc o) F G :=
  h.trans ⟨rfl, rfl, rfl, by simp, fun k hk _ => Below.heap_alloc _ _ _ hk, fun _ _ h => h⟩
theorem Fr.setCell {a w : World} {F G : Nat → Prop} (h : Fr a w F G) {p : Addr} (hp : G p.block) (u : Value) : Fr a (w.setCell p u) F G :=
  h.trans ⟨rfl, rfl, rfl, by simp [World.setCell], fun k _ hn => Below.heap_setCell _ _ _ _ (fun e => hn (e ▸ hp)), fun _ _ h => h⟩
/-- A store into a block that is new since a. -/
theorem Fr.setNew {a w : World} {F G : Nat → Prop} (h : Fr a w F G) {p : Addr} (hp : a.heap.size ≤ p.block) (u : Value) : Fr a (w.setCell p u) F G :=
  ⟨h.os, h.tape, h.output, Nat.le_trans h.size (by simp [World.setCell]), fun k hk hn => by rw [Below.heap_setCell _ _ _ _ (by omega)]; exact h.block k hk hn, h.foot⟩
theorem Fr.below {w w' : World} {F F' : Nat → Prop} (h : Fr w w' F F') (B : Nat) (hB : B ≤ w.heap.size) (hF : ∀ k, F k → B ≤ k) : Below B w w' :=
  ⟨h.os, h.tape, h.output, h.size, fun k hk => h.block k (by omega) (fun f => by have := hF k f; omega)⟩
theorem Fr.cell {w w' : World} {F F' : Nat → Prop} (h : Fr w w' F F') {p : Addr} (hp : p.block < w.heap.size) (hn : ¬ F p.block) : w'.cell? p = w.cell? p := World.cell?_of_block (h.block _ hp hn)
theorem Fr.frozen {w w' : World} {F F' : Nat → Prop} (h : Fr w w' F F') {p : Addr} (hp : p.block < w.heap.size) (hn : ¬ F p.block) : w'.frozen? p = w.frozen? p := World.frozen?_of_block (h.block _ hp hn)
/-- A smaller footprint was touched than allowed. -/
theorem Fr.widen {w w' : World} {F F' G G' : Nat → Prop} (h : Fr w w' F F') (h1 : ∀ k, k < w.heap.size → F k → G k) (h2 : ∀ k, k < w.heap.size → G' k → G k) : Fr w w' G G' :=
  ⟨h.os, h.tape, h.output, h.size, fun k hk hn => h.block k hk (fun f => hn (h1 k hk f)), h2⟩

/-! ### The heap in memory -/
structure HPv (w : World) (F : Nat → Prop) (hb : Nat) (S : HSt) (ev sv pv : Value) : Prop where
  blk : w.heap[hb]? = some (.cells #[ev, sv, .int .u32 S.free, .int .u64 S.armed, pv, .int .u32 S.fp] 34 (0, 0))
  ents : w.ownsRow 0 36 4 ev S.ents.length (eflat S.ents)
  slots : w.ownsRow 0 41 3 sv S.slots.length (sflat S.slots)
  pers : w.ownsRow 0 2 1 pv S.pers.length (pflat S.pers)
  Fh : F hb
  Fe : ∀ k, ev.ownBlock = some k → F k ∧ k ≠ hb
  Fs : ∀ k, sv.ownBlock = some k → F k ∧ k ≠ hb ∧ ev.ownBlock ≠ some k
  Fp : ∀ k, pv.ownBlock = some k → F k ∧ k ≠ hb ∧ ev.ownBlock ≠ some k ∧ sv.ownBlock ≠ some k
  Flt : ∀ k, F k → k < w.heap.size
def HP (w : World) (F : Nat → Prop) (hb : Nat) (S : HSt) : Prop := ∃ ev sv pv, HPv w F hb S ev sv pv

section
variable {w w' : World} {F : Nat → Prop} {hb : Nat} {S : HSt} {ev sv pv : Value}

theorem HPv.congr (H : HPv w F hb S ev sv pv) (hs : w.heap.size ≤ w'.heap.size) (h : ∀ k, F k → w'.heap[k]? = w.heap[k]?) : HPv w' F hb S ev sv pv :=
  ⟨by rw [h hb H.Fh]; exact H.blk, ownsRow_congr H.ents (fun k e => h k (H.Fe k e).1), ownsRow_congr H.slots (fun k e => h k (H.Fs k e).1), ownsRow_congr H.pers (fun k e => h k (H.Fp k e).1),
   H.Fh, H.Fe, H.Fs, H.Fp, fun k hk => Nat.lt_of_lt_of_le (H.Flt k hk) hs⟩
theorem HPv.drew (H : HPv w F hb S ev sv pv) : HPv w.drew F hb S ev sv pv := H.congr (Nat.le_refl _) (fun _ _ => rfl)
theorem HPv.alloc (H : HPv w F hb S ev sv pv) (o : Obj) : HPv (w.alloc o) F hb S ev sv pv := H.congr (by simp) (fun k hk => Below.heap_alloc _ _ _ (H.Flt k hk))
theorem HPv.setOther (H : HPv w F hb S ev sv pv) {p : Addr} (hp : ¬ F p.block) (u : Value) : HPv (w.setCell p u) F hb S ev sv pv :=
  H.congr (by simp [World.setCell]) (fun k hk => Below.heap_setCell _ _ _ _ (fun e => hp (e ▸ hk)))

theorem HPv.cells (H : HPv w F hb S ev sv pv) :
    w.cell? ⟨hb, 0, none⟩ = some ev ∧ w.cell? ⟨hb, 1, none⟩ = some sv ∧ w.cell? ⟨hb, 2, none⟩ = some (.int .u32 S.free) ∧ w.cell? ⟨hb, 3, none⟩ = some (.int .u64 S.armed) ∧ w.cell? ⟨hb, 4, none⟩ = some pv ∧ w.cell? ⟨hb, 5, none⟩ = some (.int .u32 S.fp) := by
  simp [World.cell?, H.blk]
theorem HPv.thaw (H : HPv w F hb S ev sv pv) (j : Nat) : w.frozen? ⟨hb, j, none⟩ = false := by
  simp [World.frozen?, H.blk]
theorem HPv.lt (H : HPv w F hb S ev sv pv) : hb < w.heap.size := lt_of_block H.blk

theorem HPv.entAt {eb n cap : Nat} (H : HPv w F hb S (.slice (some ⟨eb, 0, none⟩) n cap) sv pv) {i : Nat} {x : Ent} (hx : S.ents[i]? = some x) :
    w.cell? ⟨eb, i * 4, none⟩ = some (.int .i64 x.d) ∧ w.cell? ⟨eb, i * 4 + 1, none⟩ = some (.int .u64 x.s) ∧ w.cell? ⟨eb, i * 4 + 2, none⟩ = some (.int .u32 x.l) ∧ w.cell? ⟨eb, i * 4 + 3, none⟩ = some (.int .u32 x.p) := by
  have hi := (List.getElem?_eq_some_iff.1 hx).1
  have e := H.ents
  have hn : n = S.ents.length := by
    obtain ⟨g, c, h, _⟩ := ownsRow_form e (by omega)
    simp at h; exact h.2.1
  subst hn
  obtain ⟨a, b, c, d⟩ := eflat_get S.ents i x hx
  exact ⟨by rw [e.cellAt _ (by omega)]; exact a, by rw [e.cellAt _ (by omega)]; exact b, by rw [e.cellAt _ (by omega)]; exact c, by rw [e.cellAt _ (by omega)]; exact d⟩
theorem HPv.sltAt {sb n cap : Nat} (H : HPv w F hb S ev (.slice (some ⟨sb, 0, none⟩) n cap) pv) {i : Nat} {x : Slt} (hx : S.slots[i]? = some x) :
    w.cell? ⟨sb, i * 3, none⟩ = some (.int .i64 x.v) ∧ w.cell? ⟨sb, i * 3 + 1, none⟩ = some (.int .u32 x.pos) ∧ w.cell? ⟨sb, i * 3 + 2, none⟩ = some (.int .u32 x.gen) := by
  have hi := (List.getElem?_eq_some_iff.1 hx).1
  have e := H.slots
  have hn : n = S.slots.length := by
    obtain ⟨g, c, h, _⟩ := ownsRow_form e (by omega)
    simp at h; exact h.2.1
  subst hn
  obtain ⟨a, b, c⟩ := sflat_get S.slots i x hx
  exact ⟨by rw [e.cellAt _ (by omega)]; exact a, by rw [e.cellAt _ (by omega)]; exact b, by rw [e.cellAt _ (by omega)]; exact c⟩
theorem frozen_row {w : World} {base : Nat} {e : TypeId} {size g n m cap : Nat} {xs : List Value} (h : w.ownsRow base e size (.slice (some ⟨g, 0, none⟩) n cap) m xs) (j : Nat) : w.frozen? ⟨g, j, none⟩ = false := by
  rcases h.2 with ⟨h', _⟩ | ⟨g', cap', cur, h', _, hg, _⟩
  · simp at h'
  · simp only [Value.slice.injEq, Option.some.injEq, Addr.mk.injEq, and_true] at h'
    obtain ⟨rfl, _⟩ := h'
    exact frozen_of_row w g j cur e hg
end

section
variable {w w' : World} {F : Nat → Prop} {hb : Nat} {S : HSt} {pv : Value}
/-- 'place' in memory: five stores. -/
theorem HPv.placed {eb sb ec sc : Nat} (H : HPv w F hb S (.slice (some ⟨eb, 0, none⟩) S.ents.length ec) (.slice (some ⟨sb, 0, none⟩) S.slots.length sc) pv) (i l : Nat) (d s p : Int) (hl : l < S.slots.length) :
    HPv (((((w.setCell ⟨eb, i * 4, none⟩ (.int .i64 d)).setCell ⟨eb, i * 4 + 1, none⟩ (.int .u64 s)).setCell ⟨eb, i * 4 + 2, none⟩ (.int .u32 l)).setCell ⟨eb, i * 4 + 3, none⟩ (.int .u32 p)).setCell ⟨sb, l * 3 + 1, none⟩ (.int .u32 i))
      F hb (S.place i ⟨d, s, l, p⟩) (.slice (some ⟨eb, 0, none⟩) S.ents.length ec) (.slice (some ⟨sb, 0, none⟩) S.slots.length sc) pv := by
  have he := (H.Fe eb rfl)
  have hs := (H.Fs sb rfl)
  have ne : eb ≠ sb := fun e => hs.2.2 (by simp [Value.ownBlock, e])
  have hx : S.slots[l]? = some S.slots[l] := List.getElem?_eq_getElem hl
  refine ⟨?_, ?_, ?_, ?_, H.Fh, H.Fe, H.Fs, H.Fp, ?_⟩
  · have n1 : hb ≠ eb := Ne.symm he.2
    have n2 : hb ≠ sb := Ne.symm hs.2.1
    rw [Below.heap_setCell _ _ _ _ n2, Below.heap_setCell _ _ _ _ n1, Below.heap_setCell _ _ _ _ n1, Below.heap_setCell _ _ _ _ n1, Below.heap_setCell _ _ _ _ n1]
    exact H.blk
  · have := ((((H.ents.stored (i * 4) (.int .i64 d)).1.stored (i * 4 + 1) (.int .u64 s)).1.stored (i * 4 + 2) (.int .u32 l)).1.stored (i * 4 + 3) (.int .u32 p)).1
    rw [eflat_set S.ents i ⟨d, s, l, p⟩] at this
    have := ownsRow_setCell_other this (a := ⟨sb, l * 3 + 1, none⟩) (by simp [Value.ownBlock, ne]) (.int .u32 i)
    simpa [HSt.place] using this
  · have h0 := ownsRow_setCell_other H.slots (a := ⟨eb, i * 4, none⟩) (by simp [Value.ownBlock, Ne.symm ne]) (.int .i64 d)
    have h1 := ownsRow_setCell_other h0 (a := ⟨eb, i * 4 + 1, none⟩) (by simp [Value.ownBlock, Ne.symm ne]) (.int .u64 s)
    have h2 := ownsRow_setCell_other h1 (a := ⟨eb, i * 4 + 2, none⟩) (by simp [Value.ownBlock, Ne.symm ne]) (.int .u32 l)
    have h3 := ownsRow_setCell_other h2 (a := ⟨eb, i * 4 + 3, none⟩) (by simp [Value.ownBlock, Ne.symm ne]) (.int .u32 p)
    have h4 := (h3.stored (l * 3 + 1) (.int .u32 i)).1
    rw [sflat_setPos S.slots l i _ hx] at h4
    simpa [HSt.place, setPos_len] using h4
  · refine ownsRow_congr H.pers (fun k hk => ?_)
    obtain ⟨_, _, q1, q2⟩ := H.Fp k hk
    have n1 : k ≠ eb := fun e => q1 (by simp [Value.ownBlock, e])
    have n2 : k ≠ sb := fun e => q2 (by simp [Value.ownBlock, e])
    rw [Below.heap_setCell _ _ _ _ n2, Below.heap_setCell _ _ _ _ n1, Below.heap_setCell _ _ _ _ n1, Below.heap_setCell _ _ _ _ n1, Below.heap_setCell _ _ _ _ n1]
  · intro k hk
    simpa [World.setCell] using H.Flt k hk
end
end Go.Proofs.Ybulkadzc
