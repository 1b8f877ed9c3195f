/-
  THE HEAP IN MEMORY, MORE: a row that is appended to; a field of the heap that is written.
-/
import Derived.Test.YbulkadzcFix
import Derived.Deep.AppendLies
namespace Go.Proofs.Ybulkadzc
open Go.RowKit

section
variable {w w1 : World} {F : Nat → Prop} {hb : Nat} {S : HSt} {ev sv pv : Value}

/-- What an append leaves of the frame, with a store into the heap's own block behind it. -/
theorem Fr.appended (hF : F hb) {row : Option Nat} (hr : ∀ k, row = some k → F k) (gr : w.grownBy w1 row) {g : Nat} (hg : row = some g ∨ g = w.heap.size) (j : Nat) (v : Value) :
    Fr w (w1.setCell ⟨hb, j, none⟩ v) F (fun k => F k ∨ k = g) := by
  refine ⟨gr.os, gr.tape, gr.output, by simpa [World.setCell] using gr.size, ?_, ?_⟩
  · intro k hk hn
    rw [Below.heap_setCell _ _ _ _ (fun e => hn (by subst e; exact hF)), gr.block k hk (fun e => hn (hr k e.symm))]
  · intro k hk h
    rcases h with h | h
    · exact h
    · subst h
      rcases hg with hg | hg
      · exact hr k hg
      · omega

theorem blk_set {c : Array Value} {t : TypeId} (h : w.heap[hb]? = some (.cells c t (0, 0))) (j : Nat) (v : Value) : (w.setCell ⟨hb, j, none⟩ v).heap[hb]? = some (.cells (c.setIfInBounds j v) t (0, 0)) :=
  heap_setCell_same w hb j c t v h

theorem HPv.slotsAppended (H : HPv w F hb S ev sv pv) {g cap : Nat} (y : Slt)
    (own : w1.ownsRow 0 41 3 (.slice (some ⟨g, 0, none⟩) (S.slots.length + 1) cap) (S.slots.length + 1) (sflat S.slots ++ y.cells)) (gr : w.grownBy w1 sv.ownBlock) (hg : sv.ownBlock = some g ∨ g = w.heap.size) (hlt : g < w1.heap.size) :
    HPv (w1.setCell ⟨hb, 1, none⟩ (.slice (some ⟨g, 0, none⟩) (S.slots.length + 1) cap)) (fun k => F k ∨ k = g) hb { S with slots := S.slots ++ [y] } ev (.slice (some ⟨g, 0, none⟩) (S.slots.length + 1) cap) pv := by
  have hne : g ≠ hb := by
    rcases hg with hg | hg
    · exact (H.Fs g hg).2.1
    · have := H.lt; omega
  have hold : ∀ k, F k → k ≠ hb → sv.ownBlock ≠ some k → (w1.setCell ⟨hb, 1, none⟩ (.slice (some ⟨g, 0, none⟩) (S.slots.length + 1) cap)).heap[k]? = w.heap[k]? := fun k hk h1 h2 => by
    rw [Below.heap_setCell _ _ _ _ h1, gr.block k (H.Flt k hk) (fun e => h2 e.symm)]
  have gE : ∀ k, F k → sv.ownBlock ≠ some k → k ≠ g := fun k hk h e => by
    subst e
    rcases hg with hg | hg
    · exact h hg
    · have := H.Flt k hk; omega
  refine ⟨?_, ?_, ?_, ?_, .inl H.Fh, ?_, ?_, ?_, ?_⟩
  · have b := H.blk
    rw [← gr.block hb H.lt (fun e => (H.Fs hb e.symm).2.1 rfl)] at b
    rw [blk_set b]; rfl
  · exact ownsRow_congr H.ents (fun k hk => hold k (H.Fe k hk).1 (H.Fe k hk).2 (fun e => (H.Fs k e).2.2 hk))
  · have := ownsRow_setCell_other own (a := ⟨hb, 1, none⟩) (by simp [Value.ownBlock, hne]) (.slice (some ⟨g, 0, none⟩) (S.slots.length + 1) cap)
    simpa [sflat_append, sflat, Slt.cells] using this
  · exact ownsRow_congr H.pers (fun k hk => hold k (H.Fp k hk).1 (H.Fp k hk).2.1 (H.Fp k hk).2.2.2)
  · intro k hk; exact ⟨.inl (H.Fe k hk).1, (H.Fe k hk).2⟩
  · intro k hk
    simp [Value.ownBlock] at hk
    subst hk
    refine ⟨.inr rfl, hne, fun e => ?_⟩
    rcases hg with hg | hg
    · exact (H.Fs g hg).2.2 e
    · have := H.Flt g (H.Fe g e).1; omega
  · intro k hk
    obtain ⟨p1, p2, p3, p4⟩ := H.Fp k hk
    refine ⟨.inl p1, p2, p3, fun e => ?_⟩
    simp [Value.ownBlock] at e
    exact gE k p1 p4 e.symm
  · intro k hk
    have := gr.size
    rcases hk with hk | hk
    · have := H.Flt k hk; simp [World.setCell]; omega
    · subst hk; simpa [World.setCell] using hlt

theorem HPv.entsAppended (H : HPv w F hb S ev sv pv) {g cap : Nat} (y : Ent)
    (own : w1.ownsRow 0 36 4 (.slice (some ⟨g, 0, none⟩) (S.ents.length + 1) cap) (S.ents.length + 1) (eflat S.ents ++ y.cells)) (gr : w.grownBy w1 ev.ownBlock) (hg : ev.ownBlock = some g ∨ g = w.heap.size) (hlt : g < w1.heap.size) :
    HPv (w1.setCell ⟨hb, 0, none⟩ (.slice (some ⟨g, 0, none⟩) (S.ents.length + 1) cap)) (fun k => F k ∨ k = g) hb { S with ents := S.ents ++ [y] } (.slice (some ⟨g, 0, none⟩) (S.ents.length + 1) cap) sv pv := by
  have hne : g ≠ hb := by
    rcases hg with hg | hg
    · exact (H.Fe g hg).2
    · have := H.lt; omega
  have hold : ∀ k, F k → k ≠ hb → ev.ownBlock ≠ some k → (w1.setCell ⟨hb, 0, none⟩ (.slice (some ⟨g, 0, none⟩) (S.ents.length + 1) cap)).heap[k]? = w.heap[k]? := fun k hk h1 h2 => by
    rw [Below.heap_setCell _ _ _ _ h1, gr.block k (H.Flt k hk) (fun e => h2 e.symm)]
  have gE : ∀ k, F k → ev.ownBlock ≠ some k → k ≠ g := fun k hk h e => by
    subst e
    rcases hg with hg | hg
    · exact h hg
    · have := H.Flt k hk; omega
  refine ⟨?_, ?_, ?_, ?_, .inl H.Fh, ?_, ?_, ?_, ?_⟩
  · have b := H.blk
    rw [← gr.block hb H.lt (fun e => (H.Fe hb e.symm).2 rfl)] at b
    rw [blk_set b]; rfl
  · have := ownsRow_setCell_other own (a := ⟨hb, 0, none⟩) (by simp [Value.ownBlock, hne]) (.slice (some ⟨g, 0, none⟩) (S.ents.length + 1) cap)
    simpa [eflat_append, eflat, Ent.cells] using this
  · exact ownsRow_congr H.slots (fun k hk => hold k (H.Fs k hk).1 (H.Fs k hk).2.1 (H.Fs k hk).2.2)
  · exact ownsRow_congr H.pers (fun k hk => hold k (H.Fp k hk).1 (H.Fp k hk).2.1 (H.Fp k hk).2.2.1)
  · intro k hk
    simp [Value.ownBlock] at hk
    subst hk
    exact ⟨.inr rfl, hne⟩
  · intro k hk
    obtain ⟨p1, p2, p3⟩ := H.Fs k hk
    refine ⟨.inl p1, p2, fun e => ?_⟩
    simp [Value.ownBlock] at e
    exact gE k p1 p3 e.symm
  · intro k hk
    obtain ⟨p1, p2, p3, p4⟩ := H.Fp k hk
    refine ⟨.inl p1, p2, fun e => ?_, p4⟩
    simp [Value.ownBlock] at e
    exact gE k p1 p3 e.symm
  · intro k hk
    have := gr.size
    rcases hk with hk | hk
    · have := H.Flt k hk; simp [World.setCell]; omega
    · subst hk; simpa [World.setCell] using hlt

theorem HPv.persAppended (H : HPv w F hb S ev sv pv) {g cap : Nat} (y : Int)
    (own : w1.ownsRow 0 2 1 (.slice (some ⟨g, 0, none⟩) (S.pers.length + 1) cap) (S.pers.length + 1) (pflat S.pers ++ [.int .i64 y])) (gr : w.grownBy w1 pv.ownBlock) (hg : pv.ownBlock = some g ∨ g = w.heap.size) (hlt : g < w1.heap.size) :
    HPv (w1.setCell ⟨hb, 4, none⟩ (.slice (some ⟨g, 0, none⟩) (S.pers.length + 1) cap)) (fun k => F k ∨ k = g) hb { S with pers := S.pers ++ [y] } ev sv (.slice (some ⟨g, 0, none⟩) (S.pers.length + 1) cap) := by
  have hne : g ≠ hb := by
    rcases hg with hg | hg
    · exact (H.Fp g hg).2.1
    · have := H.lt; omega
  have hold : ∀ k, F k → k ≠ hb → pv.ownBlock ≠ some k → (w1.setCell ⟨hb, 4, none⟩ (.slice (some ⟨g, 0, none⟩) (S.pers.length + 1) cap)).heap[k]? = w.heap[k]? := fun k hk h1 h2 => by
    rw [Below.heap_setCell _ _ _ _ h1, gr.block k (H.Flt k hk) (fun e => h2 e.symm)]
  refine ⟨?_, ?_, ?_, ?_, .inl H.Fh, ?_, ?_, ?_, ?_⟩
  · have b := H.blk
    rw [← gr.block hb H.lt (fun e => (H.Fp hb e.symm).2.1 rfl)] at b
    rw [blk_set b]; rfl
  · exact ownsRow_congr H.ents (fun k hk => hold k (H.Fe k hk).1 (H.Fe k hk).2 (fun e => (H.Fp k e).2.2.1 hk))
  · exact ownsRow_congr H.slots (fun k hk => hold k (H.Fs k hk).1 (H.Fs k hk).2.1 (fun e => (H.Fp k e).2.2.2 hk))
  · have := ownsRow_setCell_other own (a := ⟨hb, 4, none⟩) (by simp [Value.ownBlock, hne]) (.slice (some ⟨g, 0, none⟩) (S.pers.length + 1) cap)
    simpa [pflat_append, pflat] using this
  · intro k hk; exact ⟨.inl (H.Fe k hk).1, (H.Fe k hk).2⟩
  · intro k hk; exact ⟨.inl (H.Fs k hk).1, (H.Fs k hk).2⟩
  · intro k hk
    simp [Value.ownBlock] at hk
    subst hk
    refine ⟨.inr rfl, hne, fun e => ?_, fun e => ?_⟩
    · rcases hg with hg | hg
      · exact (H.Fp g hg).2.2.1 e
      · have := H.Flt g (H.Fe g e).1; omega
    · rcases hg with hg | hg
      · exact (H.Fp g hg).2.2.2 e
      · have := H.Flt g (H.Fs g e).1; omega
  · intro k hk
    have := gr.size
    rcases hk with hk | hk
    · have := H.Flt k hk; simp [World.setCell]; omega
    · subst hk; simpa [World.setCell] using hlt

/-- The heap's own cells, written. -/
theorem HPv.setHead (H : HPv w F hb S ev sv pv) (j : Nat) (v : Value) (S' : HSt) (he : S'.ents = S.ents) (hs : S'.slots = S.slots) (hp : S'.pers = S.pers)
    (hc : (#[ev, sv, .int .u32 S.free, .int .u64 S.armed, pv, .int .u32 S.fp] : Array Value).setIfInBounds j v = #[ev, sv, .int .u32 S'.free, .int .u64 S'.armed, pv, .int .u32 S'.fp]) :
    HPv (w.setCell ⟨hb, j, none⟩ v) F hb S' ev sv pv := by
  have hold : ∀ k, k ≠ hb → (w.setCell ⟨hb, j, none⟩ v).heap[k]? = w.heap[k]? := fun k h1 => Below.heap_setCell _ _ _ _ h1
  refine ⟨?_, ?_, ?_, ?_, H.Fh, H.Fe, H.Fs, H.Fp, ?_⟩
  · rw [blk_set H.blk, hc]
  · rw [he]; exact ownsRow_congr H.ents (fun k hk => hold k (H.Fe k hk).2)
  · rw [hs]; exact ownsRow_congr H.slots (fun k hk => hold k (H.Fs k hk).2.1)
  · rw [hp]; exact ownsRow_congr H.pers (fun k hk => hold k (H.Fp k hk).2.1)
  · intro k hk; simpa [World.setCell] using H.Flt k hk
theorem HPv.setFree (H : HPv w F hb S ev sv pv) (q : Int) : HPv (w.setCell ⟨hb, 2, none⟩ (.int .u32 q)) F hb { S with free := q } ev sv pv := H.setHead 2 _ _ rfl rfl rfl rfl
theorem HPv.setArmed (H : HPv w F hb S ev sv pv) (q : Int) : HPv (w.setCell ⟨hb, 3, none⟩ (.int .u64 q)) F hb { S with armed := q } ev sv pv := H.setHead 3 _ _ rfl rfl rfl rfl
theorem HPv.setFp (H : HPv w F hb S ev sv pv) (q : Int) : HPv (w.setCell ⟨hb, 5, none⟩ (.int .u32 q)) F hb { S with fp := q } ev sv pv := H.setHead 5 _ _ rfl rfl rfl rfl
end

section
variable {w : World} {F : Nat → Prop} {hb : Nat} {S : HSt} {ev pv : Value}
/-- A store into a cell of a slot. -/
theorem HPv.setSlot {sb n sc : Nat} (H : HPv w F hb S ev (.slice (some ⟨sb, 0, none⟩) n sc) pv) (j : Nat) (v : Value) (ss : List Slt) (hl : ss.length = S.slots.length) (hv : (sflat S.slots).set j v = sflat ss) (h0 : 0 < S.slots.length) :
    HPv (w.setCell ⟨sb, j, none⟩ v) F hb { S with slots := ss } ev (.slice (some ⟨sb, 0, none⟩) n sc) pv := by
  have hs := H.Fs sb rfl
  have hn : n = S.slots.length := by
    obtain ⟨g, c, h, _⟩ := ownsRow_form H.slots h0
    simp at h; exact h.2.1
  subst hn
  have hold : ∀ k, k ≠ sb → (w.setCell ⟨sb, j, none⟩ v).heap[k]? = w.heap[k]? := fun k h1 => Below.heap_setCell _ _ _ _ h1
  refine ⟨?_, ?_, ?_, ?_, H.Fh, H.Fe, H.Fs, H.Fp, ?_⟩
  · rw [hold hb (Ne.symm hs.2.1)]; exact H.blk
  · exact ownsRow_congr H.ents (fun k hk => hold k (fun e => hs.2.2 (e ▸ hk)))
  · have := (H.slots.stored j v).1
    rw [hv] at this
    simpa [hl] using this
  · exact ownsRow_congr H.pers (fun k hk => hold k (fun e => (H.Fp k hk).2.2.2 (by simp [Value.ownBlock, e])))
  · intro k hk; simpa [World.setCell] using H.Flt k hk
end
end Go.Proofs.Ybulkadzc
