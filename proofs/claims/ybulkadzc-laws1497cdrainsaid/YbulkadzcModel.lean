/-
  THE LAW's OWN MODEL IN MEMORY: five rows and a count.
-/
import Derived.Test.YbulkadzcInv
namespace Go.Proofs.Ybulkadzc
open Go.RowKit

structure Hd where
  s : Int
  g : Int
structure Mdl where
  hs : List Hd
  dl : List Int
  sq : List Int
  vals : List Int
  live : List Bool
  armed : Int

def Hd.cells (h : Hd) : List Value := [.int .u32 h.s, .int .u32 h.g]
def hflat (l : List Hd) : List Value := l.flatMap Hd.cells
theorem hflat_cons (x : Hd) (es : List Hd) : hflat (x :: es) = .int .u32 x.s :: .int .u32 x.g :: hflat es := by simp [hflat, Hd.cells]
theorem hflat_append (a b : List Hd) : hflat (a ++ b) = hflat a ++ hflat b := by simp [hflat]
theorem hflat_get : ∀ (es : List Hd) (i : Nat) (x : Hd), es[i]? = some x → (hflat es)[i * 2]? = some (.int .u32 x.s) ∧ (hflat es)[i * 2 + 1]? = some (.int .u32 x.g)
  | [], i, x, h => by simp at h
  | y :: es, 0, x, h => by simp at h; subst h; rw [hflat_cons]; simp
  | y :: es, i + 1, x, h => by
    have := hflat_get es i x (by simpa using h)
    rw [hflat_cons, show (i + 1) * 2 = i * 2 + 1 + 1 from by omega]
    simpa using this

def mty : Nat → TypeId
  | 0 => 29 | 1 => 2 | 2 => 24 | 3 => 3 | _ => 4
def msz : Nat → Nat
  | 0 => 2 | _ => 1
def Mdl.len (M : Mdl) : Nat → Nat
  | 0 => M.hs.length | 1 => M.dl.length | 2 => M.sq.length | 3 => M.vals.length | _ => M.live.length
def Mdl.row (M : Mdl) : Nat → List Value
  | 0 => hflat M.hs | 1 => M.dl.map (Value.int .i64) | 2 => M.sq.map (Value.int .u64) | 3 => M.vals.map (Value.int .i64) | _ => M.live.map Value.bool

structure MPv (w : World) (F : Nat → Prop) (mb : Nat) (M : Mdl) (v : Nat → Value) : Prop where
  blk : w.heap[mb]? = some (.cells #[v 0, v 1, v 2, v 3, v 4, .int .u64 M.armed] 53 (0, 0))
  row : ∀ j, j < 5 → w.ownsRow 0 (mty j) (msz j) (v j) (M.len j) (M.row j)
  Fm : F mb
  Fv : ∀ j k, j < 5 → (v j).ownBlock = some k → F k ∧ k ≠ mb
  dis : ∀ i j k, i < 5 → j < 5 → i ≠ j → (v i).ownBlock = some k → (v j).ownBlock ≠ some k
  Flt : ∀ k, F k → k < w.heap.size
def MP (w : World) (F : Nat → Prop) (mb : Nat) (M : Mdl) : Prop := ∃ v, MPv w F mb M v

section
variable {w w' w1 : World} {F : Nat → Prop} {mb : Nat} {M : Mdl} {v : Nat → Value}
theorem MPv.congr (H : MPv w F mb M v) (hs : w.heap.size ≤ w'.heap.size) (h : ∀ k, F k → w'.heap[k]? = w.heap[k]?) : MPv w' F mb M v :=
  ⟨by rw [h mb H.Fm]; exact H.blk, fun j hj => ownsRow_congr (H.row j hj) (fun k e => h k (H.Fv j k hj e).1), H.Fm, H.Fv, H.dis, fun k hk => Nat.lt_of_lt_of_le (H.Flt k hk) hs⟩
theorem MPv.ext (H : MPv w F mb M v) (h : Ext w w') : MPv w' F mb M v := H.congr h.size (fun k hk => h.blk (H.Flt k hk))
theorem MP.ext (H : MP w F mb M) (h : Ext w w') : MP w' F mb M := by obtain ⟨v, H⟩ := H; exact ⟨v, H.ext h⟩
theorem MPv.alloc (H : MPv w F mb M v) (o : Obj) : MPv (w.alloc o) F mb M v := H.ext ((Ext.refl w).alloc o)
theorem MPv.drew (H : MPv w F mb M v) : MPv w.drew F mb M v := H.ext ((Ext.refl w).drew)
theorem MPv.setOther (H : MPv w F mb M v) {p : Addr} (hp : ¬ F p.block) (u : Value) : MPv (w.setCell p u) F mb M v :=
  H.congr (by simp [World.setCell]) (fun k hk => Below.heap_setCell _ _ _ _ (fun e => hp (e ▸ hk)))
/-- Behind a call that touches G alone, apart from the model. -/
theorem MPv.fr {G G' : Nat → Prop} (H : MPv w F mb M v) (h : Fr w w' G G') (hd : ∀ k, F k → ¬ G k) : MPv w' F mb M v := H.congr h.size (fun k hk => h.block k (H.Flt k hk) (hd k hk))
theorem MP.fr {G G' : Nat → Prop} (H : MP w F mb M) (h : Fr w w' G G') (hd : ∀ k, F k → ¬ G k) : MP w' F mb M := by obtain ⟨v, H⟩ := H; exact ⟨v, H.fr h hd⟩
theorem HPv.frG {G G' : Nat → Prop} {hb : Nat} {S : HSt} {ev sv pv : Value} (H : HPv w F hb S ev sv pv) (h : Fr w w' G G') (hd : ∀ k, F k → ¬ G k) : HPv w' F hb S ev sv pv := H.congr h.size (fun k hk => h.block k (H.Flt k hk) (hd k hk))
theorem HP.frG {G G' : Nat → Prop} {hb : Nat} {S : HSt} (H : HP w F hb S) (h : Fr w w' G G') (hd : ∀ k, F k → ¬ G k) : HP w' F hb S := by obtain ⟨ev, sv, pv, H⟩ := H; exact ⟨_, _, _, H.frG h hd⟩
theorem MPv.lt (H : MPv w F mb M v) : mb < w.heap.size := lt_of_block H.blk
theorem MPv.cells (H : MPv w F mb M v) :
    w.cell? ⟨mb, 0, none⟩ = some (v 0) ∧ w.cell? ⟨mb, 1, none⟩ = some (v 1) ∧ w.cell? ⟨mb, 2, none⟩ = some (v 2) ∧ w.cell? ⟨mb, 3, none⟩ = some (v 3) ∧ w.cell? ⟨mb, 4, none⟩ = some (v 4) ∧ w.cell? ⟨mb, 5, none⟩ = some (.int .u64 M.armed) := by
  simp [World.cell?, H.blk]
theorem MPv.thaw (H : MPv w F mb M v) (j : Nat) : w.frozen? ⟨mb, j, none⟩ = false := by simp [World.frozen?, H.blk]

theorem MPv.appended (H : MPv w F mb M v) {j g cap : Nat} (hj : j < 5) (M' : Mdl) (news : List Value)
    (own : w1.ownsRow 0 (mty j) (msz j) (.slice (some ⟨g, 0, none⟩) (M.len j + 1) cap) (M.len j + 1) (M.row j ++ news)) (gr : w.grownBy w1 (v j).ownBlock) (hg : (v j).ownBlock = some g ∨ g = w.heap.size) (hlt : g < w1.heap.size)
    (hM : ∀ i, i < 5 → i ≠ j → M'.len i = M.len i ∧ M'.row i = M.row i) (hMj : M'.len j = M.len j + 1 ∧ M'.row j = M.row j ++ news) (ha : M'.armed = M.armed) :
    MPv (w1.setCell ⟨mb, j, none⟩ (.slice (some ⟨g, 0, none⟩) (M.len j + 1) cap)) (fun k => F k ∨ k = g) mb M' (fun i => if i = j then .slice (some ⟨g, 0, none⟩) (M.len j + 1) cap else v i) := by
  have hne : g ≠ mb := by
    rcases hg with hg | hg
    · exact (H.Fv j g hj hg).2
    · have := H.lt; omega
  have hold : ∀ k, F k → k ≠ mb → (v j).ownBlock ≠ some k → (w1.setCell ⟨mb, j, none⟩ (.slice (some ⟨g, 0, none⟩) (M.len j + 1) cap)).heap[k]? = w.heap[k]? := fun k hk h1 h2 => by
    rw [Below.heap_setCell _ _ _ _ h1, gr.block k (H.Flt k hk) (fun e => h2 e.symm)]
  have gE : ∀ k, F k → (v j).ownBlock ≠ some k → k ≠ g := fun k hk h e => by
    subst e
    rcases hg with hg | hg
    · exact h hg
    · have := H.Flt k hk; omega
  refine ⟨?_, ?_, .inl H.Fm, ?_, ?_, ?_⟩
  · have b := H.blk
    rw [← gr.block mb H.lt (fun e => (H.Fv j mb hj e.symm).2 rfl)] at b
    rw [blk_set b, ha]
    have : j = 0 ∨ j = 1 ∨ j = 2 ∨ j = 3 ∨ j = 4 := by omega
    rcases this with rfl | rfl | rfl | rfl | rfl <;> rfl
  · intro i hi
    by_cases c : i = j
    · subst c
      simp only [if_true]
      rw [hMj.1, hMj.2]
      exact ownsRow_setCell_other own (a := ⟨mb, i, none⟩) (by simp [Value.ownBlock, hne]) _
    · simp only [if_neg c]
      rw [(hM i hi c).1, (hM i hi c).2]
      exact ownsRow_congr (H.row i hi) (fun k hk => hold k (H.Fv i k hi hk).1 (H.Fv i k hi hk).2 (H.dis i j k hi hj c hk))
  · intro i k hi hk
    by_cases c : i = j
    · subst c
      simp [Value.ownBlock] at hk
      subst hk
      exact ⟨.inr rfl, hne⟩
    · simp only [if_neg c] at hk
      exact ⟨.inl (H.Fv i k hi hk).1, (H.Fv i k hi hk).2⟩
  · intro i i' k hi hi' hne' hk
    by_cases c : i = j
    · subst c
      simp only [if_true] at hk
      simp [Value.ownBlock] at hk
      subst hk
      simp only [if_neg (Ne.symm hne')]
      intro e
      rcases hg with hg | hg
      · exact H.dis i i' g hi hi' hne' hg e
      · have := H.Flt g (H.Fv i' g hi' e).1; omega
    · simp only [if_neg c] at hk
      by_cases c' : i' = j
      · subst c'
        simp only [if_true]
        intro e
        simp [Value.ownBlock] at e
        exact gE k (H.Fv i k hi hk).1 (H.dis i i' k hi hi' hne' hk) e.symm
      · simp only [if_neg c']
        exact H.dis i i' k hi hi' hne' hk
  · intro k hk
    have := gr.size
    rcases hk with hk | hk
    · have := H.Flt k hk; simp [World.setCell]; omega
    · subst hk; simpa [World.setCell] using hlt

theorem MPv.setArmed (H : MPv w F mb M v) (q : Int) : MPv (w.setCell ⟨mb, 5, none⟩ (.int .u64 q)) F mb { M with armed := q } v := by
  have hold : ∀ k, k ≠ mb → (w.setCell ⟨mb, 5, none⟩ (.int .u64 q)).heap[k]? = w.heap[k]? := fun k h1 => Below.heap_setCell _ _ _ _ h1
  refine ⟨?_, ?_, H.Fm, H.Fv, H.dis, ?_⟩
  · rw [blk_set H.blk]; rfl
  · intro j hj
    have h1 := ownsRow_congr (H.row j hj) (fun k hk => hold k (H.Fv j k hj hk).2)
    have : j = 0 ∨ j = 1 ∨ j = 2 ∨ j = 3 ∨ j = 4 := by omega
    rcases this with rfl | rfl | rfl | rfl | rfl <;> exact h1
  · intro k hk; simpa [World.setCell] using H.Flt k hk

theorem MPv.stored (H : MPv w F mb M v) {j g n cap : Nat} (hj : j < 5) (hv : v j = .slice (some ⟨g, 0, none⟩) n cap) (hn : n = M.len j) (M' : Mdl) (k : Nat) (u : Value)
    (hM : ∀ i, i < 5 → i ≠ j → M'.len i = M.len i ∧ M'.row i = M.row i) (hMj : M'.len j = M.len j ∧ M'.row j = (M.row j).set k u) (ha : M'.armed = M.armed) :
    MPv (w.setCell ⟨g, k, none⟩ u) F mb M' v := by
  have hg := H.Fv j g hj (by rw [hv]; rfl)
  have hold : ∀ i, i ≠ g → (w.setCell ⟨g, k, none⟩ u).heap[i]? = w.heap[i]? := fun i h1 => Below.heap_setCell _ _ _ _ h1
  refine ⟨?_, ?_, H.Fm, H.Fv, H.dis, ?_⟩
  · rw [hold mb (Ne.symm hg.2), ha]; exact H.blk
  · intro i hi
    by_cases c : i = j
    · subst c
      rw [hMj.1, hMj.2]
      have h1 := H.row i hi
      rw [hv, hn] at h1 ⊢
      exact (h1.stored k u).1
    · rw [(hM i hi c).1, (hM i hi c).2]
      exact ownsRow_congr (H.row i hi) (fun b hb => hold b (fun e => H.dis i j b hi hj c hb (by rw [hv, e]; rfl)))
  · intro i hi; simpa [World.setCell] using H.Flt i hi

theorem MPv.shape (H : MPv w F mb M v) (j : Nat) (hj : j < 5) : ∃ a cap, v j = .slice a (M.len j) cap := ownsRow_shape (H.row j hj)
theorem MPv.form (H : MPv w F mb M v) (j : Nat) (hj : j < 5) (h0 : 0 < M.len j) : ∃ g cap, v j = .slice (some ⟨g, 0, none⟩) (M.len j) cap ∧ M.len j ≤ cap ∧ g < w.heap.size ∧ F g ∧ g ≠ mb := by
  obtain ⟨g, cap, h1, h2, h3⟩ := ownsRow_form (H.row j hj) h0
  have := H.Fv j g hj (by rw [h1]; rfl)
  exact ⟨g, cap, h1, h2, h3, this.1, this.2⟩
/-- A cell of a row. -/
theorem MPv.at (H : MPv w F mb M v) {j g cap : Nat} (hj : j < 5) (hv : v j = .slice (some ⟨g, 0, none⟩) (M.len j) cap) {k : Nat} {u : Value} (hu : (M.row j)[k]? = some u) : w.cell? ⟨g, k, none⟩ = some u := by
  have h1 := H.row j hj
  have hk := (List.getElem?_eq_some_iff.1 hu).1
  rw [hv] at h1
  rw [h1.1] at hk
  rw [h1.cellAt k hk]; exact hu
theorem MPv.cold (H : MPv w F mb M v) {j g n cap : Nat} (hj : j < 5) (hv : v j = .slice (some ⟨g, 0, none⟩) n cap) (k : Nat) : w.frozen? ⟨g, k, none⟩ = false := by
  have h1 := H.row j hj
  rw [hv] at h1
  exact frozen_row h1 k
end

def Mdl.push (M : Mdl) (h : Hd) (d v : Int) : Mdl := ⟨M.hs ++ [h], M.dl ++ [d], M.sq ++ [M.armed + 1], M.vals ++ [v], M.live ++ [true], M.armed + 1⟩

theorem Yba.info29 : (Yba.prog.info? 29).map (fun i => (i.zero, i.size, i.bytes)) = some (some (.agg #[.int .u32 0, .int .u32 0]), 2, 8) := by kernel_rfl
theorem Yba.info3 : (Yba.prog.info? 3).map (fun i => (i.zero, i.size, i.bytes)) = some (some (.int .i64 0), 1, 8) := by kernel_rfl
end Go.Proofs.Ybulkadzc
