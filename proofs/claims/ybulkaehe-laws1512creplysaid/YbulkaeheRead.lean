/-
  onReadReply.
-/
import Derived.Test.YbulkaeheReply
import Derived.Deep.AppendLies
import Derived.Deep.RegionLaw
namespace Go.Proofs.Ybulkaehe
open Go.RowKit Go.MapKept

theorem Yba.info82 : (Yba.prog.info? 82).map (fun i => (i.zero, i.size, i.bytes)) = some (some (.agg #[.int .u64 0, .int .u64 0]), 2, 16) := by kernel_rfl
def rows (ids : List Int) (idx : Int) : List Value := ids.flatMap fun x => [.int .u64 x, .int .u64 idx]
theorem rows_push (ids : List Int) (x idx : Int) : rows (ids ++ [x]) idx = rows ids idx ++ [.int .u64 x, .int .u64 idx] := by simp [rows]
/-- Who still waits behind the answers to ids. -/
def still (P : Int → Bool) (ids : List Int) (y : Int) : Bool := !(ids.contains y) && P y
theorem still_nil (P : Int → Bool) : still P [] = P := by funext y; simp [still]
theorem still_push (P : Int → Bool) (ids : List Int) (x : Int) : still P (ids ++ [x]) = fun y => !(y == x) && still P ids y := by
  funext y
  unfold still
  by_cases c : y = x
  · subst c; simp
  · have : (y == x) = false := by simpa using c
    simp [this, c]
theorem still_same (P : Int → Bool) (ids : List Int) (x : Int) (h : still P ids x = false) : (fun y => !(y == x) && still P ids y) = still P ids := by
  funext y
  by_cases c : y = x
  · subst c; simp [h]
  · simp [c]

theorem add_blk (a : Addr) (i : Nat) : (a.add i).block = a.block := by
  unfold Addr.add
  split <;> rfl

/-- Behind i answers. -/
structure RSt (B0 : Nat) (w wr : World) (nb b : Nat) (inc idx : Int) (P : Int → Bool) (ids : List Int) (i : Nat) : Prop where
  node : ∃ n va vc, n ≤ 100000 ∧ NodeAt B0 wr nb b inc (still P (ids.take i)) n (.slice va i vc) ∧ wr.ownsRow (w.heap.size + 1) 82 2 (.slice va i vc) i (rows (ids.take i) idx)
  bel : Below B0 w wr
  els : Else nb b w wr
  siz : w.heap.size < wr.heap.size

theorem ownsRow_congr {w w' : World} {base : Nat} {e : TypeId} {size : Nat} {v : Value} {n : Nat} {xs : List Value} (h : w.ownsRow base e size v n xs) (hb : ∀ k, v.ownBlock = some k → w'.heap[k]? = w.heap[k]?) : w'.ownsRow base e size v n xs := by
  refine ⟨h.1, ?_⟩
  rcases h.2 with ⟨h1, h2⟩ | ⟨g, cap, cur, hv, hg, hh, rest⟩
  · exact .inl ⟨h1, h2⟩
  · exact .inr ⟨g, cap, cur, hv, hg, (hb g (by rw [hv]; rfl)).trans hh, rest⟩
theorem MapAt.pos {κ : Type} {k : κ → Value} {w : World} {r n : Nat} {f : κ → Option Value} (h : MapAt k w r f n) {x : κ} {v : Value} (e : f x = some v) : 0 < n := by
  obtain ⟨es, c, _, h2, _, _, h5⟩ := h
  obtain ⟨y, hy, _⟩ := h5 x v e
  rw [← h2]
  have := List.length_pos_of_mem hy
  simpa using this
theorem NodeAt.set94 {B0 nb b n : Nat} {w : World} {inc : Int} {P : Int → Bool} {rd : Value} (h : NodeAt B0 w nb b inc P n rd) (v : Value) : NodeAt B0 (w.setCell ⟨nb, 94, none⟩ v) nb b inc P n v := by
  obtain ⟨c, hc, q1, q2, q3, q4, q5⟩ := h.blk
  refine ⟨⟨_, heap_setCell_same w nb 94 c 68 _ hc, ?_, ?_, ?_, ?_, ?_⟩, h.map.kept (Below.heap_setCell _ _ _ _ h.ne), h.hb, h.hn, h.ne⟩
  · rw [Array.getElem?_setIfInBounds, if_neg (by decide)]; exact q1
  · rw [Array.getElem?_setIfInBounds, if_neg (by decide)]; exact q2
  · rw [Array.getElem?_setIfInBounds, if_neg (by decide)]; exact q3
  · rw [Array.getElem?_setIfInBounds, if_pos rfl, if_pos (Array.getElem?_eq_some_iff.1 q4).1]
  · rw [Array.getElem?_setIfInBounds, if_neg (by decide)]; exact q5
/-- One answer more: the row has grown, the header is turned. -/
theorem RSt.next {B0 nb b n i : Nat} {w W2 Wa w1 : World} {inc idx x : Int} {P : Int → Bool} {ids : List Int} {va : Option Addr} {vc gg cap : Nat} {ms : Array Value}
    (hn : n ≤ 100000) (hN : NodeAt B0 W2 nb b inc (still P (ids.take (i + 1))) n (.slice va i vc)) (hB : Below B0 w W2) (hE : Else nb b w W2) (hs : w.heap.size < W2.heap.size) (hM : W2.heap[w.heap.size]? = some (.cells ms 86))
    (hnb : nb < w.heap.size) (hbb : b < w.heap.size) (hrow : W2.ownsRow (w.heap.size + 1) 82 2 (.slice va i vc) i (rows (ids.take i) idx)) (hx : ids[i]? = some x)
    (eA : ∀ k, k < W2.heap.size → Wa.heap[k]? = W2.heap[k]?) (bA : Below B0 W2 Wa) (own : w1.ownsRow (w.heap.size + 1) 82 2 (.slice (some ⟨gg, 0, none⟩) (i + 1) cap) (i + 1) (rows (ids.take i) idx ++ [.int .u64 x, .int .u64 idx])) (gr : Wa.grownBy w1 (Value.slice va i vc).ownBlock) :
    RSt B0 w (w1.setCell ⟨nb, 94, none⟩ (.slice (some ⟨gg, 0, none⟩) (i + 1) cap)) nb b inc idx P ids (i + 1) ∧ (w1.setCell ⟨nb, 94, none⟩ (.slice (some ⟨gg, 0, none⟩) (i + 1) cap)).heap[w.heap.size]? = some (.cells ms 86) := by
  have hfar : ∀ k, k ≤ w.heap.size → w1.heap[k]? = W2.heap[k]? := fun k hk => by
    have h1 : k < W2.heap.size := by omega
    have h2 : k < Wa.heap.size := Nat.lt_of_lt_of_le h1 bA.size
    rw [gr.block k h2 (fun e => by have := (hrow.lt k e.symm).1; omega)]
    exact eA k h1
  have hN1 : NodeAt B0 w1 nb b inc (still P (ids.take (i + 1))) n (.slice va i vc) := hN.kept (hfar nb (by omega)) (hfar b (by omega))
  have hgg := own.lt gg rfl
  have hsz : w.heap.size < w1.heap.size := by omega
  have hB1 : Below B0 w w1 := by
    refine (hB.trans bA).grown gr (Nat.le_trans hN.hn (Nat.le_of_lt (Nat.lt_of_lt_of_le hN.lt bA.size))) (fun k hk => ?_)
    have := (hrow.lt k hk).1
    have := hN.hn
    omega
  refine ⟨⟨⟨n, some ⟨gg, 0, none⟩, cap, hn, hN1.set94 _, ?_⟩, hB1.setCell hN.hn _, fun k h1 h2 h3 => ?_, by simpa [World.setCell] using hsz⟩, ?_⟩
  · have e : rows (ids.take (i + 1)) idx = rows (ids.take i) idx ++ [.int .u64 x, .int .u64 idx] := by rw [List.take_add_one, hx]; exact rows_push _ _ _
    rw [e]
    exact ownsRow_congr own (fun k hk => Below.heap_setCell _ _ _ _ (by have := (own.lt k hk).1; show k ≠ nb; omega))
  · rw [Below.heap_setCell _ _ _ _ h2, hfar k (by omega)]
    exact hE k h1 h2 h3
  · rw [Below.heap_setCell _ _ _ _ (show w.heap.size ≠ nb by omega), hfar _ (Nat.le_refl _)]
    exact hM

set_option maxHeartbeats 2000000 in
set_option maxRecDepth 100000 in
theorem reply_same (B0 nb b n : Nat) (inc idx : Int) (P : Int → Bool) (a : Option Addr) (len cap : Nat) (ids : List Int) (ms : Array Value) (w : World) (h : NodeAt B0 w nb b inc P n (.slice none 0 0)) (hn : n ≤ 100000) (hI : IsInts .u64 w a len ids) (hlen : len ≤ 1024)
    (ha : ∀ x, a = some x → x.block ≠ nb ∧ x.block ≠ b) (m8 : ms[8]? = some (.int .u64 idx)) (m9 : ms[9]? = some (.int .i64 inc)) (m10 : ms[10]? = some (.slice a len cap)) :
    Calls Yba.prog 10 #[.pointer (some ⟨nb, 0, none⟩), .agg ms] w fun e w' => e = .returned (.tuple #[]) ∧ RSt B0 w w' nb b inc idx P ids len := by
  obtain ⟨t82, e82, z82, s82, y82⟩ := info_parts Yba.info82
  obtain ⟨c1, _, _, _, _, _⟩ := h.cells
  have hlt := h.lt
  have c1' : (w.alloc (.cells ms 86)).cell? ⟨nb, 1, none⟩ = some (.int .i64 inc) := by rw [World.cell?_of_block (Below.heap_alloc _ _ _ hlt)]; exact c1
  have hM := heap_alloc_new w (.cells ms 86)
  have k8 : (w.alloc (.cells ms 86)).cell? ⟨w.heap.size, 8, none⟩ = some (.int .u64 idx) := cell_of hM m8
  have k9 : (w.alloc (.cells ms 86)).cell? ⟨w.heap.size, 9, none⟩ = some (.int .i64 inc) := cell_of hM m9
  have k10 : (w.alloc (.cells ms 86)).cell? ⟨w.heap.size, 10, none⟩ = some (.slice a len cap) := cell_of hM m10
  have R0 : RSt B0 w (w.alloc (.cells ms 86)) nb b inc idx P ids 0 := by
    refine ⟨⟨n, none, 0, hn, ?_, World.ownsRow_nil _ _ _ _⟩, (Below.refl _ w).alloc (Nat.le_trans h.hn (Nat.le_of_lt hlt)) _, fun i hi _ _ => Below.heap_alloc _ _ _ hi, by simp⟩
    rw [List.take_zero, still_nil]
    exact h.alloc _
  have HI : Hid (IsInts .u64 w a len ids ∧ (∀ x, a = some x → x.block ≠ nb ∧ x.block ≠ b) ∧ nb < w.heap.size ∧ b < w.heap.size ∧ ms[8]? = some (.int .u64 idx)) := ⟨hI, ha, by omega, h.map.lt, m8⟩
  clear h hI ha c1 m8 m9 m10 hlt
  go_enter Yba.func10, Yba.ntmps10
  go_upto_region 1 with (fail)
  generalize hW0 : w.alloc (.cells ms 86) = W0 at c1' hM k8 k9 k10 R0 ⊢
  clear hW0
  go_quiet (fail)
  have R0 : RSt B0 w (W0.drewN nq) nb b inc idx P ids 0 := by
    obtain ⟨⟨n, va, vc, r0, r1, r2⟩, r3, r4, r5⟩ := R0
    exact ⟨⟨n, va, vc, r0, r1.kept rfl rfl, r2⟩, below_drewN r3 nq, r4, r5⟩
  have hM : (W0.drewN nq).heap[w.heap.size]? = some (.cells ms 86) := hM
  have k10 : (W0.drewN nq).cell? ⟨w.heap.size, 10, none⟩ = some (.slice a len cap) := k10
  have k8 : (W0.drewN nq).cell? ⟨w.heap.size, 8, none⟩ = some (.int .u64 idx) := k8
  clear c1' k9
  generalize W0.drewN nq = W at R0 hM k8 k10 ⊢
  have HM : Hid (W.heap[w.heap.size]? = some (.cells ms 86)) := hM
  have R0 : Hid (RSt B0 w W nb b inc idx P ids 0) := R0
  clear hM
  clear k8
  go_upto_region 3 with (fail)
  clear k10
  go_loopw [16] (fun iv wr => ∃ (i : Nat), iv = .int .i64 i ∧ i ≤ len ∧ Hid (RSt B0 w wr nb b inc idx P ids i ∧ wr.heap[w.heap.size]? = some (.cells ms 86))) (fun iv _ => len - (intOfN iv).toNat)
  case atStart => exact ⟨0, rfl, by omega, R0.out, HM.out⟩
  case round =>
    clear R0 HM
    obtain ⟨i, rfl, hi, RM⟩ := hrel
    by_cases hlti : i < len
    · obtain ⟨x, hx⟩ : ∃ x, ids[i]? = some x := ⟨_, List.getElem?_eq_getElem (by rw [HI.out.1.1]; exact hlti)⟩
      obtain ⟨ad, ha0, hca⟩ := HI.out.1.2 i x hx
      subst ha0
      obtain ⟨hb1, hb2⟩ := HI.out.2.1 ad rfl
      have i1 : (0 : Int) ≤ (i : Int) := by omega
      have i2 : (i : Int) < (len : Int) := by omega
      have cx : wr.cell? (ad.add i) = some (.int .u64 x) := by
        rw [World.cell?_of_block (RM.out.1.els _ (World.block_lt_of_cell? _ _ hca) (fun e => hb1 (by rw [← e, add_blk])) (fun e => hb2 (by rw [← e, add_blk])))]; exact hca
      obtain ⟨n1, va, vc, hn1, hN, hrow⟩ := RM.out.1.node
      have hcall : Calls Yba.prog 20 #[.pointer (some ⟨nb, 0, none⟩), .int .u64 x, .bool false] wr fun e w' => e = .returned (.tuple #[]) ∧ ∃ n2, n2 ≤ 100000 ∧ NodeAt B0 w' nb b inc (still P (ids.take (i + 1))) n2 (.slice va i vc) ∧ Below B0 wr w' ∧ Else nb b wr w' := by
        have et : ids.take (i + 1) = ids.take i ++ [x] := by rw [List.take_add_one, hx]; rfl
        cases hp : still P (ids.take i) x with
        | true =>
          have hpos := hN.map.pos (x := x) (v := err x) (by unfold fOf; rw [if_pos hp])
          obtain ⟨m, rfl⟩ : ∃ m, n1 = m + 1 := ⟨n1 - 1, by omega⟩
          refine (answered_in B0 nb b m inc _ _ x wr hN hp (by omega)).mono ?_
          rintro e w' ⟨h1, h2, h3, h4⟩
          refine ⟨h1, m, by omega, ?_, h3, h4⟩
          rw [et, still_push]
          exact h2
        | false =>
          refine (answered_out B0 nb b n1 inc _ _ x wr hN hp).mono ?_
          rintro e w' ⟨h1, h2, h3, h4⟩
          refine ⟨h1, n1, hn1, ?_, h3, h4⟩
          rw [et, still_push, still_same _ _ _ hp]
          exact h2
      clear hN
      go_wp2_with fail
      refine hcall.mono ?_
      rintro _ W2 ⟨rfl, n2, hn2, hN, hB2, hE2⟩
      clear hcall cx
      obtain ⟨_, _, hnb, hbb, m8⟩ := HI.out
      have hsz := RM.out.1.siz
      have hMw := RM.out.2
      have hM2 : W2.heap[w.heap.size]? = some (.cells ms 86) := (hE2 _ hsz (by omega) (by omega)).trans hMw
      have hrow2 : W2.ownsRow (w.heap.size + 1) 82 2 (.slice va i vc) i (rows (ids.take i) idx) := ownsRow_congr hrow (fun k hk => by
        have := hrow.lt k hk
        exact hE2 k this.2 (by omega) (by omega))
      have k8 : W2.cell? ⟨w.heap.size, 8, none⟩ = some (.int .u64 idx) := cell_of hM2 m8
      obtain ⟨_, _, _, c94, _, fz⟩ := hN.cells
      have f94 := fz 94
      have hlt1 := hN.lt
      have hlt2 : w.heap.size < W2.heap.size := Nat.lt_of_lt_of_le hsz hB2.size
      have hEw : Else nb b w W2 := fun k h1 h2 h3 => (hE2 k (by omega) h2 h3).trans (RM.out.1.els k h1 h2 h3)
      have ST : Hid (NodeAt B0 W2 nb b inc (still P (ids.take (i + 1))) n2 (.slice va i vc) ∧ Below B0 w W2 ∧ Else nb b w W2 ∧ w.heap.size < W2.heap.size ∧ W2.heap[w.heap.size]? = some (.cells ms 86) ∧ n2 ≤ 100000 ∧ ids[i]? = some x) := ⟨hN, RM.out.1.bel.trans hB2, hEw, hlt2, hM2, hn2, hx⟩
      have HR : Hid (W2.ownsRow (w.heap.size + 1) 82 2 (.slice va i vc) i (rows (ids.take i) idx) ∧ nb < w.heap.size ∧ b < w.heap.size) := ⟨hrow2, hnb, hbb⟩
      clear hN hB2 hE2 hM2 hrow hrow2 hMw m8 fz hEw hn2 hx RM hn1 hca hb1 hb2
      go_upto_region 6 with (fail)
      go_region_law ((refine step_append_lies _ (by rfl) _ _ _ (by rfl) (w.heap.size + 1) 82 t82 _ 2 16 Yba.underlying62 e82 z82 s82 y82 rfl (by omega) (.slice va i vc) i (rows (ids.take i) idx) (by rfl) (ownsRow_congr HR.out.1 (fun k hk => Below.heap_alloc _ _ _ (HR.out.1.lt k hk).2)) _ 1 1 ([.int .u64 x, .int .u64 idx]) (by rfl) (by rfl) (World.news_of_block (heap_alloc_new W2 _)) (by simp [Value.oneCell']) (by omega) (by unfold maxLen; omega) (by omega) (by simp; omega) _ (by rfl) ?_; intro gg cap1 w1 own gr hg hlt3; have j1 : w1.cell? ⟨nb, 94, none⟩ = some (.slice va i vc) := (gr.cell_far ⟨nb, 94, none⟩ (by simp; omega) (fun e => by have := (HR.out.1.lt nb e.symm).1; have := HR.out.2.1; omega)).trans ((ST.out.1.alloc _).cells.2.2.2.1); have j2 : w1.frozen? ⟨nb, 94, none⟩ = false := (gr.frozen_far ⟨nb, 94, none⟩ (by simp; omega) (fun e => by have := (HR.out.1.lt nb e.symm).1; have := HR.out.2.1; omega)).trans ((ST.out.1.alloc _).cells.2.2.2.2.2 94)))
      all_goals
        have NX := RSt.next (Wa := (W2.alloc (.cells #[.int .u64 x, .int .u64 idx] 82)).drew) ST.out.2.2.2.2.2.1 ST.out.1 ST.out.2.1 ST.out.2.2.1 ST.out.2.2.2.1 ST.out.2.2.2.2.1 HR.out.2.1 HR.out.2.2 HR.out.1 ST.out.2.2.2.2.2.2 (fun k hk => Below.heap_alloc _ _ _ hk) (Below.drew (Below.alloc (Below.refl B0 W2) (Nat.le_trans ST.out.1.hn (Nat.le_of_lt ST.out.1.lt)) _)) own gr
        have NX : Hid _ := NX
        clear own gr hg hlt3 j1 j2 ST HR k8 c94 f94
        go_wp2_with fail
        exact ⟨⟨i + 1, by go_num, by omega, NX⟩, by simp [intOfN]; omega⟩
    · have hi' : i = len := by omega
      subst hi'
      go_wp2_with fail
      go_end0
      exact ⟨rfl, RM.out.1⟩

set_option maxHeartbeats 1000000 in
set_option maxRecDepth 100000 in
/-- A reply of another incarnation. -/
theorem reply_other (B0 nb b n : Nat) (inc mi : Int) (P : Int → Bool) (rd : Value) (ms : Array Value) (w : World) (h : NodeAt B0 w nb b inc P n rd) (hne : mi ≠ inc) (m9 : ms[9]? = some (.int .i64 mi)) :
    Calls Yba.prog 10 #[.pointer (some ⟨nb, 0, none⟩), .agg ms] w fun e w' => e = .returned (.tuple #[]) ∧ NodeAt B0 w' nb b inc P n rd ∧ Below B0 w w' ∧ Else nb b w w' := by
  obtain ⟨c1, _, _, _, _, _⟩ := h.cells
  have c1' : (w.alloc (.cells ms 86)).cell? ⟨nb, 1, none⟩ = some (.int .i64 inc) := by rw [World.cell?_of_block (Below.heap_alloc _ _ _ h.lt)]; exact c1
  have k9 : (w.alloc (.cells ms 86)).cell? ⟨w.heap.size, 9, none⟩ = some (.int .i64 mi) := cell_of (heap_alloc_new w (.cells ms 86)) m9
  have HH : Hid (NodeAt B0 (w.alloc (.cells ms 86)) nb b inc P n rd ∧ Below B0 w (w.alloc (.cells ms 86)) ∧ Else nb b w (w.alloc (.cells ms 86))) := ⟨h.alloc _, (Below.refl _ w).alloc (Nat.le_trans h.hn (Nat.le_of_lt h.lt)) _, fun i hi _ _ => Below.heap_alloc _ _ _ hi⟩
  have g1 : (mi == inc) = false := by simpa using hne
  clear h c1 m9
  go_enter Yba.func10, Yba.ntmps10
  go_upto_region 1 with (fail)
  generalize w.alloc (.cells ms 86) = W0 at c1' k9 HH ⊢
  go_quiet (fail)
  go_wp2_with fail
  refine bodyPost_ret (results_none rfl _ _ _) rfl ?_
  exact ⟨rfl, HH.out.1.kept rfl rfl, below_drewN HH.out.2.1 nq, HH.out.2.2⟩
end Go.Proofs.Ybulkaehe
