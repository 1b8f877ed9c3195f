/-
  LawS1512CReply: the law's walk.
-/
import Derived.Test.YbulkaeheIdx
namespace Go.Proofs.Ybulkaehe
open Go.RowKit Go.MapKept

theorem NodeAt.of_nst {B0 B1 : Nat} {w : World} {nb b : Nat} {inc : Int} (h : Nst B1 w nb b inc) (hB : B0 ≤ B1) : NodeAt B0 w nb b inc (fun _ => false) 0 (.slice none 0 0) := by
  obtain ⟨⟨c, hc, q1, q2, q3, q4, q5⟩, hm, hb, hn⟩ := h
  refine ⟨⟨c, hc, q1, q2, by simpa using q3, q4, q5⟩, ⟨#[], 0, hm, rfl, by simp, by simp, fun k v e => by simp [fOf] at e⟩, by omega, by omega, fun e => ?_⟩
  rw [e, hc] at hm
  cases hm
/-- Behind i rounds of the first loop. -/
structure L1 (w wr : World) (nb b : Nat) (inc : Int) (l : List Int) (n : Nat) : Prop where
  node : NodeAt w.heap.size wr nb b inc (fun y => l.contains y) n (.slice none 0 0)
  le : n ≤ l.length
  bel : Below w.heap.size w wr
theorem contains_push (l : List Int) (p : Int) : (fun y => (l ++ [p]).contains y) = fun y => y == p || l.contains y := by
  funext y
  by_cases c : y = p
  · subst c; simp
  · have e : (y == p) = false := by simpa using c
    simp [e, c]

theorem flB_le (pd : List Int) (j : Nat) : (flB (fun _ => true) pd j).length ≤ j := by
  induction j with
  | zero => simp [flB]
  | succ j ih =>
    unfold flB
    cases h : pd[j]? with
    | none => simp; omega
    | some p =>
      simp only [List.length_append]
      split <;> simp <;> omega
theorem rows_at (idx : Int) : ∀ (ids : List Int) (i : Nat) (x : Int), ids[i]? = some x → (rows ids idx)[i * 2]? = some (.int .u64 x) ∧ (rows ids idx)[i * 2 + 1]? = some (.int .u64 idx)
  | [], i, x, h => by simp at h
  | y :: t, 0, x, h => by
    simp at h
    subst h
    simp [rows]
  | y :: t, i + 1, x, h => by
    have := rows_at idx t i x (by simpa using h)
    have e : rows (y :: t) idx = .int .u64 y :: .int .u64 idx :: rows t idx := by simp [rows]
    rw [e, show (i + 1) * 2 = i * 2 + 1 + 1 by omega]
    simpa using this
theorem row_at {W : World} {base len vc : Nat} {va : Option Addr} {ids : List Int} {idx x : Int} {i : Nat} (h : W.ownsRow base 82 2 (.slice va len vc) len (rows ids idx)) (hx : ids[i]? = some x) (hlt : i < len) :
    ∃ g cc, Value.slice va len vc = .slice (some ⟨g, 0, none⟩) len cc ∧ W.cell? ⟨g, i * 2, none⟩ = some (.int .u64 x) ∧ W.cell? ⟨g, i * 2 + 1, none⟩ = some (.int .u64 idx) := by
  obtain ⟨g, cc, e⟩ := Joins.ownsRow_form h (by omega)
  rw [e] at h
  obtain ⟨r0, r1⟩ := rows_at idx ids i x hx
  exact ⟨g, cc, e, (h.cellAt _ (by omega)).trans r0, (h.cellAt _ (by omega)).trans r1⟩
set_option maxHeartbeats 4000000 in
set_option maxRecDepth 100000 in
theorem reply_law (inc msgInc : Int) (same : Bool) (idx : Int) (a4 : Option Addr) (len4 cap4 : Nat) (ids : List Int) (a5 : Option Addr) (len5 cap5 : Nat) (pd : List Int) (w : World) (h4 : IsInts .u64 w a4 len4 ids) (h5 : IsInts .u64 w a5 len5 pd) (hn4 : a4 = none → cap4 = 0) (hl4 : len4 ≤ 1024) (hl5 : len5 ≤ 1024) :
    Calls Yba.prog 4 #[.int .i64 inc, .int .i64 msgInc, .bool same, .int .u64 idx, .slice a4 len4 cap4, .slice a5 len5 cap5] w fun e w' => e = .returned (.bool true) ∧ Below w.heap.size w w' := by
  have HH : Hid (IsInts .u64 w a4 len4 ids ∧ IsInts .u64 w a5 len5 pd ∧ (a4 = none → cap4 = 0)) := ⟨h4, h5, hn4⟩
  clear h4 h5 hn4
  have g4 : decide (1024 < (len4 : Int)) = false := by simp; omega
  have g5 : decide (1024 < (len5 : Int)) = false := by simp; omega
  go_enter Yba.func4, Yba.ntmps4
  go_wp2_with fail
  refine (new_walk w.heap.size inc _ (cell_of (heap_alloc_new w _) rfl) (cell_of (heap_alloc_new w _) rfl) (cell_of (heap_alloc_new w _) rfl)).mono ?_
  rintro _ W1 ⟨nb, b, rfl, hN, hB⟩
  have hN0 : Hid (L1 w W1 nb b inc [] 0) := by
    refine ⟨?_, Nat.le_refl _, ((Below.refl _ w).alloc (Nat.le_refl _) _).trans (hB.mono (by simp))⟩
    have e : (fun y => ([] : List Int).contains y) = fun _ => false := by funext y; simp
    rw [e]
    exact NodeAt.of_nst hN (by simp)
  clear hN hB
  go_upto_region 5 with (fail)
  go_loopw [48] (fun iv wr => ∃ (i n : Nat), iv = .int .i64 i ∧ i ≤ len5 ∧ Hid (L1 w wr nb b inc (pd.take i) n)) (fun iv _ => len5 - (intOfN iv).toNat)
  case atStart => exact ⟨0, 0, rfl, by omega, hN0⟩
  case round =>
    clear hN0
    obtain ⟨i, n, rfl, hi, HL⟩ := hrel
    by_cases hlt : i < len5
    · obtain ⟨p, hp⟩ : ∃ p, pd[i]? = some p := ⟨_, List.getElem?_eq_getElem (by rw [HH.out.2.1.1]; exact hlt)⟩
      obtain ⟨ad, ha0, hca⟩ := HH.out.2.1.2 i p hp
      have cx : wr.cell? (ad.add i) = some (.int .u64 p) := by
        rw [HL.out.bel.cell (World.block_lt_of_cell? _ _ hca)]; exact hca
      have i1 : (0 : Int) ≤ (i : Int) := by omega
      have i2 : (i : Int) < (len5 : Int) := by omega
      have et : Hid (pd.take (i + 1) = pd.take i ++ [p]) := by
        show pd.take (i + 1) = _
        rw [List.take_add_one, hp]; rfl
      have hle : n ≤ i := by
        have := HL.out.le
        simp at this
        omega
      have hle2 : Hid (n ≤ (pd.take i).length) := HL.out.le
      have hl := HL.out.node.map.look (P := Yba.prog) (mty := 56) Yba.underlying56 Yba.underlying24 key_is key_inj (zero77 wr) p
      obtain ⟨_, _, _, _, c86, _⟩ := HL.out.node.cells
      subst ha0
      cases hpc : (pd.take i).contains p with
      | true =>
        unfold fOf at hl
        rw [if_pos hpc] at hl
        unfold key err at hl
        have hpc : Hid ((pd.take i).contains p = true) := hpc
        clear hca hp
        go_wp2_with fail
        refine ⟨⟨i + 1, n, by go_num, by omega, ?_⟩, by simp [intOfN]; omega⟩
        refine ⟨?_, ?_, HL.out.bel.alloc HL.out.bel.size _⟩
        · rw [et.out, contains_push]
          have e : (fun y => y == p || (pd.take i).contains y) = fun y => (pd.take i).contains y := by
            funext y
            by_cases c : y = p
            · subst c; rw [hpc.out]; simp
            · simp [c]
          rw [e]
          exact HL.out.node.alloc _
        · rw [et.out, List.length_append]
          have := HL.out.le
          omega
      | false =>
        unfold fOf at hl
        rw [if_neg (by show ¬ ((pd.take i).contains p = true); rw [hpc]; decide)] at hl
        unfold key at hl
        have hpc : Hid ((pd.take i).contains p = false) := hpc
        clear hca hp
        go_upto_region 9 with (fail)
        have HA : Hid (NodeAt w.heap.size (wr.alloc (.cells #[.int .u64 0, .int .u64 0, .int .u8 0] 77)) nb b inc (fun y => (pd.take i).contains y) n (.slice none 0 0) ∧ Below w.heap.size w (wr.alloc (.cells #[.int .u64 0, .int .u64 0, .int .u8 0] 77))) := ⟨HL.out.node.alloc _, HL.out.bel.alloc HL.out.bel.size _⟩
        clear hl HL cx c86
        generalize wr.alloc (.cells #[.int .u64 0, .int .u64 0, .int .u8 0] 77) = Wa at HA ⊢
        obtain ⟨_, _, c90, _, c86, fz⟩ := HA.out.1.cells
        obtain ⟨Wb, hrun, m1, m2, m3, m4⟩ := HA.out.1.map.store (P := Yba.prog) (mty := 56) Yba.underlying56 Yba.underlying24 key_is key_inj p (err p)
        have hne := HA.out.1.ne
        have d90 : Wb.cell? ⟨nb, 90, none⟩ = some (.int .i64 (n : Int)) := by rw [World.cell?_of_block (m4 _ (Ne.symm hne))]; exact c90
        have df : Wb.frozen? ⟨nb, 90, none⟩ = false := by rw [World.frozen?_of_block (m4 _ (Ne.symm hne))]; exact fz 90
        have hfin : Hid (NodeAt w.heap.size (Wb.setCell ⟨nb, 90, none⟩ (.int .i64 ((n + 1 : Nat) : Int))) nb b inc (fun y => (pd.take (i + 1)).contains y) (n + 1) (.slice none 0 0) ∧ Below w.heap.size w (Wb.setCell ⟨nb, 90, none⟩ (.int .i64 ((n + 1 : Nat) : Int)))) := by
          obtain ⟨c, hc, q1, q2, q3, q4, q5⟩ := HA.out.1.blk
          refine ⟨⟨⟨_, heap_setCell_same Wb nb 90 c 68 _ ((m4 nb (Ne.symm hne)).trans hc), ?_, ?_, ?_, ?_, ?_⟩, ?_, HA.out.1.hb, HA.out.1.hn, hne⟩, (HA.out.2.trans (m2.mono HA.out.1.hb)).setCell HA.out.1.hn _⟩
          · rw [Array.getElem?_setIfInBounds, if_neg (by decide)]; exact q1
          · rw [Array.getElem?_setIfInBounds, if_neg (by decide)]; exact q2
          · rw [Array.getElem?_setIfInBounds, if_pos rfl, if_pos (Array.getElem?_eq_some_iff.1 q3).1]
          · rw [Array.getElem?_setIfInBounds, if_neg (by decide)]; exact q4
          · rw [Array.getElem?_setIfInBounds, if_neg (by decide)]; exact q5
          · have e : (fOf (fun y => (pd.take i).contains y) p).isSome = false := by unfold fOf; rw [if_neg (by show ¬ ((pd.take i).contains p = true); rw [hpc.out]; decide)]; rfl
            rw [fOf_add, if_neg (by rw [e]; decide)] at m1
            rw [et.out, contains_push]
            exact m1.kept (Below.heap_setCell _ _ _ _ hne)
        have ww : IntKind.i64.wrap ((n : Int) + 1) = (n : Int) + 1 := by rw [IntKind.wrap_i64]; omega
        unfold key err at hrun
        clear m1 m2 m3 m4 HA c90 fz hne
        go_upto_region 10 with (fail)
        go_region
        go_wp2_with fail
        refine ⟨⟨i + 1, n + 1, by go_num, by omega, ?_⟩, by simp [intOfN]; omega⟩
        refine ⟨(hfin.out.1).kept rfl rfl, ?_, (hfin.out.2).drew⟩
        rw [et.out, List.length_append]
        have := hle2.out
        simp only [List.length_cons, List.length_nil]
        omega
    · have hi' : i = len5 := by omega
      have HL1 : Hid (L1 w wr nb b inc pd n) := by
        have := HL.out
        rw [hi', ← HH.out.2.1.1, List.take_length] at this
        exact this
      clear HL hi'
      go_upto_if 81 with (fail)
      go_cut [18] (fun v wd => ∃ mi : Int, v = .int .i64 mi ∧ wd = wr)
      case first =>
        cases same with
        | false =>
          go_wp2_with fail
          go_meet
          case rel => exact ⟨_, rfl, rfl⟩
        | true =>
          go_wp2_with fail
          go_meet
          case rel => exact ⟨_, rfl, rfl⟩
      case rest =>
        obtain ⟨mi, rfl, rfl⟩ := hcut
        have hcl : Calls Yba.prog 8 #[.slice a4 len4 cap4] wc fun e w' => ∃ a' cap', e = .returned (.slice a' len4 cap') ∧ IsInts .u64 w' a' len4 ids ∧ Ext wc w' ∧ ∀ x, a' = some x → wc.heap.size ≤ x.block := by
          have hI4 : IsInts .u64 wc a4 len4 ids := by
            refine ⟨HH.out.1.1, fun j z e => ?_⟩
            obtain ⟨x, hx, hc⟩ := HH.out.1.2 j z e
            exact ⟨x, hx, by rw [HL1.out.bel.cell (World.block_lt_of_cell? _ _ hc)]; exact hc⟩
          cases ha : a4 with
          | none =>
            rw [ha] at hI4
            have hc0 := HH.out.2.2 ha
            have hl0 : len4 = 0 := by
              cases hks : ids with
              | nil => have := hI4.1; rw [hks] at this; simpa using this.symm
              | cons z t =>
                obtain ⟨x, hx, _⟩ := hI4.2 0 z (by rw [hks]; rfl)
                cases hx
            rw [hc0, hl0]
            refine (clone8_nil wc).mono ?_
            rintro e w' ⟨rfl, rfl⟩
            exact ⟨none, 0, rfl, by rw [← hl0]; exact hI4, Ext.refl _, fun x hx => by cases hx⟩
          | some ad =>
            rw [ha] at hI4
            refine (clone8_some ad len4 cap4 ids wc hI4 hl4).mono ?_
            rintro e w' ⟨g, cp, rfl, q1, q2, q3⟩
            exact ⟨_, _, rfl, q1, q2, fun x hx => by cases hx; exact q3⟩
        go_wp2_with fail
        refine hcl.mono ?_
        rintro _ W2 ⟨a', cap', rfl, hI', hX, hA'⟩
        have HL2 : Hid (L1 w W2 nb b inc pd n ∧ IsInts .u64 W2 a' len4 ids ∧ ∀ x, a' = some x → x.block ≠ nb ∧ x.block ≠ b) := by
          have n1 := HL1.out.node.lt
          have n2 := HL1.out.node.map.lt
          refine ⟨⟨HL1.out.node.kept (hX.block _ n1) (hX.block _ n2), HL1.out.le, HL1.out.bel.trans (Below.mono hX HL1.out.bel.size)⟩, hI', fun x hx => ?_⟩
          have := hA' x hx
          exact ⟨by omega, by omega⟩
        clear HL1 hcl hI' hX hA'
        obtain ⟨c1, c88, c90, c94, c86, fz⟩ := HL2.out.1.node.cells
        have hml := HL2.out.1.node.map.len (P := Yba.prog) (mty := 56) Yba.underlying56
        clear fz c1
        go_wp2_with fail
        refine (clone9_nil W2).mono ?_
        rintro _ W2 ⟨rfl, rfl⟩
        go_upto_region 21 with (fail)
        by_cases hmi : mi = inc
        · have hR := reply_same w.heap.size nb b n inc idx (fun y => pd.contains y) a' len4 cap' ids #[Value.int IntKind.u8 0, Value.int IntKind.u64 0, Value.int IntKind.i64 0, Value.bool false, Value.int IntKind.u64 0, Value.int IntKind.i64 0, Value.int IntKind.u64 0, Value.int IntKind.u64 0, Value.int IntKind.u64 idx, Value.int IntKind.i64 mi, Value.slice a' len4 cap', Value.slice none 0 0, Value.slice none 0 0, Value.int IntKind.u64 0, Value.int IntKind.u64 0, Value.int IntKind.u64 0, Value.slice none 0 0] W2 HL2.out.1.node (by have := HL2.out.1.le; have := HH.out.2.1.1; omega) HL2.out.2.1 hl4 HL2.out.2.2 rfl (by rw [← hmi]; rfl) rfl
          replace hmi : Hid (mi = inc) := hmi
          have hbl : Hid (L1 w W2 nb b inc pd n) := HL2.out.1
          clear c88 c90 c94 c86 hml HL2
          go_wp2_with fail
          refine hR.mono ?_
          rintro _ W3 ⟨rfl, RS⟩
          have RS : Hid (RSt w.heap.size W2 W3 nb b inc idx (fun y => pd.contains y) ids len4) := RS
          clear hR
          obtain ⟨n3, va, vc, hn3, hN3, hrow⟩ := RS.out.node
          obtain ⟨_, c88, c90, c94, c86, _⟩ := hN3.cells
          have hml := hN3.map.len (P := Yba.prog) (mty := 56) Yba.underlying56
          have g1 : (mi == inc) = true := by simpa using hmi.out
          have g1b : (mi != inc) = false := by simpa using hmi.out
          have HRow : Hid (W3.ownsRow (W2.heap.size + 1) 82 2 (.slice va len4 vc) len4 (rows ids idx)) := by
            have := hrow
            rw [← HH.out.1.1, List.take_length] at this
            rw [HH.out.1.1] at this
            exact this
          have HN3 : Hid (NodeAt w.heap.size W3 nb b inc (still (fun y => pd.contains y) ids) n3 (.slice va len4 vc)) := by
            have := hN3
            rw [← HH.out.1.1, List.take_length] at this
            rw [HH.out.1.1] at this
            exact this
          clear hN3 hrow
          go_upto_region 29 with (fail)
          go_loopw [25] (fun iv wr => iv = .int .i64 0 ∧ wr = W3) (fun _ _ => 0)
          case atStart => exact ⟨rfl, rfl⟩
          case round =>
            obtain ⟨rfl, rfl⟩ := hrel
            go_upto_region 34 with (fail)
            go_loopw [185] (fun iv wr2 => ∃ (i : Nat), iv = .int .i64 i ∧ i ≤ len4 ∧ wr2 = wr) (fun iv _ => len4 - (intOfN iv).toNat)
            case atStart => exact ⟨0, rfl, by omega, rfl⟩
            case round =>
              obtain ⟨i3, rfl, hi3, rfl⟩ := hrel
              by_cases hlt3 : i3 < len4
              · obtain ⟨x, hx⟩ : ∃ x, ids[i3]? = some x := ⟨_, List.getElem?_eq_getElem (by rw [HH.out.1.1]; exact hlt3)⟩
                obtain ⟨ad, ha0, hca⟩ := HH.out.1.2 i3 x hx
                have cx : wr.cell? (ad.add i3) = some (.int .u64 x) := by
                  rw [(hbl.out.bel.trans RS.out.bel).cell (World.block_lt_of_cell? _ _ hca)]; exact hca
                subst ha0
                have i1 : (0 : Int) ≤ (i3 : Int) := by omega
                have i2 : (i3 : Int) < (len4 : Int) := by omega
                obtain ⟨g, cc, hsl, r0, r1⟩ := row_at HRow.out hx hlt3
                clear hca
                simp only [Value.slice.injEq] at hsl
                obtain ⟨rfl, _, rfl⟩ := hsl
                go_wp2_with fail
                exact ⟨⟨i3 + 1, by go_num, by omega, trivial⟩, by simp [intOfN]; omega⟩
              · go_upto_region 41 with (fail)
                go_loopw [28, 207] (fun rv iv wr2 => ∃ (j : Nat), iv = .int .i64 j ∧ j ≤ len5 ∧ rv = .int .i64 ((flB (fun y => ids.contains y) pd j).length : Nat) ∧ Hid (NodeAt w.heap.size wr2 nb b inc (still (fun y => pd.contains y) ids) n3 (.slice va len4 vc) ∧ Below w.heap.size w wr2)) (fun _ iv _ => len5 - (intOfN iv).toNat)
                case atStart => exact ⟨0, rfl, by omega, rfl, HN3.out, hbl.out.bel.trans RS.out.bel⟩
                case round =>
                  clear c88 c90 c94 c86 hml
                  obtain ⟨j, rfl, hj, rfl, HX⟩ := hrel
                  obtain ⟨_, c88, c90, c94, c86, _⟩ := HX.out.1.cells
                  have hfl : (flB (fun y => ids.contains y) pd j).length ≤ 1024 := by
                    have h1 := flB_add (fun y => ids.contains y) pd j
                    have h2 := flB_le pd j
                    omega
                  by_cases hlt4 : j < len5
                  · obtain ⟨p, hp⟩ : ∃ p, pd[j]? = some p := ⟨_, List.getElem?_eq_getElem (by rw [HH.out.2.1.1]; exact hlt4)⟩
                    obtain ⟨ad, ha0, hca⟩ := HH.out.2.1.2 j p hp
                    have cx : wr.cell? (ad.add j) = some (.int .u64 p) := by
                      rw [HX.out.2.cell (World.block_lt_of_cell? _ _ hca)]; exact hca
                    have i1 : (0 : Int) ≤ (j : Int) := by omega
                    have i2 : (j : Int) < (len5 : Int) := by omega
                    have hI4 : Hid (IsInts .u64 wr a4 len4 ids) := by
                      refine ⟨HH.out.1.1, fun j z e => ?_⟩
                      obtain ⟨x, hx, hc⟩ := HH.out.1.2 j z e
                      exact ⟨x, hx, by rw [HX.out.2.cell (World.block_lt_of_cell? _ _ hc)]; exact hc⟩
                    have hI5 : Hid (∀ o, IsInts .u64 (wr.alloc o) a5 len5 pd) := by
                      refine fun o => ⟨HH.out.2.1.1, fun j z e => ?_⟩
                      obtain ⟨x, hx, hc⟩ := HH.out.2.1.2 j z e
                      exact ⟨x, hx, by rw [(HX.out.2.alloc HX.out.2.size o).cell (World.block_lt_of_cell? _ _ hc)]; exact hc⟩
                    have hl := HX.out.1.map.look (P := Yba.prog) (mty := 56) Yba.underlying56 Yba.underlying24 key_is key_inj (zero77 wr) p
                    have hst : still (fun y => pd.contains y) ids p = !ids.contains p := by
                      have : pd.contains p = true := by simpa using List.mem_of_getElem? hp
                      show (!(ids.contains p) && pd.contains p) = _
                      rw [this]; simp
                    have hstep : Hid ((flB (fun y => ids.contains y) pd (j + 1)).length = (flB (fun y => ids.contains y) pd j).length + (if !(pd.take j).contains p && ids.contains p then 1 else 0)) := by
                      show (flB (fun y => ids.contains y) pd (j + 1)).length = _
                      conv => lhs; unfold flB
                      rw [hp, List.length_append]
                      simp only
                      split <;> simp
                    have hp : Hid (pd[j]? = some p) := hp
                    generalize hfv : (flB (fun y => ids.contains y) pd j).length = fv at hstep hfl ⊢
                    clear hfv hca
                    unfold fOf at hl
                    rw [hst] at hl
                    cases hnm : ids.contains p with
                    | true =>
                      rw [hnm] at hl
                      simp at hl
                      unfold key at hl
                      have hnm : Hid (ids.contains p = true) := hnm
                      subst ha0
                      have HXa : Hid (NodeAt w.heap.size (wr.alloc (.cells #[.int .u64 0, .int .u64 0, .int .u8 0] 77)) nb b inc (still (fun y => pd.contains y) ids) n3 (.slice va len4 vc) ∧ Below w.heap.size w (wr.alloc (.cells #[.int .u64 0, .int .u64 0, .int .u8 0] 77))) := ⟨HX.out.1.alloc _, HX.out.2.alloc HX.out.2.size _⟩
                      have hIx := index12 (some ad) len5 cap5 pd p _ (hI5.out (.cells #[.int .u64 0, .int .u64 0, .int .u8 0] 77)) hl5
                      have hCt := contains11 a4 len4 cap4 ids p wr hI4.out hl4
                      rw [hnm.out] at hCt
                      clear HX hI4 hI5 hst
                      go_wp2_with fail
                      refine hCt.mono ?_
                      rintro _ wr ⟨rfl, rfl⟩
                      clear hCt
                      go_wp2_with fail
                      refine hIx.mono ?_
                      rintro _ W5 ⟨r, rfl, hr, rfl⟩
                      clear hIx hl cx c86
                      cases hfr : (pd.take j).contains p with
                      | true =>
                        have hq : (r == (j : Int)) = false := by rw [idx_eq hr hp.out, hfr]; rfl
                        replace hfr : Hid ((pd.take j).contains p = true) := hfr
                        clear hr
                        go_wp2_with fail
                        go_roundw
                        case rel =>
                          refine ⟨j + 1, by go_num, by omega, ?_, HXa.out⟩
                          rw [hstep.out, hfr.out, hnm.out]
                          simp
                        case measure => simp [intOfN]; omega
                      | false =>
                        have hq : (r == (j : Int)) = true := by rw [idx_eq hr hp.out, hfr]; rfl
                        replace hfr : Hid ((pd.take j).contains p = false) := hfr
                        clear hr
                        go_wp2_with fail
                        go_roundw
                        case rel =>
                          refine ⟨j + 1, by go_num, by omega, ?_, HXa.out⟩
                          rw [hstep.out, hfr.out, hnm.out]
                          simp
                        case measure => simp [intOfN]; omega
                    | false =>
                      rw [hnm] at hl
                      simp at hl
                      unfold key err at hl
                      have hnm : Hid (ids.contains p = false) := hnm
                      subst ha0
                      have HXa : Hid (NodeAt w.heap.size (wr.alloc (.cells #[.int .u64 p, .int .u64 0, .int .u8 1] 77)) nb b inc (still (fun y => pd.contains y) ids) n3 (.slice va len4 vc) ∧ Below w.heap.size w (wr.alloc (.cells #[.int .u64 p, .int .u64 0, .int .u8 1] 77))) := ⟨HX.out.1.alloc _, HX.out.2.alloc HX.out.2.size _⟩
                      have hIx := index12 (some ad) len5 cap5 pd p _ (hI5.out (.cells #[.int .u64 p, .int .u64 0, .int .u8 1] 77)) hl5
                      have hCt := contains11 a4 len4 cap4 ids p wr hI4.out hl4
                      rw [hnm.out] at hCt
                      clear HX hI4 hI5 hst
                      go_wp2_with fail
                      refine hCt.mono ?_
                      rintro _ wr ⟨rfl, rfl⟩
                      clear hCt
                      go_wp2_with fail
                      refine hIx.mono ?_
                      rintro _ W5 ⟨r, rfl, hr, rfl⟩
                      clear hIx hl cx c86
                      cases hfr : (pd.take j).contains p with
                      | true =>
                        have hq : (r == (j : Int)) = false := by rw [idx_eq hr hp.out, hfr]; rfl
                        replace hfr : Hid ((pd.take j).contains p = true) := hfr
                        clear hr
                        go_wp2_with fail
                        go_roundw
                        case rel =>
                          refine ⟨j + 1, by go_num, by omega, ?_, HXa.out⟩
                          rw [hstep.out, hfr.out, hnm.out]
                          simp
                        case measure => simp [intOfN]; omega
                      | false =>
                        have hq : (r == (j : Int)) = true := by rw [idx_eq hr hp.out, hfr]; rfl
                        replace hfr : Hid ((pd.take j).contains p = false) := hfr
                        clear hr
                        go_wp2_with fail
                        go_roundw
                        case rel =>
                          refine ⟨j + 1, by go_num, by omega, ?_, HXa.out⟩
                          rw [hstep.out, hfr.out, hnm.out]
                          simp
                        case measure => simp [intOfN]; omega
                  · have hj' : j = len5 := by omega
                    subst hj'
                    have e1 : n = (flB (fun _ => true) pd j).length := hbl.out.node.map.count _ (flB_nodup _ _ _) (fun x => by
                      rw [flB_mem, ← HH.out.2.1.1, List.take_length]
                      unfold fOf
                      by_cases c : pd.contains x = true
                      · rw [if_pos c]; simpa using c
                      · rw [if_neg c]; simpa using c)
                    have e2 : n3 = (flB (fun y => !ids.contains y) pd j).length := HX.out.1.map.count _ (flB_nodup _ _ _) (fun x => by
                      rw [flB_mem, ← HH.out.2.1.1, List.take_length]
                      unfold fOf still
                      cases h1 : ids.contains x <;> cases h2 : pd.contains x <;> simp_all)
                    have e3 := flB_add (fun y => ids.contains y) pd j
                    have hml := HX.out.1.map.len (P := Yba.prog) (mty := 56) Yba.underlying56
                    have bel := HX.out.2
                    generalize (flB (fun y => ids.contains y) pd j).length = fv at e3 hfl ⊢
                    have e4 : n = fv + n3 := by omega
                    clear e1 e2 e3 HX
                    have g6 : (n : Int) - (fv : Int) = (n3 : Int) := by omega
                    have g7 : (n : Int) - (n3 : Int) = (fv : Int) := by omega
                    have g8 : (n : Int) ≤ 3000 := by
                      have := hbl.out.le
                      have := HH.out.2.1.1
                      omega
                    replace e4 : Hid (n = fv + n3) := e4
                    go_wp2_with fail
                    go_ret
                    exact ⟨rfl, bel⟩
        · have hR := reply_other w.heap.size nb b n inc mi (fun y => pd.contains y) (.slice none 0 0) #[Value.int IntKind.u8 0, Value.int IntKind.u64 0, Value.int IntKind.i64 0, Value.bool false, Value.int IntKind.u64 0, Value.int IntKind.i64 0, Value.int IntKind.u64 0, Value.int IntKind.u64 0, Value.int IntKind.u64 idx, Value.int IntKind.i64 mi, Value.slice a' len4 cap', Value.slice none 0 0, Value.slice none 0 0, Value.int IntKind.u64 0, Value.int IntKind.u64 0, Value.int IntKind.u64 0, Value.slice none 0 0] W2 HL2.out.1.node hmi rfl
          have g1 : (mi == inc) = false := by simpa using hmi
          clear hmi
          have hbl : Hid (Below w.heap.size w W2) := HL2.out.1.bel
          clear c88 c90 c94 c86 hml HL2
          go_wp2_with fail
          refine hR.mono ?_
          rintro _ W3 ⟨rfl, hN, hB, hE⟩
          have bel := hbl.out.trans hB
          obtain ⟨_, c88, c90, c94, c86, _⟩ := hN.cells
          have hml := hN.map.len (P := Yba.prog) (mty := 56) Yba.underlying56
          clear hR hN hE hB
          go_wp2_with fail
          go_ret
          exact ⟨rfl, bel⟩
end Go.Proofs.Ybulkaehe
