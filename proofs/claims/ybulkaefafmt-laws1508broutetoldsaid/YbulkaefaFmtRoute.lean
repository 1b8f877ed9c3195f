import Derived.Test.YbulkaefaFmtCall2
import Derived.LaidEql
namespace Go.Proofs.YbulkaefaFmt
open Go.RowKit Go.MapKept Go.Extern.Stop Go.Stop Go.Extern

theorem Ybaf.info59 : (Ybaf.prog.info? 59).map (fun i => (i.zero, i.size, i.bytes)) = some (some (.pointer none), 1, 8) := by kernel_rfl
def intOf : Value → Int
  | .int _ q => q
  | _ => 0

theorem Mid.chan {w wr : World} {B R len : Nat} {ps : List ByteArray} {l : List (ByteArray × Nat)} (M : Mid w wr B R len ps l) (o : Obj) : Mid w (wr.alloc o) B R len ps l := by
  obtain ⟨n, hn⟩ := M.map
  obtain ⟨cs, h1, h2, h3⟩ := M.row
  exact ⟨M.fst, ⟨n, hn.kept (Below.heap_alloc _ _ _ hn.lt)⟩, ⟨cs, (Below.heap_alloc _ _ _ (Array.getElem?_eq_some_iff.1 h1).1).trans h1, h2, h3⟩, M.bel.alloc M.bel.size o, M.hB, M.hR, M.ne⟩
theorem Mid.turned {w wr wt : World} {B R len : Nat} {ps : List ByteArray} {l : List (ByteArray × Nat)} (M : Mid w wr B R len ps l) (c : Nat) (hc : w.heap.size + 2 ≤ c) (hB : B < w.heap.size + 2) (hR : R < w.heap.size + 2) (e2 : Below c wr wt) : Mid w wt B R len ps l := by
  obtain ⟨n, hn⟩ := M.map
  obtain ⟨cs, h1, h2, h3⟩ := M.row
  have k : ∀ i, i < c → wt.heap[i]? = wr.heap[i]? := fun i hi => e2.block i hi
  exact ⟨M.fst, ⟨n, hn.kept (k _ (by omega))⟩, ⟨cs, (k _ (by omega)).trans h1, h2, h3⟩, M.bel.trans (e2.mono (by omega)), M.hB, M.hR, M.ne⟩

theorem lt_of_some {w : World} {b : Nat} {o : Obj} (h : w.heap[b]? = some o) : b < w.heap.size := (Array.getElem?_eq_some_iff.1 h).1
theorem err_comp : (Ybaf.prog.info? 134).map (·.comparable) = some true := by kernel_rfl
theorem err_size : (Ybaf.prog.info? 136).map (·.size) = some 1 := by kernel_rfl
theorem err_same (W : World) (a : Addr) : (binOp .eql 42 (.iface 134 (.pointer (some a))) (.iface 134 (.pointer (some a)))).run Ybaf.prog W = .ok (.bool true) W := by
  obtain ⟨i, hi, hcmp⟩ := Option.map_eq_some_iff.1 err_comp
  obtain ⟨j, hj, hjs⟩ := Option.map_eq_some_iff.1 err_size
  exact run_eql_iface_ptr_same (P := Ybaf.prog) W a Ybaf.underlying42 Ybaf.underlying134 hi hcmp hj
theorem err_new {w W : World} {g : Nat} {a : Addr} {cx ca : Array Value} {tx ta : TypeId} (hg : w.heap.size ≤ g) (hx : W.heap[g]? = some (.cells cx tx (0, 0))) (ha : w.heap[a.block]? = some (.cells ca ta (0, 0))) (hk : W.heap[a.block]? = w.heap[a.block]?) :
    (binOp .neq 42 (.iface 134 (.pointer (some ⟨g, 0, none⟩))) (.iface 134 (.pointer (some a)))).run Ybaf.prog W = .ok (.bool true) W := by
  obtain ⟨i, hi, hcmp⟩ := Option.map_eq_some_iff.1 err_comp
  obtain ⟨j, hj, hjs⟩ := Option.map_eq_some_iff.1 err_size
  have hne : (⟨g, 0, none⟩ : Addr) ≠ a := by
    intro h
    have := lt_of_some ha
    rw [← h] at this
    exact absurd this (by simp; omega)
  simp only [binOp]
  simp [Op.equal, Op.maxDepth, run_equalIn_iface_ptr_other (P := Ybaf.prog) W 9998 Ybaf.underlying42 Ybaf.underlying134 hi hcmp hj (by rw [hjs]; decide) hne hx (hk.trans ha)]

theorem out_size : (Ybaf.prog.info? 76).map (·.size) = some 14 := by kernel_rfl
theorem ptr_same (W : World) (a : Addr) : (binOp .eql 59 (.pointer (some a)) (.pointer (some a))).run Ybaf.prog W = .ok (.bool true) W := by
  obtain ⟨j, hj, hjs⟩ := Option.map_eq_some_iff.1 out_size
  have h : ∀ d : Nat, (Op.equalIn (d + 1) 59 (.pointer (some a)) (.pointer (some a))).run Ybaf.prog W = .ok true W := fun d => by
    simp [Op.equalIn, run_underlying Ybaf.underlying59, sizeOf, typeInfo, hj, run_sameAddr_same]
  simp only [binOp]
  simp [Op.equal, Op.maxDepth, h 9999]

/-- All is laid. -/
structure Ready (w T : World) (len : Nat) (ss : List ByteArray) (l : List (ByteArray × Nat)) (tb c : Nat) (nm : ByteArray) (b7 : Bool) : Prop where
  mid : Mid w T w.heap.size (w.heap.size + 1) len ss l
  nam : T.cell? ⟨tb, 0, none⟩ = some (.string nm)
  out : T.cell? ⟨tb, 4, none⟩ = some (.map (some w.heap.size))
  don : T.cell? ⟨tb, 15, none⟩ = some (.chan (some c))
  chan : T.heap[c]? = some (.chan 0 #[] b7 0 0 false)

set_option maxHeartbeats 2000000 in
set_option maxRecDepth 100000 in
theorem law_look (a1 : Option Addr) (len cap : Nat) (ss : List ByteArray) (nm fm tg : ByteArray) (b4 b5 b7 : Bool) (x : Nat) (hx : x < 256) (w : World) (F : Interp) (hF : F.answers w.tape) (ea : Addr) (ec : Array Value) (et : TypeId) (hg : w.cell? ⟨0, 0, none⟩ = some (.iface 134 (.pointer (some ea)))) (heb : w.heap[ea.block]? = some (.cells ec et (0, 0))) (hlen : len ≤ 1024) (hs : ss.length = len)
   (hc : ∀ (i : Nat) (s : ByteArray), ss[i]? = some s → ∃ a, a1 = some a ∧ w.cell? (a.add i) = some (.string s)) :
    Calls Ybaf.prog 5 #[.string nm, .slice a1 len cap, .string fm, .string tg, .bool b4, .bool b5, .int .u8 (x : Int), .bool b7] w fun e w' => e = .returned (.bool true) ∧ Below w.heap.size w w' := by
  have hmm := @run_makeMap Ybaf.prog
  have hmc := mkChan
  obtain ⟨t59, e59, z59, s59, y59⟩ := info_parts Ybaf.info59
  have HC : Hid (ss.length = len ∧ ∀ (i : Nat) (s : ByteArray), ss[i]? = some s → ∃ a, a1 = some a ∧ w.cell? (a.add i) = some (.string s)) := ⟨hs, hc⟩
  have HG : Hid (F.answers w.tape ∧ w.cell? ⟨0, 0, none⟩ = some (.iface 134 (.pointer (some ea))) ∧ w.heap[ea.block]? = some (.cells ec et (0, 0))) := ⟨hF, hg, heb⟩
  clear hs hc hF hg heb
  go_enter Ybaf.func5, Ybaf.ntmps5
  go_wp2_with (at_make; refine wpList_make_full _ rfl _ _ 58 rfl 0 59 t59 _ 1 Ybaf.underlying58 e59 z59 s59 .i64 .i64 _ _ len rfl rfl rfl rfl (by rw [y59]; omega) (by unfold maxLen; omega) (by omega) ?_)
  intro W1 own1 gr1
  have M0 : Mid w W1 w.heap.size (w.heap.size + 1) len [] [] := by
    refine ⟨rfl, ⟨0, (MapAt.made w).kept (gr1.block _ (by simp) (by simp))⟩, ?_, ?_, Nat.le_refl _, by omega, by omega⟩
    · rcases own1.2 with ⟨h, _⟩ | ⟨g, cp, cur, hv, _, hh, _, _, hsz, _⟩
      · cases h
      · simp at hv
        obtain ⟨rfl, rfl⟩ := hv
        exact ⟨cur, hh, by simpa using hsz, fun j p g h => by simp at h⟩
    · exact Below.grown ((Below.refl _ w).alloc (Nat.le_refl _) _) gr1 (by simp) (fun k hk => by cases hk)
  have hM0 : Hid (Mid w W1 w.heap.size (w.heap.size + 1) len [] []) := M0
  clear M0 own1 gr1
  go_wp2_with fail
  go_loopw [39] (fun iv wr => ∃ (k : Nat) (l : List (ByteArray × Nat)), iv = .int .i64 k ∧ k ≤ len ∧ Hid (Mid w wr w.heap.size (w.heap.size + 1) len (ss.take k) l)) (fun iv _ => len - (intOf iv).toNat)
  case atStart => exact ⟨0, [], rfl, by omega, hM0⟩
  case round =>
    clear hM0
    obtain ⟨k, l, rfl, hk, HM⟩ := hrel
    by_cases hlt : k < len
    · obtain ⟨s, hs⟩ : ∃ s, ss[k]? = some s := ⟨_, List.getElem?_eq_getElem (by rw [HC.out.1]; exact hlt)⟩
      obtain ⟨a, rfl, hca⟩ := HC.out.2 k s hs
      have c1 : wr.cell? (a.add k) = some (.string s) := by
        rw [HM.out.bel.cell (World.block_lt_of_cell? _ _ hca)]; exact hca
      have i1 : (0 : Int) ≤ (k : Int) := by omega
      have i2 : (k : Int) < (len : Int) := by omega
      have hll : k = l.length := by
        have := congrArg List.length HM.out.fst
        have q := HC.out.1
        simp at this; omega
      have Hll : Hid (k = l.length) := hll
      clear hll
      obtain ⟨n, hn⟩ := HM.out.map
      obtain ⟨cs, r1, r2, r3⟩ := HM.out.row
      have hRlt : w.heap.size + 1 < wr.heap.size := (Array.getElem?_eq_some_iff.1 r1).1
      go_upto_region 9 with (fail)
      generalize hO : Obj.cells #[Value.string s, Value.nilIface, Value.chan none, Value.int IntKind.i32 0, Value.int IntKind.u32 0,
          Value.slice none 0 0, Value.slice none 0 0, Value.int IntKind.u64 0, Value.int IntKind.u64 0, Value.chan none,
          Value.int IntKind.u64 0, Value.bool false, Value.nilIface, Value.int IntKind.u64 0] 76 = O
      obtain ⟨L0, ⟨cs', L2, L3, L4⟩, L5⟩ := HM.out.laid O Hll.out hlt
      have d1 : (wr.alloc O).cell? ⟨w.heap.size + 1, k, none⟩ = some (cs[k]'(by omega)) := by
        rw [World.cell?_of_block (Below.heap_alloc _ _ _ hRlt)]
        simp [World.cell?, r1, r2, hlt]
      have d2 : (wr.alloc O).frozen? ⟨w.heap.size + 1, k, none⟩ = false := by
        rw [World.frozen?_of_block (Below.heap_alloc _ _ _ hRlt)]
        simp [World.frozen?, r1]
      clear hO
      generalize cs[k]'(by omega) = uu at d1
      obtain ⟨n', L1⟩ : ∃ n, MapAt Value.string ((wr.alloc O).setCell ⟨w.heap.size + 1, k, none⟩ (ptr wr.heap.size)) w.heap.size (held l) n := ⟨_, L0⟩
      clear L0
      have hf := HM.out.fst
      clear hn r1 r2 r3 hRlt HM c1
      generalize wr.alloc O = Wa at L1 L2 L5 d1 d2 ⊢
      generalize wr.heap.size = G at L1 L2 L4 L5 ⊢
      go_upto_region 10 with (fail)
      clear d1 d2
      unfold ptr at L1 L2 L5
      generalize Wa.setCell ⟨w.heap.size + 1, k, none⟩ (.pointer (some ⟨G, 0, none⟩)) = Wb at L1 L2 L5 ⊢
      obtain ⟨Wc, hrun, m1, m2, m3, m4⟩ := L1.store (P := Ybaf.prog) (mty := 57) Ybaf.underlying57 Ybaf.underlying9 (fun _ => trivial) str_inj s (.pointer (some ⟨G, 0, none⟩))
      go_wp2_with fail
      refine ⟨⟨k + 1, l ++ [(s, G)], by go_num, by omega, ?_⟩, by simp [intOf]; omega⟩
      refine ⟨?_, ⟨_, by rw [held_push]; exact m1⟩, ⟨cs', (m4 _ (by omega)).trans L2, L3, fun j p g h => L4 s p j g h⟩, L5.trans m2, Nat.le_refl _, by omega, by omega⟩
      rw [List.map_append, hf, List.take_add_one, hs]
      rfl
    · have hk' : k = len := by omega
      have HM1 : Hid (Mid w wr w.heap.size (w.heap.size + 1) len ss l) := by
        have := HM.out
        rw [hk', ← HC.out.1, List.take_length] at this
        rw [HC.out.1] at this
        exact this
      clear hk' HM
      go_upto_if 56 with (fail)
      go_cut [] (fun wc => Hid (Mid w wc w.heap.size (w.heap.size + 1) len ss l ∧ wc.heap[wr.heap.size]? = some (.chan 0 #[] b7 0 0 false)))
      case first =>
        have HM2 := HM1.out.chan (.chan 0 #[] false 0 0 false)
        have c1 := heap_alloc_new wr (.chan 0 #[] false 0 0 false)
        obtain ⟨cs, r1, _, _⟩ := HM1.out.row
        have hC : Hid (w.heap.size + 2 ≤ wr.heap.size) := (Array.getElem?_eq_some_iff.1 r1).1
        clear HM1 r1
        generalize wr.alloc (.chan 0 #[] false 0 0 false) = W2 at HM2 c1 ⊢
        cases b7 with
        | false =>
          go_wp2_with fail
          go_meet
          case rel => exact ⟨HM2, c1⟩
        | true =>
          obtain ⟨W3, hrun, e1, e2, e3, e4⟩ := shutChan #[62] 0 _ 0 0 0 false W2 c1
          go_wp2_with fail
          go_meet
          case rel => exact ⟨HM2.turned _ hC.out (by omega) (by omega) e2, e1⟩
      case rest =>
        clear HM1
        go_upto_region 17 with (fail)
        obtain ⟨HM3, hch⟩ := hcut.out
        clear hcut
        have ST : Hid (Ready w (wc.alloc (Obj.cells
            #[Value.string nm, Value.int IntKind.i64 0, Value.slice none 0 0, Value.map none,
              Value.map (some w.heap.size), Value.slice none 0 0, Value.slice none 0 0, Value.int IntKind.u64 0,
              Value.int IntKind.i32 0, Value.int IntKind.u32 0, Value.map none, Value.int IntKind.i64 0,
              Value.chan none, Value.chan none, Value.chan none, Value.chan (some wr.heap.size),
              Value.int IntKind.u32 0, Value.int IntKind.i32 0, Value.int IntKind.u32 0, Value.int IntKind.u64 0,
              Value.int IntKind.u32 0, Value.int IntKind.u64 0, Value.int IntKind.u32 0]
            99)) len ss l wc.heap.size wr.heap.size nm b7) := by
          refine ⟨HM3.chan _, ?_, ?_, ?_, (Below.heap_alloc _ _ _ (Array.getElem?_eq_some_iff.1 hch).1).trans hch⟩
          all_goals (rw [World.cell?, heap_alloc_new]; simp)
        have hts : wc.heap.size + 1 = (wc.alloc (Obj.cells
            #[Value.string nm, Value.int IntKind.i64 0, Value.slice none 0 0, Value.map none,
              Value.map (some w.heap.size), Value.slice none 0 0, Value.slice none 0 0, Value.int IntKind.u64 0,
              Value.int IntKind.i32 0, Value.int IntKind.u32 0, Value.map none, Value.int IntKind.i64 0,
              Value.chan none, Value.chan none, Value.chan none, Value.chan (some wr.heap.size),
              Value.int IntKind.u32 0, Value.int IntKind.i32 0, Value.int IntKind.u32 0, Value.int IntKind.u64 0,
              Value.int IntKind.u32 0, Value.int IntKind.u64 0, Value.int IntKind.u32 0]
            99)).heap.size := by simp
        clear HM3 hch
        rw [hts]
        generalize wc.alloc (Obj.cells
            #[Value.string nm, Value.int IntKind.i64 0, Value.slice none 0 0, Value.map none,
              Value.map (some w.heap.size), Value.slice none 0 0, Value.slice none 0 0, Value.int IntKind.u64 0,
              Value.int IntKind.i32 0, Value.int IntKind.u32 0, Value.map none, Value.int IntKind.i64 0,
              Value.chan none, Value.chan none, Value.chan none, Value.chan (some wr.heap.size),
              Value.int IntKind.u32 0, Value.int IntKind.i32 0, Value.int IntKind.u32 0, Value.int IntKind.u64 0,
              Value.int IntKind.u32 0, Value.int IntKind.u64 0, Value.int IntKind.u32 0]
            99) = T at ST hts ⊢
        clear hts
        go_upto_if 66 with (fail)
        go_cut [] (fun wd => ∃ f1, wd = T.alloc (Obj.cells #[Value.string f1, Value.string tg, Value.int IntKind.i64 0, Value.string { data := #[] }, Value.string { data := #[] }, Value.slice none 0 0, Value.map none, Value.int IntKind.u64 0, Value.slice none 0 0, Value.map none, Value.int IntKind.u64 0, Value.int IntKind.i64 0, Value.int IntKind.u64 0] 110))
        case first =>
          cases b4 with
          | false =>
            go_wp2_with fail
            go_meet
            case rel => exact ⟨_, rfl⟩
          | true =>
            go_wp2_with fail
            go_meet
            case rel => exact ⟨_, rfl⟩
        case rest =>
          obtain ⟨f1, rfl⟩ := hcut
          go_upto_region 19 with (fail)
          go_cut [74] (fun v wd => v = .bool (b5 && decide (0 < len)) ∧ wd = T.alloc (Obj.cells #[Value.string f1, Value.string tg, Value.int IntKind.i64 0, Value.string { data := #[] }, Value.string { data := #[] }, Value.slice none 0 0, Value.map none, Value.int IntKind.u64 0, Value.slice none 0 0, Value.map none, Value.int IntKind.u64 0, Value.int IntKind.i64 0, Value.int IntKind.u64 0] 110))
          case first =>
            cases b5 with
            | false =>
              go_wp2_with fail
              go_meet
              case rel => exact ⟨rfl, rfl⟩
            | true =>
              go_wp2_with fail
              go_meet
              case rel => exact ⟨by simp, rfl⟩
          case rest =>
            obtain ⟨rfl, rfl⟩ := hcut
            have hbb : Hid ((b5 && decide (0 < len)) = true → 0 < len) := by
              intro h
              simp at h
              exact h.2
            generalize (b5 && decide (0 < len)) = bb at hbb ⊢
            go_upto_if 74 with (fail)
            go_cut [] (fun wd => ∃ t1, wd = T.alloc (Obj.cells #[Value.string f1, Value.string t1, Value.int IntKind.i64 0, Value.string { data := #[] }, Value.string { data := #[] }, Value.slice none 0 0, Value.map none, Value.int IntKind.u64 0, Value.slice none 0 0, Value.map none, Value.int IntKind.u64 0, Value.int IntKind.i64 0, Value.int IntKind.u64 0] 110))
            case first =>
              cases bb with
              | false =>
                go_wp2_with fail
                go_meet
                case rel => exact ⟨_, rfl⟩
              | true =>
                have hp := hbb.out rfl
                clear hbb
                obtain ⟨s, hs⟩ : ∃ s, ss[x % len]? = some s := ⟨_, List.getElem?_eq_getElem (by rw [HC.out.1]; exact Nat.mod_lt _ hp)⟩
                obtain ⟨a, rfl, hca⟩ := HC.out.2 (x % len) s hs
                have hT := ST.out
                have c1 : ∀ o, (T.alloc o).cell? (a.add (x % len)) = some (.string s) := by
                  intro o
                  rw [(hT.mid.chan o).bel.cell (World.block_lt_of_cell? _ _ hca)]; exact hca
                have i1 : 0 ≤ (x : Int) % (len : Int) := Int.emod_nonneg _ (by omega)
                have i2 : (x : Int) % (len : Int) < (len : Int) := Int.emod_lt_of_pos _ (by omega)
                clear hT hca hs hp
                go_wp2_with fail
                go_meet
                case rel => exact ⟨_, rfl⟩
            case rest =>
              obtain ⟨t1, rfl⟩ := hcut
              clear hbb
              go_upto_region 24 with (fail)
              have RT := ST.out.mid.chan (Obj.cells #[Value.string f1, Value.string t1, Value.int IntKind.i64 0, Value.string { data := #[] }, Value.string { data := #[] }, Value.slice none 0 0, Value.map none, Value.int IntKind.u64 0, Value.slice none 0 0, Value.map none, Value.int IntKind.u64 0, Value.int IntKind.i64 0, Value.int IntKind.u64 0] 110)
              have q1 : (T.alloc (Obj.cells #[Value.string f1, Value.string t1, Value.int IntKind.i64 0, Value.string { data := #[] }, Value.string { data := #[] }, Value.slice none 0 0, Value.map none, Value.int IntKind.u64 0, Value.slice none 0 0, Value.map none, Value.int IntKind.u64 0, Value.int IntKind.i64 0, Value.int IntKind.u64 0] 110)).cell? ⟨T.heap.size, 1, none⟩ = some (.string t1) := by rw [World.cell?, heap_alloc_new]; simp
              generalize hT2 : (T.alloc (Obj.cells #[Value.string f1, Value.string t1, Value.int IntKind.i64 0, Value.string { data := #[] }, Value.string { data := #[] }, Value.slice none 0 0, Value.map none, Value.int IntKind.u64 0, Value.slice none 0 0, Value.map none, Value.int IntKind.u64 0, Value.int IntKind.i64 0, Value.int IntKind.u64 0] 110)) = T2 at RT q1 ⊢
              have hO : Hid (T.alloc (Obj.cells #[Value.string f1, Value.string t1, Value.int IntKind.i64 0, Value.string { data := #[] }, Value.string { data := #[] }, Value.slice none 0 0, Value.map none, Value.int IntKind.u64 0, Value.slice none 0 0, Value.map none, Value.int IntKind.u64 0, Value.int IntKind.i64 0, Value.int IntKind.u64 0] 110) = T2) := hT2
              clear hT2
              go_loopw [25, 26, 86] (fun wv fv iv wr => ∃ (i q : Nat), iv = .int .i64 i ∧ i ≤ len ∧ wv = (held (l.take i) t1).getD (.pointer none) ∧ fv = .bool (held (l.take i) t1).isSome ∧ wr = T2.drewN q) (fun _ _ iv _ => len - (intOf iv).toNat)
              case atStart => exact ⟨0, 0, rfl, by omega, rfl, rfl, rfl⟩
              case round =>
                obtain ⟨i, q, rfl, hi, rfl, rfl, rfl⟩ := hrel
                have hll : l.length = len := by
                  have := congrArg List.length RT.fst
                  have q := HC.out.1
                  simp at this; omega
                by_cases hlt2 : i < len
                · obtain ⟨s, hs⟩ : ∃ s, ss[i]? = some s := ⟨_, List.getElem?_eq_getElem (by rw [HC.out.1]; exact hlt2)⟩
                  obtain ⟨a, rfl, hca⟩ := HC.out.2 i s hs
                  have c1 : T2.cell? (a.add i) = some (.string s) := by
                    rw [RT.bel.cell (World.block_lt_of_cell? _ _ hca)]; exact hca
                  obtain ⟨pg, hpg⟩ : ∃ g, l[i]? = some (s, g) := by
                    obtain ⟨⟨p, g⟩, hp⟩ : ∃ e, l[i]? = some e := ⟨_, List.getElem?_eq_getElem (by omega)⟩
                    have := congrArg (·[i]?) RT.fst
                    simp [hp, hs] at this
                    exact ⟨g, by rw [hp, this]⟩
                  have htk : l.take (i + 1) = l.take i ++ [(s, pg)] := by rw [List.take_add_one, hpg]; rfl
                  obtain ⟨cs, r1, r2, r3⟩ := RT.row
                  have c2 : T2.cell? ⟨w.heap.size + 1, i, none⟩ = some (ptr pg) := by
                    rw [World.cell?, r1]
                    simp [r3 i s pg hpg]
                  clear RT r1 r2 r3 hca hs hpg hll
                  have i1 : (0 : Int) ≤ (i : Int) := by omega
                  have i2 : (i : Int) < (len : Int) := by omega
                  unfold ptr at c2
                  generalize hwv : (held (l.take i) t1).getD (.pointer none) = wv
                  generalize hfv : (held (l.take i) t1).isSome = fv
                  have hwv : Hid ((held (l.take i) t1).getD (.pointer none) = wv) := hwv
                  have hfv : Hid ((held (l.take i) t1).isSome = fv) := hfv
                  have hh : Hid (held (l.take (i + 1)) t1 = if t1 = s then some (ptr pg) else held (l.take i) t1) := by rw [htk, held_push]; rfl
                  clear htk
                  by_cases heq : s = t1
                  · have hq : (s.toList == t1.toList) = true := by rw [heq]; exact str_eq _
                    have heq : Hid (s = t1) := heq
                    go_upto_region 26 with (fail)
                    go_quiet (fail)
                    go_wp2_with fail
                    refine ⟨⟨i + 1, q + nq, by go_num, by omega, ?_, ?_, rfl⟩, by simp [intOf]; omega⟩
                    · rw [hh.out, if_pos heq.out.symm]; rfl
                    · rw [hh.out, if_pos heq.out.symm]; rfl
                  · have hq := str_ne heq
                    have heq : Hid (s ≠ t1) := heq
                    go_upto_region 26 with (fail)
                    go_quiet (fail)
                    go_wp2_with fail
                    refine ⟨⟨i + 1, q + nq, by go_num, by omega, ?_, ?_, rfl⟩, by simp [intOf]; omega⟩
                    · rw [hh.out, if_neg (Ne.symm heq.out)]; exact hwv.out.symm
                    · rw [hh.out, if_neg (Ne.symm heq.out)]; exact congrArg Value.bool hfv.out.symm
                · have hi' : i = len := by omega
                  have e1 : l.take i = l := by rw [hi', ← hll, List.take_length]
                  rw [e1]
                  clear e1 hi'
                  clear hll RT q1
                  obtain rfl := hO.out
                  clear hO
                  go_upto_region 30 with (fail)
                  have RD := ST.out
                  obtain ⟨hF, hg, heb⟩ := HG.out
                  have hlt0 : w.heap.size ≤ T.heap.size := RD.mid.bel.size
                  have hz : (#[Value.string f1, Value.string t1] ++ #[Value.int IntKind.i64 0, Value.string { data := #[] }, Value.string { data := #[] }, Value.slice none 0 0, Value.map none, Value.int IntKind.u64 0, Value.slice none 0 0, Value.map none, Value.int IntKind.u64 0, Value.int IntKind.i64 0, Value.int IntKind.u64 0] : Array Value) = #[Value.string f1, Value.string t1, Value.int IntKind.i64 0, Value.string { data := #[] }, Value.string { data := #[] }, Value.slice none 0 0, Value.map none, Value.int IntKind.u64 0, Value.slice none 0 0, Value.map none, Value.int IntKind.u64 0, Value.int IntKind.i64 0, Value.int IntKind.u64 0] := rfl
                  obtain ⟨n, hn⟩ := RD.mid.map
                  have bW : Below w.heap.size w ((T.alloc (Obj.cells #[Value.string f1, Value.string t1, Value.int IntKind.i64 0, Value.string { data := #[] }, Value.string { data := #[] }, Value.slice none 0 0, Value.map none, Value.int IntKind.u64 0, Value.slice none 0 0, Value.map none, Value.int IntKind.u64 0, Value.int IntKind.i64 0, Value.int IntKind.u64 0] 110)).drewN q) := below_drewN (RD.mid.bel.alloc hlt0 _) q
                  have kB : ∀ i, i < T.heap.size → ((T.alloc (Obj.cells #[Value.string f1, Value.string t1, Value.int IntKind.i64 0, Value.string { data := #[] }, Value.string { data := #[] }, Value.slice none 0 0, Value.map none, Value.int IntKind.u64 0, Value.slice none 0 0, Value.map none, Value.int IntKind.u64 0, Value.int IntKind.i64 0, Value.int IntKind.u64 0] 110)).drewN q).heap[i]? = T.heap[i]? := fun i hi => Below.heap_alloc _ _ _ hi
                  have k0 : ((T.alloc (Obj.cells #[Value.string f1, Value.string t1, Value.int IntKind.i64 0, Value.string { data := #[] }, Value.string { data := #[] }, Value.slice none 0 0, Value.map none, Value.int IntKind.u64 0, Value.slice none 0 0, Value.map none, Value.int IntKind.u64 0, Value.int IntKind.i64 0, Value.int IntKind.u64 0] 110)).drewN q).cell? ⟨wc.heap.size, 0, none⟩ = some (.string nm) := by
                    rw [World.cell?_of_block (kB _ (World.block_lt_of_cell? _ _ RD.nam))]; exact RD.nam
                  have k4 : ((T.alloc (Obj.cells #[Value.string f1, Value.string t1, Value.int IntKind.i64 0, Value.string { data := #[] }, Value.string { data := #[] }, Value.slice none 0 0, Value.map none, Value.int IntKind.u64 0, Value.slice none 0 0, Value.map none, Value.int IntKind.u64 0, Value.int IntKind.i64 0, Value.int IntKind.u64 0] 110)).drewN q).cell? ⟨wc.heap.size, 4, none⟩ = some (.map (some w.heap.size)) := by
                    rw [World.cell?_of_block (kB _ (World.block_lt_of_cell? _ _ RD.out))]; exact RD.out
                  have k15 : ((T.alloc (Obj.cells #[Value.string f1, Value.string t1, Value.int IntKind.i64 0, Value.string { data := #[] }, Value.string { data := #[] }, Value.slice none 0 0, Value.map none, Value.int IntKind.u64 0, Value.slice none 0 0, Value.map none, Value.int IntKind.u64 0, Value.int IntKind.i64 0, Value.int IntKind.u64 0] 110)).drewN q).cell? ⟨wc.heap.size, 15, none⟩ = some (.chan (some wr.heap.size)) := by
                    rw [World.cell?_of_block (kB _ (World.block_lt_of_cell? _ _ RD.don))]; exact RD.don
                  have kc : ((T.alloc (Obj.cells #[Value.string f1, Value.string t1, Value.int IntKind.i64 0, Value.string { data := #[] }, Value.string { data := #[] }, Value.slice none 0 0, Value.map none, Value.int IntKind.u64 0, Value.slice none 0 0, Value.map none, Value.int IntKind.u64 0, Value.int IntKind.i64 0, Value.int IntKind.u64 0] 110)).drewN q).heap[wr.heap.size]? = some (.chan 0 #[] b7 0 0 false) := (kB _ (Array.getElem?_eq_some_iff.1 RD.chan).1).trans RD.chan
                  have km := hn.kept (w' := ((T.alloc (Obj.cells #[Value.string f1, Value.string t1, Value.int IntKind.i64 0, Value.string { data := #[] }, Value.string { data := #[] }, Value.slice none 0 0, Value.map none, Value.int IntKind.u64 0, Value.slice none 0 0, Value.map none, Value.int IntKind.u64 0, Value.int IntKind.i64 0, Value.int IntKind.u64 0] 110)).drewN q)) (kB _ hn.lt)
                  have kF : F.answers ((T.alloc (Obj.cells #[Value.string f1, Value.string t1, Value.int IntKind.i64 0, Value.string { data := #[] }, Value.string { data := #[] }, Value.slice none 0 0, Value.map none, Value.int IntKind.u64 0, Value.slice none 0 0, Value.map none, Value.int IntKind.u64 0, Value.int IntKind.i64 0, Value.int IntKind.u64 0] 110)).drewN q).tape := by rw [bW.tape]; exact hF
                  have kg : ((T.alloc (Obj.cells #[Value.string f1, Value.string t1, Value.int IntKind.i64 0, Value.string { data := #[] }, Value.string { data := #[] }, Value.slice none 0 0, Value.map none, Value.int IntKind.u64 0, Value.slice none 0 0, Value.map none, Value.int IntKind.u64 0, Value.int IntKind.i64 0, Value.int IntKind.u64 0] 110)).drewN q).cell? ⟨0, 0, none⟩ = some (.iface 134 (.pointer (some ea))) := by rw [bW.cell (World.block_lt_of_cell? _ _ hg)]; exact hg
                  have kp : ((T.alloc (Obj.cells #[Value.string f1, Value.string t1, Value.int IntKind.i64 0, Value.string { data := #[] }, Value.string { data := #[] }, Value.slice none 0 0, Value.map none, Value.int IntKind.u64 0, Value.slice none 0 0, Value.map none, Value.int IntKind.u64 0, Value.int IntKind.i64 0, Value.int IntKind.u64 0] 110)).drewN q).cell? ⟨T.heap.size, 0, none⟩ = some (.string f1) := by
                    show (T.alloc (Obj.cells #[Value.string f1, Value.string t1, Value.int IntKind.i64 0, Value.string { data := #[] }, Value.string { data := #[] }, Value.slice none 0 0, Value.map none, Value.int IntKind.u64 0, Value.slice none 0 0, Value.map none, Value.int IntKind.u64 0, Value.int IntKind.i64 0, Value.int IntKind.u64 0] 110)).cell? _ = _
                    rw [World.cell?, heap_alloc_new]; simp
                  have hge : w.heap.size ≤ ((T.alloc (Obj.cells #[Value.string f1, Value.string t1, Value.int IntKind.i64 0, Value.string { data := #[] }, Value.string { data := #[] }, Value.slice none 0 0, Value.map none, Value.int IntKind.u64 0, Value.slice none 0 0, Value.map none, Value.int IntKind.u64 0, Value.int IntKind.i64 0, Value.int IntKind.u64 0] 110)).drewN q).heap.size := bW.size
                  clear hn kB hF RD ST HG hk hi hlt2 hlt
                  have kpl : (⟨T.heap.size, 0, none⟩ : Addr).block < ((T.alloc (Obj.cells #[Value.string f1, Value.string t1, Value.int IntKind.i64 0, Value.string { data := #[] }, Value.string { data := #[] }, Value.slice none 0 0, Value.map none, Value.int IntKind.u64 0, Value.slice none 0 0, Value.map none, Value.int IntKind.u64 0, Value.int IntKind.i64 0, Value.int IntKind.u64 0] 110)).drewN q).heap.size := by simp
                  have kgl : (⟨0, 0, none⟩ : Addr).block < w.heap.size := World.block_lt_of_cell? _ _ hg
                  clear hg
                  by_cases hne : f1 = nm
                  · subst hne
                    have hq := str_eq f1
                    cases hv : held l t1 with
                    | none =>
                      have hr := route_to wc.heap.size w.heap.size n (held l) f1 t1 #[Value.int IntKind.i64 0, Value.string { data := #[] }, Value.string { data := #[] }, Value.slice none 0 0, Value.map none, Value.int IntKind.u64 0, Value.slice none 0 0, Value.map none, Value.int IntKind.u64 0, Value.int IntKind.i64 0, Value.int IntKind.u64 0] _ k0 k4 km F kF hv
                      rw [hz] at hr
                      clear hz k0 k4 k15 kc km kF hv
                      go_wp2_with fail
                      refine hr.mono ?_
                      rintro _ W5 ⟨g, rfl, hgg, ⟨etext, hge5⟩, b5'⟩
                      have p5 := kp
                      rw [← b5'.cell kpl] at p5
                      have g5 := kg
                      rw [← b5'.cell (Nat.lt_of_lt_of_le kgl hge)] at g5
                      have bel := bW.trans (b5'.mono hge)
                      have heq5 := err_new (Nat.le_trans hge hgg) hge5 heb (bel.block _ (lt_of_some heb))
                      clear hr kp kg kpl kgl hge bW b5' hgg heb hge5
                      go_wp2_with fail
                      go_ret
                      exact ⟨rfl, bel⟩
                    | some v =>
                      cases b7 with
                      | true =>
                        have hr := route_shut wc.heap.size w.heap.size n (held l) f1 t1 #[Value.int IntKind.i64 0, Value.string { data := #[] }, Value.string { data := #[] }, Value.slice none 0 0, Value.map none, Value.int IntKind.u64 0, Value.slice none 0 0, Value.map none, Value.int IntKind.u64 0, Value.int IntKind.i64 0, Value.int IntKind.u64 0] _ k0 k4 km v hv wr.heap.size 0 0 0 false k15 kc _ kg
                        rw [hz] at hr
                        clear hz k0 k4 k15 kc km kF hv
                        go_wp2_with fail
                        refine hr.mono ?_
                        rintro _ W5 ⟨rfl, b5'⟩
                        have p5 := kp
                        rw [← b5'.cell kpl] at p5
                        have g5 := kg
                        rw [← b5'.cell (Nat.lt_of_lt_of_le kgl hge)] at g5
                        have bel := bW.trans (b5'.mono hge)
                        have heq5 := err_same W5 ea
                        clear hr kp kg kpl kgl hge bW b5' heb
                        go_wp2_with fail
                        go_ret
                        exact ⟨rfl, bel⟩
                      | false =>
                        have hr := route_found wc.heap.size w.heap.size n (held l) f1 t1 #[Value.int IntKind.i64 0, Value.string { data := #[] }, Value.string { data := #[] }, Value.slice none 0 0, Value.map none, Value.int IntKind.u64 0, Value.slice none 0 0, Value.map none, Value.int IntKind.u64 0, Value.int IntKind.i64 0, Value.int IntKind.u64 0] _ k0 k4 km v hv wr.heap.size 0 0 0 false k15 kc
                        rw [hz] at hr
                        obtain ⟨gv, rfl⟩ : ∃ g, v = ptr g := by
                          unfold held at hv
                          cases hh : lastOf l t1 with
                          | none => rw [hh] at hv; cases hv
                          | some g => rw [hh] at hv; exact ⟨g, (Option.some.inj hv).symm⟩
                        unfold ptr at *
                        clear hz k0 k4 k15 kc km kF hv
                        go_wp2_with fail
                        refine hr.mono ?_
                        rintro _ W5 ⟨rfl, b5'⟩
                        have p5 := kp
                        rw [← b5'.cell kpl] at p5
                        have g5 := kg
                        rw [← b5'.cell (Nat.lt_of_lt_of_le kgl hge)] at g5
                        have bel := bW.trans (b5'.mono hge)
                        have heq5 := ptr_same W5 ⟨gv, 0, none⟩
                        clear hr kp kg kpl kgl hge bW b5' heb g5
                        go_wp2_with fail
                        go_ret
                        exact ⟨rfl, bel⟩
                  · have hr := route_from F wc.heap.size w.heap.size n (held l) nm f1 t1 #[Value.int IntKind.i64 0, Value.string { data := #[] }, Value.string { data := #[] }, Value.slice none 0 0, Value.map none, Value.int IntKind.u64 0, Value.slice none 0 0, Value.map none, Value.int IntKind.u64 0, Value.int IntKind.i64 0, Value.int IntKind.u64 0] _ kF k0 k4 km hne
                    have hq := str_ne hne
                    rw [hz] at hr
                    clear hz k0 k4 k15 kc km kF hne
                    go_wp2_with fail
                    refine hr.mono ?_
                    rintro _ W5 ⟨g, rfl, hgg, ⟨etext, hge5⟩, b5'⟩
                    have p5 := kp
                    rw [← b5'.cell kpl] at p5
                    have g5 := kg
                    rw [← b5'.cell (Nat.lt_of_lt_of_le kgl hge)] at g5
                    have bel := bW.trans (b5'.mono hge)
                    have heq5 := err_new (Nat.le_trans hge hgg) hge5 heb (bel.block _ (lt_of_some heb))
                    clear hr kp kg kpl kgl hge bW b5' hgg heb hge5
                    go_wp2_with fail
                    go_ret
                    exact ⟨rfl, bel⟩
end Go.Proofs.YbulkaefaFmt
