/-
  LawS1512BForget: the law's walk.
-/
import Derived.Test.YbulkaehePure
import Derived.Laws.Tables
namespace Go.Proofs.Ybulkaehe
open Go.RowKit Go.MapKept

theorem Yba.info5 : (Yba.prog.info? 5).map (fun i => (i.zero, i.size, i.bytes)) = some (some (.int .u8 0), 1, 1) := by kernel_rfl
def intOf : Value → Int
  | .int _ q => q
  | _ => 0
/-- What the walk is told of the slots. -/
def IsKeys (w : World) (a : Option Addr) (len : Nat) (ks : List Int) : Prop :=
  ks.length = len ∧ ∀ (i : Nat) (k : Int), ks[i]? = some k → ∃ x, a = some x ∧ w.cell? (x.add i) = some (.int .u64 k)
theorem IsLens.kept {w wr : World} {a : Option Addr} {len : Nat} {ls : List Nat} (h : IsLens w a len ls) (b : Below w.heap.size w wr) : IsLens wr a len ls := by
  refine ⟨h.1, h.2.1, fun i n hn => ?_⟩
  obtain ⟨h1, x, rfl, hc⟩ := h.2.2 i n hn
  exact ⟨h1, x, rfl, by rw [b.cell (World.block_lt_of_cell? _ _ hc)]; exact hc⟩
theorem IsLens.lt {w : World} {a : Option Addr} {len : Nat} {ls : List Nat} (h : IsLens w a len ls) (i : Nat) : lenAt ls i < 256 := by
  unfold lenAt
  rw [List.getD_eq_getElem?_getD]
  cases e : ls[i]? with
  | none => simp
  | some n => exact (h.2.2 i n e).1

theorem node_cells (B : Nat) (x : Int) : (Yba.prog.built 68 [(22, .map (some B)), (23, .int .i64 x)]).map (fun c => (c[25]?, c[26]?)) = some (some (.map (some B)), some (.int .i64 x)) := by kernel_rfl

theorem wp_built {o : Oper} {a : Act} {w : World} {K : Act → World → Prop} {Q : Exit → Act → World → Prop} (t i j : Nat) (x y : Operand) (ho : o.op = .build t #[(i, x), (j, y)]) (vx vy : Value) (hx : a.eval x = vx) (hy : a.eval y = vy) (cells : Array Value)
    (hc : Yba.prog.built t [(i, vx), (j, vy)] = some cells) (h : K (a.put o.dst (.agg cells)) w) : o.wp Yba.prog a w K Q := by
  subst hx hy
  have e : Yba.prog.built t ((#[(i, x), (j, y)] : Array (Nat × Operand)).map fun (i, x) => (i, a.eval x)).toList = some cells := by simpa using hc
  exact wp_build t _ ho (by rw [e]; rfl) (by rw [e]; exact h)

/-- Behind forgetAccepted. -/
structure After (w W : World) (B nb : Nat) (ps : List (Int × Nat)) (n : Nat) (s wt : Int) : Prop where
  c25 : W.cell? ⟨nb, 25, none⟩ = some (.map (some B))
  c26 : W.cell? ⟨nb, 26, none⟩ = some (.int .i64 (wOf wt (lastN ps s)))
  map : ∃ f, MapAt key W B f (cnt n ps s) ∧ f s = none ∧ ∀ x, x ≠ s → ∀ m, lastN ps x = some m → ∃ b, f x = some (acc x m b)
  bel : Below w.heap.size w W
theorem After.alloc {w W : World} {B nb : Nat} {ps : List (Int × Nat)} {n : Nat} {s wt : Int} (h : After w W B nb ps n s wt) (o : Obj) : After w (W.alloc o) B nb ps n s wt := by
  have hlt : nb < W.heap.size := World.block_lt_of_cell? _ _ h.c25
  obtain ⟨f, m1, m2, m3⟩ := h.map
  exact ⟨by rw [World.cell?_of_block (Below.heap_alloc _ _ _ hlt)]; exact h.c25, by rw [World.cell?_of_block (Below.heap_alloc _ _ _ hlt)]; exact h.c26,
    ⟨f, m1.kept (Below.heap_alloc _ _ _ m1.lt), m2, m3⟩, h.bel.alloc h.bel.size o⟩

theorem opt_two (o : Option Nat) : Hid (o = none) ∨ ∃ m, Hid (o = some m) := by
  cases o with
  | none => exact .inl rfl
  | some m => exact .inr ⟨m, rfl⟩

/-- Behind i rounds of the first loop. -/
structure Mid (w wr : World) (B : Nat) (ps : List (Int × Nat)) (i : Nat) : Prop where
  map : ∃ f, MapAt key wr B f (dist i ps) ∧ Holds f (ps.take i)
  bel : Below w.heap.size w wr
  hB : w.heap.size ≤ B

set_option maxHeartbeats 4000000 in
set_option maxRecDepth 100000 in
theorem forget_law (a0 : Option Addr) (len0 cap0 : Nat) (ks : List Int) (a1 : Option Addr) (len1 cap1 : Nat) (ls : List Nat) (q : Int) (sel : Nat) (hsel : sel < 256) (wt : Int) (w : World) (hlen : len0 ≤ 256) (hk : IsKeys w a0 len0 ks) (hl : IsLens w a1 len1 ls) :
    Calls Yba.prog 3 #[.slice a0 len0 cap0, .slice a1 len1 cap1, .int .u64 q, .int .u8 (sel : Int), .int .i64 wt] w fun e w' => e = .returned (.bool true) ∧ Below w.heap.size w w' := by
  have hmm := @run_makeMap Yba.prog
  obtain ⟨t5, e5, z5, s5, y5⟩ := info_parts Yba.info5
  have HK : Hid (IsKeys w a0 len0 ks ∧ IsLens w a1 len1 ls) := ⟨hk, hl⟩
  have hps : Hid ((pairs ks ls).length = len0 ∧ ∀ (i : Nat) (e : Int × Nat), (pairs ks ls)[i]? = some e → e.2 < 256) := by
    refine ⟨by rw [pairs_len]; exact hk.1, fun i e he => ?_⟩
    have hi : i < ks.length := by rw [← pairs_len ks ls]; exact (List.getElem?_eq_some_iff.1 he).1
    obtain ⟨k, hk'⟩ : ∃ k, ks[i]? = some k := ⟨_, List.getElem?_eq_getElem hi⟩
    rw [pairs_at hk'] at he
    cases he
    exact hl.lt i
  clear hk hl
  have M0 : Hid (Mid w (w.alloc (.map #[] 0)) w.heap.size (pairs ks ls) 0) :=
    ⟨⟨fun _ => none, MapAt.made w, fun x => rfl⟩, (Below.refl _ w).alloc (Nat.le_refl _) _, Nat.le_refl _⟩
  go_enter Yba.func3, Yba.ntmps3
  go_upto_region 5 with (fail)
  generalize w.alloc (.map #[] 0) = W1 at M0 ⊢
  go_loopw [37] (fun iv wr => ∃ (i : Nat), iv = .int .i64 i ∧ i ≤ len0 ∧ Hid (Mid w wr w.heap.size (pairs ks ls) i)) (fun iv _ => len0 - (intOf iv).toNat)
  case atStart => exact ⟨0, rfl, by omega, M0⟩
  case round =>
    clear M0
    obtain ⟨i, rfl, hi, HM⟩ := hrel
    by_cases hlt : i < len0
    · obtain ⟨k, hk⟩ : ∃ k, ks[i]? = some k := ⟨_, List.getElem?_eq_getElem (by rw [HK.out.1.1]; exact hlt)⟩
      obtain ⟨a, rfl, hca⟩ := HK.out.1.2 i k hk
      have hpi : Hid ((pairs ks ls)[i]? = some (k, lenAt ls i)) := pairs_at hk
      have c1 : wr.cell? (a.add i) = some (.int .u64 k) := by
        rw [HM.out.bel.cell (World.block_lt_of_cell? _ _ hca)]; exact hca
      have i1 : (0 : Int) ≤ (i : Int) := by omega
      have i2 : (i : Int) < (len0 : Int) := by omega
      have hz := HK.out.2.kept HM.out.bel
      have hzl := HK.out.2.lt i
      clear hca hk
      go_wp2_with fail
      refine (zlen a1 len1 cap1 ls i wr hz).mono ?_
      rintro _ wr ⟨rfl, rfl⟩
      go_wp2_with (at_make; refine wpList_make_full _ rfl _ _ 23 rfl 0 5 t5 _ 1 Yba.underlying23 e5 z5 s5 .i64 .i64 _ _ (lenAt ls i) rfl rfl rfl rfl (by rw [y5]; omega) (by unfold maxLen; omega) (by omega) ?_)
      intro W2 own2 gr2
      obtain ⟨f, hmf, hho⟩ := HM.out.map
      have hmf2 := hmf.kept (gr2.block _ hmf.lt (fun h => by cases h))
      have bel2 : Below w.heap.size w W2 := HM.out.bel.grown gr2 HM.out.bel.size (fun k hk => by cases hk)
      have HB := HM.out.hB
      obtain ⟨W3, hrun, m1, m2, m3, m4⟩ := hmf2.store (P := Yba.prog) (mty := 25) Yba.underlying25 Yba.underlying24 key_is key_inj k (.agg #[.int .u64 k, .int .i64 0, .slice (some ⟨wr.heap.size, 0, none⟩) (lenAt ls i) (lenAt ls i)])
      unfold key at hrun
      have HM3 : Hid (Mid w W3 w.heap.size (pairs ks ls) (i + 1)) := by
        refine ⟨⟨_, ?_, hho.push hpi.out (some ⟨wr.heap.size, 0, none⟩)⟩, bel2.trans m2, HB⟩
        have e : dist (i + 1) (pairs ks ls) = dist i (pairs ks ls) + (if (f k).isSome then 0 else 1) := by
          rw [hho.isSome]
          conv => lhs; unfold dist
          rw [hpi.out]
        rw [e]
        exact m1
      clear hmf hmf2 hho m1 m2 m3 m4 own2 gr2 HM c1 hz
      go_wp2_with fail
      exact ⟨⟨i + 1, by go_num, by omega, HM3⟩, by simp [intOf]; omega⟩
    · have hk' : i = len0 := by omega
      have HM1 : Hid (Mid w wr w.heap.size (pairs ks ls) len0) := by rw [← hk']; exact HM
      clear hk' HM
      go_upto_region 10 with (fail)
      go_cut [60] (fun v wd => ∃ bb, v = .bool bb ∧ Hid (bb = true → 0 < len0) ∧ wd = wr)
      case first =>
        by_cases hm2 : sel % 2 = 0
        · have g1 : ((sel : Int) % 2 == 0) = true := by simp; omega
          go_wp2_with fail
          go_meet
          case rel => exact ⟨_, rfl, fun h => by simpa using h, rfl⟩
        · have g1 : ((sel : Int) % 2 == 0) = false := by simp; omega
          go_wp2_with fail
          go_meet
          case rel => exact ⟨_, rfl, fun h => by simp at h, rfl⟩
      case rest =>
        obtain ⟨bb, rfl, hbb, rfl⟩ := hcut
        go_upto_if 60 with (fail)
        go_cut [14] (fun v wd => ∃ s : Int, v = .int .u64 s ∧ wd = wc)
        case first =>
          cases bb with
          | false =>
            go_wp2_with fail
            go_meet
            case rel => exact ⟨_, rfl, rfl⟩
          | true =>
            have hp := hbb.out rfl
            clear hbb
            obtain ⟨k, hk⟩ : ∃ k, ks[sel / 2 % len0]? = some k := ⟨_, List.getElem?_eq_getElem (by rw [HK.out.1.1]; exact Nat.mod_lt _ hp)⟩
            obtain ⟨a, rfl, hca⟩ := HK.out.1.2 _ k hk
            have c1 : wc.cell? (a.add (sel / 2 % len0)) = some (.int .u64 k) := by
              rw [HM1.out.bel.cell (World.block_lt_of_cell? _ _ hca)]; exact hca
            have i1 : 0 ≤ (sel : Int) / 2 % (len0 : Int) := Int.emod_nonneg _ (by omega)
            have i2 : (sel : Int) / 2 % (len0 : Int) < (len0 : Int) := Int.emod_lt_of_pos _ (by omega)
            clear hca hk hp
            go_wp2_with fail
            go_meet
            case rel => exact ⟨_, rfl, rfl⟩
        case rest =>
          obtain ⟨s, rfl, rfl⟩ := hcut
          clear hbb
          go_upto_region 14 with (fail)
          have hz := (show Hid (IsLens wc a1 len1 ls) from HK.out.2.kept HM1.out.bel)
          go_loopw [15, 72] (fun ev iv wr => ∃ (j : Nat), iv = .int .i64 j ∧ j ≤ len0 ∧ ev = .int .i64 (eOf (lastN ((pairs ks ls).take j) s)) ∧ wr = wc) (fun _ iv _ => len0 - (intOf iv).toNat)
          case atStart => exact ⟨0, rfl, by omega, rfl, rfl⟩
          case round =>
            obtain ⟨j, rfl, hj, rfl, rfl⟩ := hrel
            by_cases hlt2 : j < len0
            · obtain ⟨k, hk⟩ : ∃ k, ks[j]? = some k := ⟨_, List.getElem?_eq_getElem (by rw [HK.out.1.1]; exact hlt2)⟩
              obtain ⟨a, rfl, hca⟩ := HK.out.1.2 j k hk
              have hpi : Hid ((pairs ks ls)[j]? = some (k, lenAt ls j)) := pairs_at hk
              have c1 : wr.cell? (a.add j) = some (.int .u64 k) := by
                rw [HM1.out.bel.cell (World.block_lt_of_cell? _ _ hca)]; exact hca
              have i1 : (0 : Int) ≤ (j : Int) := by omega
              have i2 : (j : Int) < (len0 : Int) := by omega
              clear hca hk
              generalize he : eOf (lastN ((pairs ks ls).take j) s) = ev
              have he : Hid (eOf (lastN ((pairs ks ls).take j) s) = ev) := he
              by_cases hks : k = s
              · have g1 : (k == s) = true := by simpa using hks
                have hks : Hid (k = s) := hks
                go_wp2_with fail
                refine (zlen a1 len1 cap1 ls j wr hz.out).mono ?_
                rintro _ wr ⟨rfl, rfl⟩
                go_wp2_with fail
                refine ⟨⟨j + 1, by go_num, by omega, ?_, trivial⟩, by simp [intOf]; omega⟩
                rw [lastN_take hpi.out, if_pos hks.out.symm]
                rfl
              · have g1 : (k == s) = false := by simpa using hks
                have hks : Hid (k ≠ s) := hks
                go_wp2_with fail
                refine ⟨⟨j + 1, by go_num, by omega, ?_, trivial⟩, by simp [intOf]; omega⟩
                rw [lastN_take hpi.out, if_neg (Ne.symm hks.out), he.out]
            · have hj' : j = len0 := by omega
              have e1 : (pairs ks ls).take j = pairs ks ls := by rw [hj', ← hps.out.1, List.take_length]
              rw [e1]
              clear e1 hj'
              obtain ⟨cells, hb1, hb2⟩ := Option.map_eq_some_iff.1 (node_cells w.heap.size wt)
              go_upto_region 20 with (fail)
              refine wp_built 68 22 23 _ _ rfl _ _ rfl rfl cells (by exact hb1) ?_
              clear hb1
              go_upto_region 20 with (fail)
              have k25 : cells[25]? = some (.map (some w.heap.size)) := congrArg Prod.fst hb2
              have k26 : cells[26]? = some (.int .i64 wt) := congrArg Prod.snd hb2
              have T25 : (wr.alloc (.cells cells 68)).cell? ⟨wr.heap.size, 25, none⟩ = some (.map (some w.heap.size)) := by rw [World.cell?, heap_alloc_new]; simpa using k25
              have T26 : (wr.alloc (.cells cells 68)).cell? ⟨wr.heap.size, 26, none⟩ = some (.int .i64 wt) := by rw [World.cell?, heap_alloc_new]; simpa using k26
              have Tfz : (wr.alloc (.cells cells 68)).frozen? ⟨wr.heap.size, 26, none⟩ = false := by rw [World.frozen?, heap_alloc_new]; simp
              have TB : Below w.heap.size w (wr.alloc (.cells cells 68)) := HM1.out.bel.alloc HM1.out.bel.size _
              have TH : Hid (∃ f, MapAt key (wr.alloc (.cells cells 68)) w.heap.size f (dist len0 (pairs ks ls)) ∧ Holds f (pairs ks ls)) := by
                obtain ⟨f, m1, m2⟩ := HM1.out.map
                rw [← hps.out.1, List.take_length] at m2
                exact ⟨f, m1.kept (Below.heap_alloc _ _ _ m1.lt), m2⟩
              have TN : wr.heap.size ≠ w.heap.size := by
                obtain ⟨f, m1, m2⟩ := HM1.out.map
                have := m1.lt
                omega
              have TL : w.heap.size ≤ wr.heap.size := HM1.out.bel.size
              clear hb2 k25 k26 HM1
              generalize wr.alloc (.cells cells 68) = T at T25 T26 Tfz TB TH ⊢
              generalize hNB : wr.heap.size = NB at T25 T26 Tfz TN TL ⊢
              clear hNB
              have T25 : Hid (T.cell? ⟨NB, 25, none⟩ = some (.map (some w.heap.size))) := T25
              have T26 : Hid (T.cell? ⟨NB, 26, none⟩ = some (.int .i64 wt)) := T26
              have Tfz : Hid (T.frozen? ⟨NB, 26, none⟩ = false) := Tfz
              have TN : Hid (NB ≠ w.heap.size) := TN
              have hdc := dist_cnt (pairs ks ls) s len0
              rw [← hps.out.1, List.take_length, hps.out.1] at hdc
              have hdc : Hid _ := hdc
              go_cut [] (fun wd => Hid (After w wd w.heap.size NB (pairs ks ls) len0 s wt))
              case first =>
                obtain ⟨f, m1, m2⟩ := TH.out
                obtain hls | ⟨m, hls⟩ := opt_two (lastN (pairs ks ls) s)
                · have hfs := m2.off hls.out
                  go_wp2_with fail
                  refine (forget_none NB _ _ f s T T25.out m1 hfs).mono ?_
                  rintro _ W5 ⟨rfl, o, rfl⟩
                  go_wp2_with fail
                  go_meet
                  case rel =>
                    refine After.alloc ⟨T25.out, ?_, ⟨f, ?_, hfs, fun x hx m e => m2.on e⟩, TB⟩ o
                    · rw [hls.out]; exact T26.out
                    · have := hdc.out
                      rw [hls.out] at this
                      simp at this
                      rw [← this]; exact m1
                · obtain ⟨b, hfs⟩ := m2.on hls.out
                  have hm256 := lastN_lt hps.out.2 hls.out
                  go_wp2_with fail
                  refine (forget_some NB _ _ m b wt f s T T25.out T26.out Tfz.out m1 hfs hm256 TN.out w.heap.size TL (Nat.le_refl _)).mono ?_
                  rintro _ W5 ⟨rfl, q1, q2, q3, q4⟩
                  go_wp2_with fail
                  go_meet
                  case rel =>
                    refine ⟨q1, ?_, ⟨fun y => if y = s then none else f y, ?_, if_pos rfl, fun x hx m' e => ?_⟩, TB.trans q4⟩
                    · rw [hls.out]; exact q2
                    · have := hdc.out
                      rw [hls.out] at this
                      simp at this
                      rw [this] at q3
                      exact q3
                    · obtain ⟨b', hb'⟩ := m2.on e
                      exact ⟨b', by simp only [if_neg hx]; exact hb'⟩
              case rest =>
                clear TH T25 T26 Tfz TB
                obtain ⟨f, m1, m2, m3⟩ := hcut.out.map
                have hl := m1.look (P := Yba.prog) (mty := 25) Yba.underlying25 Yba.underlying24 key_is key_inj (zero30 _) s
                rw [m2] at hl
                unfold key at hl
                have d25 := hcut.out.c25
                go_upto_region 24 with (fail)
                have HA := hcut.out.alloc (.cells #[.int .u64 0, .int .i64 0, .slice none 0 0] 30)
                have HA : Hid (After w (wc.alloc (.cells #[.int .u64 0, .int .i64 0, .slice none 0 0] 30)) w.heap.size NB (pairs ks ls) len0 s wt) := HA
                clear hl m1 m2 m3 hcut d25
                generalize wc.alloc (.cells #[.int .u64 0, .int .i64 0, .slice none 0 0] 30) = T2 at HA ⊢
                go_upto_if 103 with (fail)
                go_cut [21] (fun v wd => v = .int .i64 (wOf wt (lastN (pairs ks ls) s)) ∧ wd = T2)
                case first =>
                  obtain hls | ⟨m, hls⟩ := opt_two (lastN (pairs ks ls) s)
                  · have g1 : ¬ (0 ≤ eOf (lastN (pairs ks ls) s)) := by rw [hls.out]; simp only [eOf]; omega
                    go_wp2_with fail
                    go_meet
                    case rel => exact ⟨by rw [hls.out]; rfl, rfl⟩
                  · have g1 : 0 ≤ eOf (lastN (pairs ks ls) s) := by rw [hls.out]; simp only [eOf]; omega
                    have hm256 := lastN_lt hps.out.2 hls.out
                    have g2 : eOf (lastN (pairs ks ls) s) < 256 := by rw [hls.out]; simp only [eOf]; omega
                    go_wp2_with fail
                    go_meet
                    case rel => exact ⟨by rw [hls.out]; simp [wOf, eOf, wrap64, IntKind.wrap_i64], rfl⟩
                case rest =>
                  obtain ⟨rfl, rfl⟩ := hcut
                  have d26 := HA.out.c26
                  have d25 := HA.out.c25
                  generalize wOf wt (lastN (pairs ks ls) s) = WT at d26 ⊢
                  go_upto_region 31 with (fail)
                  clear d25 d26
                  go_loopw [22, 116] (fun dv iv wr => ∃ (j : Nat), iv = .int .i64 j ∧ j ≤ len0 ∧ dv = .int .i64 (cnt j (pairs ks ls) s : Nat) ∧ Hid (After w wr w.heap.size NB (pairs ks ls) len0 s wt)) (fun _ iv _ => len0 - (intOf iv).toNat)
                  case atStart => exact ⟨0, rfl, by omega, rfl, HA⟩
                  case round =>
                    clear HA
                    obtain ⟨j3, rfl, hj3, rfl, HA⟩ := hrel
                    have d25 := HA.out.c25
                    by_cases hlt3 : j3 < len0
                    · obtain ⟨k, hk⟩ : ∃ k, ks[j3]? = some k := ⟨_, List.getElem?_eq_getElem (by rw [HK.out.1.1]; exact hlt3)⟩
                      obtain ⟨a, ha0, hca⟩ := HK.out.1.2 j3 k hk
                      have hpi : Hid ((pairs ks ls)[j3]? = some (k, lenAt ls j3)) := pairs_at hk
                      subst ha0
                      have c1 : wr.cell? (a.add j3) = some (.int .u64 k) := by
                        rw [HA.out.bel.cell (World.block_lt_of_cell? _ _ hca)]; exact hca
                      have i1 : (0 : Int) ≤ (j3 : Int) := by omega
                      have i2 : (j3 : Int) < (len0 : Int) := by omega
                      clear hca hk
                      have hcn : Hid (cnt (j3 + 1) (pairs ks ls) s = cnt j3 (pairs ks ls) s + (if k = s ∨ (lastN ((pairs ks ls).take j3) k).isSome then 0 else 1)) := by
                        show cnt (j3 + 1) (pairs ks ls) s = _
                        conv => lhs; unfold cnt
                        rw [hpi.out]
                      have hcl := cnt_le (pairs ks ls) s j3
                      generalize hcv : cnt j3 (pairs ks ls) s = cv at hcn hcl ⊢
                      clear hcv
                      by_cases hks : k = s
                      · have g1 : (k == s) = true := by simpa using hks
                        have hks : Hid (k = s) := hks
                        go_wp2_with fail
                        refine ⟨⟨j3 + 1, by go_num, by omega, ?_, HA⟩, by simp [intOf]; omega⟩
                        rw [hcn.out, if_pos (.inl hks.out)]
                        rfl
                      · have g1 : (k == s) = false := by simpa using hks
                        have hks : Hid (k ≠ s) := hks
                        go_upto_region 37 with (fail)
                        have hz3 := (show Hid (IsLens wr a1 len1 ls) from HK.out.2.kept HA.out.bel)
                        go_loopw [25, 26, 126] (fun fv lv jv wr2 => ∃ (j : Nat), jv = .int .i64 j ∧ j ≤ len0 ∧ fv = .bool (lastN ((pairs ks ls).take (min j3 j)) k).isNone ∧ lv = .int .i64 ((lastN ((pairs ks ls).take j) k).getD 0 : Nat) ∧ wr2 = wr) (fun _ _ jv _ => len0 - (intOf jv).toNat)
                        case atStart => exact ⟨0, rfl, by omega, by rw [Nat.min_zero]; rfl, rfl, rfl⟩
                        case round =>
                          obtain ⟨j, rfl, hj, rfl, rfl, rfl⟩ := hrel
                          by_cases hlt4 : j < len0
                          · obtain ⟨k2, hk2⟩ : ∃ k, ks[j]? = some k := ⟨_, List.getElem?_eq_getElem (by rw [HK.out.1.1]; exact hlt4)⟩
                            obtain ⟨a', ha0, hca⟩ := HK.out.1.2 j k2 hk2
                            cases ha0
                            have hp2 : Hid ((pairs ks ls)[j]? = some (k2, lenAt ls j)) := pairs_at hk2
                            have c2 : wr.cell? (a.add j) = some (.int .u64 k2) := by
                              rw [HA.out.bel.cell (World.block_lt_of_cell? _ _ hca)]; exact hca
                            have i3 : (0 : Int) ≤ (j : Int) := by omega
                            have i4 : (j : Int) < (len0 : Int) := by omega
                            clear hca hk2
                            generalize hfb : (lastN ((pairs ks ls).take (min j3 j)) k).isNone = fb
                            generalize hlv : (lastN ((pairs ks ls).take j) k).getD 0 = lv
                            have hfb : Hid ((lastN ((pairs ks ls).take (min j3 j)) k).isNone = fb) := hfb
                            have hlv : Hid ((lastN ((pairs ks ls).take j) k).getD 0 = lv) := hlv
                            by_cases hkk : k2 = k
                            · have g2 : (k2 == k) = true := by simpa using hkk
                              have hkk : Hid (k2 = k) := hkk
                              by_cases hjj : j < j3
                              · have i5 : (j : Int) < (j3 : Int) := by omega
                                go_wp2_with fail
                                refine (zlen a1 len1 cap1 ls j wr hz3.out).mono ?_
                                rintro _ wr ⟨rfl, rfl⟩
                                go_wp2_with fail
                                refine ⟨⟨j + 1, by go_num, by omega, ?_, ?_, trivial⟩, by simp [intOf]; omega⟩
                                · rw [Nat.min_eq_right (by omega), lastN_take hp2.out, if_pos hkk.out.symm]; rfl
                                · rw [lastN_take hp2.out, if_pos hkk.out.symm]; rfl
                              · have i5 : ¬ (j : Int) < (j3 : Int) := by omega
                                go_wp2_with fail
                                refine (zlen a1 len1 cap1 ls j wr hz3.out).mono ?_
                                rintro _ wr ⟨rfl, rfl⟩
                                go_wp2_with fail
                                refine ⟨⟨j + 1, by go_num, by omega, ?_, ?_, trivial⟩, by simp [intOf]; omega⟩
                                · rw [← hfb.out, Nat.min_eq_left (by omega), Nat.min_eq_left (by omega)]
                                · rw [lastN_take hp2.out, if_pos hkk.out.symm]; rfl
                            · have g2 : (k2 == k) = false := by simpa using hkk
                              have hkk : Hid (k2 ≠ k) := hkk
                              go_wp2_with fail
                              refine ⟨⟨j + 1, by go_num, by omega, ?_, ?_, trivial⟩, by simp [intOf]; omega⟩
                              · rw [← hfb.out]
                                by_cases hjj : j < j3
                                · rw [Nat.min_eq_right (by omega), Nat.min_eq_right (by omega), lastN_take hp2.out, if_neg (Ne.symm hkk.out)]
                                · rw [Nat.min_eq_left (by omega), Nat.min_eq_left (by omega)]
                              · rw [lastN_take hp2.out, if_neg (Ne.symm hkk.out), hlv.out]
                          · have hj' : j = len0 := by omega
                            have e1 : (pairs ks ls).take j = pairs ks ls := by rw [hj', ← hps.out.1, List.take_length]
                            have e2 : min j3 j = j3 := by omega
                            obtain ⟨m, hm⟩ := lastN_mem hpi.out
                            rw [e1, e2, hm]
                            clear e1 e2
                            have hm : Hid (lastN (pairs ks ls) k = some m) := hm
                            have hm256 := lastN_lt hps.out.2 hm.out
                            cases hfi : lastN ((pairs ks ls).take j3) k with
                            | some mm =>
                              have hfi : Hid (lastN ((pairs ks ls).take j3) k = some mm) := hfi
                              go_wp2_with fail
                              refine ⟨⟨j3 + 1, by go_num, by omega, ?_, HA⟩, by simp [intOf]; omega⟩
                              rw [hcn.out, hfi.out, if_pos (.inr rfl)]
                              rfl
                            | none =>
                              have hfi : Hid (lastN ((pairs ks ls).take j3) k = none) := hfi
                              obtain ⟨f, m1, m2, m3⟩ := HA.out.map
                              obtain ⟨b, hb⟩ := m3 k hks.out m hm.out
                              have hl := m1.look (P := Yba.prog) (mty := 25) Yba.underlying25 Yba.underlying24 key_is key_inj (zero30 _) k
                              rw [hb] at hl
                              unfold key acc at hl
                              clear m1 m2 m3 hb
                              go_wp2_with fail
                              refine ⟨⟨j3 + 1, by go_num, by omega, ?_, HA.out.alloc _⟩, by simp [intOf]; omega⟩
                              rw [hcn.out, hfi.out, if_neg (by simp [hks.out])]
                              rfl
                    · have hj3' : j3 = len0 := by omega
                      subst hj3'
                      obtain ⟨f, m1, m2, m3⟩ := HA.out.map
                      have hl := m1.len (P := Yba.prog) (mty := 25) Yba.underlying25
                      have bel := HA.out.bel
                      clear m1 m2 m3
                      generalize cnt j3 (pairs ks ls) s = cv at hl ⊢
                      go_wp2_with fail
                      go_ret
                      exact ⟨rfl, bel⟩
end Go.Proofs.Ybulkaehe
