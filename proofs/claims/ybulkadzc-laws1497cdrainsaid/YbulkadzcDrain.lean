import Derived.Test.YbulkadzcRun
import Derived.Test.YbulkadzcBest
import Derived.Test.YbulkadzcPop
namespace Go.Proofs.Ybulkadzc
open Go.RowKit

set_option maxHeartbeats 1000000 in
theorem drain_long (a : Option Addr) (len cap : Nat) (w : World) (h : 1024 < len) (_hm : len ≤ 9223372036854775807) :
    Calls Yba.prog 5 #[.slice a len cap] w fun e w' => e = .returned (.bool true) ∧ Below w.heap.size w w' := by
  go_enter Yba.func5, Yba.ntmps5
  go_wp2_with fail
  go_ret
  exact ⟨rfl, Below.refl _ _⟩

/-- Round n of the law's own loop. -/
def Drn (w wr : World) (hb mb len N n : Nat) : Prop :=
  ∃ S M, St w wr hb mb S M (fun _ => False) ∧ Book S M (len + n) false ∧ M.hs.length = N ∧ S.ents.length + n ≤ N

set_option maxHeartbeats 8000000 in
set_option maxRecDepth 100000 in
theorem drain_walk (a : Option Addr) (b off cap : Nat) (zs : List Stp) (w : World) (ha : 0 < zs.length → a = some ⟨b, off, none⟩) (hc : StepsAt w b off zs)
    (hz : ∀ z ∈ zs, (0 ≤ z.o ∧ z.o ≤ 255) ∧ z.a ≤ 9223372036854775807 ∧ 0 ≤ z.k ∧ z.k ≤ 65535) (hl : zs.length ≤ 1024) :
    Calls Yba.prog 5 #[.slice a zs.length cap] w fun e w' => e = .returned (.bool true) ∧ Below w.heap.size w w' := by
  have HZ : Hid (_ ∧ _ ∧ _) := ⟨ha, hc, hz⟩
  clear ha hc hz
  go_enter Yba.func5, Yba.ntmps5
  go_wp2_with fail
  refine (run_ok false a b off cap zs _ HZ.out.1 HZ.out.2.1 HZ.out.2.2 hl).mono ?_
  rintro r W1 ⟨hb, mb, S0, M0, rfl, st0, bk0⟩
  obtain ⟨N, hN⟩ : ∃ N, M0.hs.length = N := ⟨_, rfl⟩
  obtain ⟨len, hlen⟩ : ∃ len, zs.length = len := ⟨_, rfl⟩
  have d0 : Drn w W1 hb mb len N 0 := ⟨S0, M0, st0, by rw [← hlen]; exact bk0, hN, by
    have h1 := bk0.rl.cnt
    have h2 := bk0.rl.l4
    have h3 : M0.live.countP id ≤ M0.live.length := List.countP_le_length
    omega⟩
  have hNb : N ≤ 1024 := by have := bk0.len; omega
  rw [hlen] at hl ⊢
  have Hd : Hid (Drn w W1 hb mb len N 0) := d0
  clear st0 bk0 d0 hN hlen HZ
  go_wp2_with fail
  go_loopw [6] (fun nv wr => ∃ n : Nat, nv = .int .i64 n ∧ n ≤ N ∧ Hid (Drn w wr hb mb len N n)) (fun nv _ => N - (intOf nv).toNat)
  case atStart => exact ⟨0, rfl, by omega, Hd⟩
  case round =>
    obtain ⟨n, rfl, hn, HD⟩ := hrel
    clear Hd
    obtain ⟨S, M, st, bk, hMN, hcnt⟩ := HD.out
    have Hbk : Hid (Book S M (len + n) false) := bk
    have HN : Hid (M.hs.length = N) := hMN
    clear HD bk hMN
    obtain ⟨FM, ⟨v, HM⟩, _⟩ := st.model
    obtain ⟨va, vc, q0⟩ := HM.hsLen
    rw [HN.out] at q0
    by_cases hlt : n < N
    · go_wp2_with fail
      go_loopw [7, 8] (fun bv kv ws => ∃ (bi : Int) (k : Nat), bv = .int .i64 bi ∧ kv = .int .i64 k ∧ k ≤ N ∧ Ext wr ws ∧ Hid (Bst M k bi)) (fun _ kv _ => N - (intOf kv).toNat)
      case atStart => exact ⟨-1, 0, rfl, rfl, by omega, Ext.refl wr, Bst.start M⟩
      case round =>
        obtain ⟨bi, k, rfl, rfl, hk, e1, HB⟩ := hrel
        have HM1 := HM.ext e1
        have p0 := e1.get q0
        by_cases hkN : k < N
        · obtain ⟨bl, hbl⟩ : ∃ bl, M.live[k]? = some bl := ⟨_, List.getElem?_eq_getElem (by rw [Hbk.out.rl.l4, HN.out]; exact hkN)⟩
          obtain ⟨g4, k4, _, t0, t1, _⟩ := HM1.liveAt hbl
          rw [Hbk.out.rl.l4, HN.out] at t0
          have j1 : (0 : Int) ≤ (k : Int) := by omega
          have j2 : (k : Int) < (N : Int) := by omega
          cases bl with
          | false =>
            have HB2 : Hid (Bst M (k + 1) bi) := HB.out.skip hbl
            clear hbl HM1 HB
            go_wp2_with fail
            exact ⟨⟨bi, k + 1, rfl, by go_num, by omega, e1, HB2⟩, by simp [intOf]; omega⟩
          | true =>
            obtain ⟨d, hd⟩ : ∃ d, M.dl[k]? = some d := ⟨_, List.getElem?_eq_getElem (by rw [Hbk.out.rl.l1, HN.out]; exact hkN)⟩
            obtain ⟨sq, hs⟩ : ∃ d, M.sq[k]? = some d := ⟨_, List.getElem?_eq_getElem (by rw [Hbk.out.rl.l2, HN.out]; exact hkN)⟩
            have HX : Hid (M.live[k]? = some true ∧ M.dl[k]? = some d ∧ M.sq[k]? = some sq) := ⟨hbl, hd, hs⟩
            clear hbl hd hs
            rcases HB.out with ⟨rfl, _⟩ | ⟨be, db, sb, rfl, hbk, hb1, hb2, hb3, _⟩
            · have HB2 : Hid (Bst M (k + 1) (k : Int)) := HB.out.first HX.out.1 HX.out.2.1 HX.out.2.2
              clear HM1 HB
              go_upto_region 14 with (fail)
              go_quiet (fail)
              have e2 := e1.drewN nq
              go_wp2_with fail
              exact ⟨⟨(k : Int), k + 1, rfl, by go_num, by omega, e2, HB2⟩, by simp [intOf]; omega⟩
            · have HY : Hid (M.dl[be]? = some db ∧ M.sq[be]? = some sb) := ⟨hb2, hb3⟩
              obtain ⟨g1, k1, hv1, s0, s1, _⟩ := HM1.dlAt HX.out.2.1
              have s2 := HM1.at (by omega) hv1 (k := be) (u := .int .i64 db) (by simp [Mdl.row, hb2])
              obtain ⟨g2, k2, hv2, r0, r1, _⟩ := HM1.sqAt HX.out.2.2
              have r2 := HM1.at (by omega) hv2 (k := be) (u := .int .u64 sb) (by simp [Mdl.row, hb3])
              rw [Hbk.out.rl.l1, HN.out] at s0
              rw [Hbk.out.rl.l2, HN.out] at r0
              have b0 : decide ((be : Int) < 0) = false := by simp
              have b1 : (0 : Int) ≤ (be : Int) := by omega
              have b2 : (be : Int) < (N : Int) := by omega
              clear hb1 hb2 hb3 hv1 hv2 HM1
              by_cases cA : d < db
              · have HB2 : Hid (Bst M (k + 1) (k : Int)) := HB.out.take HX.out.1 HX.out.2.1 HX.out.2.2 HY.out.1 HY.out.2 (.inl cA)
                clear HB
                have cA' : decide (d < db) = true := by simp [cA]
                go_upto_region 14 with (fail)
                go_quiet (fail)
                have e2 := e1.drewN nq
                go_wp2_with fail
                exact ⟨⟨(k : Int), k + 1, rfl, by go_num, by omega, e2, HB2⟩, by simp [intOf]; omega⟩
              · have cA' : decide (d < db) = false := by simp; omega
                by_cases cE : d = db
                · have cE' : (d == db) = true := by simp [cE]
                  by_cases cS : sq < sb
                  · have HB2 : Hid (Bst M (k + 1) (k : Int)) := HB.out.take HX.out.1 HX.out.2.1 HX.out.2.2 HY.out.1 HY.out.2 (.inr ⟨cE, cS⟩)
                    clear HB cE
                    have cS' : decide (sq < sb) = true := by simp [cS]
                    go_upto_region 14 with (fail)
                    go_quiet (fail)
                    have e2 := e1.drewN nq
                    go_wp2_with fail
                    exact ⟨⟨(k : Int), k + 1, rfl, by go_num, by omega, e2, HB2⟩, by simp [intOf]; omega⟩
                  · have HB2 : Hid (Bst M (k + 1) (be : Int)) := HB.out.stay HX.out.1 HX.out.2.1 HX.out.2.2 HY.out.1 HY.out.2 (by omega)
                    clear HB cE
                    have cS' : decide (sq < sb) = false := by simp; omega
                    go_upto_region 14 with (fail)
                    go_quiet (fail)
                    have e2 := e1.drewN nq
                    go_wp2_with fail
                    exact ⟨⟨(be : Int), k + 1, rfl, by go_num, by omega, e2, HB2⟩, by simp [intOf]; omega⟩
                · have HB2 : Hid (Bst M (k + 1) (be : Int)) := HB.out.stay HX.out.1 HX.out.2.1 HX.out.2.2 HY.out.1 HY.out.2 (by omega)
                  have cE' : (d == db) = false := by simp [cE]
                  clear HB cE
                  go_upto_region 14 with (fail)
                  go_quiet (fail)
                  have e2 := e1.drewN nq
                  go_wp2_with fail
                  exact ⟨⟨(be : Int), k + 1, rfl, by go_num, by omega, e2, HB2⟩, by simp [intOf]; omega⟩
        · have ek : k = N := by omega
          subst ek
          obtain ⟨st1, _⟩ := st.ext e1
          obtain ⟨F, hp, hnext⟩ := st1.heap
          obtain ⟨L, P, hI⟩ := Hbk.out.inv
          have hbn : Bst M M.hs.length bi := by rw [HN.out]; exact HB.out
          have HBN : Hid (Bst M M.hs.length bi) := hbn
          clear hbn
          clear HB HM
          rcases HBN.out with ⟨rfl, _⟩ | ⟨be, db, sb, rfl, hbk, _⟩
          · have h0 : S.ents.length = 0 := HBN.out.none Hbk.out.rl
            have Hb : Hid (Below w.heap.size w wr) := st1.below
            clear hI HM1 st1 st hnext
            go_wp2_with fail
            refine (PopDue_none F hb S _ _ hp h0).mono ?_
            rintro r W2 ⟨rfl, rfl⟩
            go_wp2_with fail
            refine (Len_any F hb S _ hp).mono ?_
            rintro r W3 ⟨rfl, rfl⟩
            rw [h0]
            go_wp2_with fail
            go_ret
            exact ⟨rfl, Hb.out⟩
          · have hbN : be < k := by rw [← HN.out]; exact hbk
            obtain ⟨s, y, x, hh, f1, f2, f3, f4, f5, f6, f7, f8, f9⟩ := HBN.out.root hI Hbk.out.rl
            have hxm : x ∈ S.ents := List.mem_iff_getElem?.2 ⟨0, f6⟩
            have hfp0 : 0 ≤ S.fp ∧ S.fp ≤ 1000000 := by
              refine ⟨hI.pch.nonneg, ?_⟩
              have bp := Hbk.out.bnd.p
              obtain ⟨_, _, _, hff, _⟩ := hI.kept_per 1
              rcases hff with q | ⟨q1, nx, q2, _⟩
              · omega
              · have := (List.getElem?_eq_some_iff.1 q2).1; omega
            have HX : Hid (M.hs[be]? = some hh ∧ M.live[be]? = some true ∧ hh.s = (s : Int) ∧ S.slots[s]? = some y ∧ y.gen = hh.g ∧ S.ents[0]? = some x ∧ x.l = (s : Int) ∧ M.dl[be]? = some x.d ∧ M.vals[be]? = some y.v) := ⟨f1, f2, f3, f4, f5, f6, f7, f8, f9⟩
            have HO : Hid (Ord S ∧ PosOK S ∧ x.d ≤ 9223372036854775807 ∧ x.p = 0 ∧ (0 ≤ y.gen ∧ y.gen ≤ 1000000) ∧ (0 ≤ S.fp ∧ S.fp ≤ 1000000)) := ⟨hI.ord, hI.pos, hI.dle x hxm, Hbk.out.one rfl x hxm, ⟨by have := hI.gen s y f4; omega, by have := Hbk.out.bnd.g s y f4; omega⟩, hfp0⟩
            have cc1 := Hbk.out.bnd.m
            have cc2 := Hbk.out.bnd.n
            have cc3 := Hbk.out.bnd.p
            have b1 : (0 : Int) ≤ (be : Int) := by omega
            have b2 : (be : Int) < (k : Int) := by omega
            clear f1 f2 f3 f4 f5 f6 f7 f8 f9 hxm hfp0 hI HM1 st1 st hbk
            go_wp2_with fail
            refine (PopDue_one F hb S _ x s y _ hp HX.out.2.2.2.2.2.1 HO.out.2.2.2.1 HO.out.2.2.1 HX.out.2.2.2.2.2.2.1 HX.out.2.2.2.1 (by omega) (by omega) HO.out.1 HO.out.2.1 HO.out.2.2.2.2.1 (by omega) HO.out.2.2.2.2.2).mono ?_
            rintro r W2 ⟨S1, y1, rfl, hrem, hy1, hp2, fr2⟩
            obtain ⟨st2, _⟩ := hnext W2 _ F hp2 fr2
            have HB3 : Hid (Book (S1.rel s y1 x.p) (M.ceased be) (len + n + 1) false) := Hbk.out.ceased HX.out.1 HX.out.2.1 HX.out.2.2.2.2.2.1 HX.out.2.2.2.2.2.2.1 HX.out.2.2.1 HX.out.2.2.2.1 HX.out.2.2.2.2.1 hrem hy1
            have hln : (S1.rel s y1 x.p).ents.length + 1 = S.ents.length := by
              have q1 := HB3.out.rl.cnt
              have q2 := countP_set_false M.live be HX.out.2.1
              have q3 := Hbk.out.rl.cnt
              simp only [Mdl.ceased] at q1
              omega
            clear hrem hy1 hp2 fr2 hp hnext
            generalize S1.rel s y1 x.p = S2 at st2 HB3 hln
            obtain ⟨FM2, ⟨v2, HM2⟩, _, hnext2⟩ := st2.model'
            obtain ⟨g1, k1, hv1, s0, s1, _⟩ := HM2.dlAt HX.out.2.2.2.2.2.2.2.1
            obtain ⟨g3, k3, r0, r1⟩ := HM2.valAt HX.out.2.2.2.2.2.2.2.2
            obtain ⟨g4, k4, hv4, t0, t1, t2, fg4, ng4⟩ := HM2.liveAt HX.out.2.1
            rw [Hbk.out.rl.l1, HN.out] at s0
            rw [Hbk.out.rl.l3, HN.out] at r0
            have hd4 : M.live.length = k := Hbk.out.rl.l4.trans HN.out
            rw [hd4] at t0
            go_wp2_with fail
            have H7 := HM2.setLive hv4 rfl be false
            have f7 : Fr W2 (W2.setCell ⟨g4, be, none⟩ (.bool false)) FM2 FM2 := (Fr.refl W2 FM2).setCell fg4 _
            obtain ⟨st7, _⟩ := hnext2 _ (M.ceased be) FM2 ⟨v2, H7⟩ f7
            exact ⟨⟨n + 1, by go_num, by omega, ⟨S2, M.ceased be, st7, HB3.out, HN.out, by omega⟩⟩, by simp [intOf]; omega⟩
    · obtain ⟨F, hp, hnext⟩ := st.heap
      have h0 : S.ents.length = 0 := by omega
      have Hb : Hid (Below w.heap.size w wr) := st.below
      clear HM st hnext
      go_wp2_with fail
      refine (PopDue_none F hb S _ _ hp h0).mono ?_
      rintro r W2 ⟨rfl, rfl⟩
      go_wp2_with fail
      refine (Len_any F hb S _ hp).mono ?_
      rintro r W3 ⟨rfl, rfl⟩
      rw [h0]
      go_wp2_with fail
      go_ret
      exact ⟨rfl, Hb.out⟩
end Go.Proofs.Ybulkadzc
