import Derived.Test.YbulkadzcRunDefs
namespace Go.Proofs.Ybulkadzc
open Go.RowKit
set_option maxHeartbeats 16000000 in
set_option maxRecDepth 1000000 in
theorem round_stop_live {w wr : World} {b off len cap hb mb i : Nat} {per : Bool} {S : HSt} {M : Mdl} {z : Stp} (R : Rnd w wr b off len cap hb mb i per S M z) (hop : z.o % 4 = 3) (hN : ¬ M.hs.length = 0) (hbv : ∀ (k : Nat) (bl : Bool), k = z.k.toNat % M.hs.length → M.live[k]? = some bl → bl = true) (K0 : Act → World → Prop) (R0 : Ending → World → Prop) (u4 u5 u6 u10 u11 u12 u13 u14 u15 u16 u17 u18 u22 u23 u24 u25 u26 u27 u28 u29 u30 u31 u32 u33 u34 u35 u36 u37 u38 u39 u40 u41 u42 u43 u44 u45 u46 u47 u48 u49 u50 u51 u52 u53 u54 u55 u56 u57 u58 u59 u60 u61 u62 u63 u64 u65 u66 u67 u68 u69 u70 u71 u72 u73 u74 u75 u76 u77 u78 u79 u80 u81 u82 u83 u84 u85 u86 u87 u88 u89 u90 u91 u92 u93 u94 u95 u96 u97 u98 u99 u100 u101 u102 u103 u104 u105 u106 u107 u108 u109 u110 u111 u112 u113 u114 u115 u116 u117 u118 u119 u120 u121 u122 u123 u124 u125 u126 u127 u128 u129 u130 u131 u132 u133 u134 u135 u136 u137 u138 u139 u140 u141 u142 u143 u144 u145 u146 u147 u148 u149 u150 u151 u152 u153 u154 u155 u156 u157 u158 u159 u160 u161 u162 u163 u164 u165 u166 u167 u168 u169 u170 u171 u172 u173 u174 u175 u176 u177 u178 u179 u180 u181 u182 u183 u184 u185 u186 u187 u188 u189 u190 u191 u192 u193 u194 u195 u196 u197 u198 u199 u200 u201 : Value) :
    Code.wp Yba.prog ((Yba.f10.body.bind firstLoop).getD .skip) (Exit.then (fun a' w'' => WI w (some ⟨b, off, none⟩) len cap hb mb per a' w'' ∧ Wmu len a' w'' < Wmu len ⟨#[.slice (some ⟨b, off, none⟩) len cap, .bool per, undef, undef, u4, u5, u6, .pointer (some ⟨hb, 0, none⟩), .pointer (some ⟨mb, 0, none⟩), .int .i64 i, u10, u11, u12, u13, u14, u15, u16, u17, u18, .pointer (some ⟨hb, 0, none⟩), .agg #[.slice none 0 0, .slice none 0 0, .slice none 0 0, .slice none 0 0, .slice none 0 0, .int .u64 0], .pointer (some ⟨mb, 0, none⟩), u22, u23, u24, u25, u26, u27, u28, u29, u30, u31, u32, u33, u34, u35, u36, u37, u38, u39, u40, u41, u42, u43, u44, u45, u46, u47, u48, u49, u50, u51, u52, u53, u54, u55, u56, u57, u58, u59, u60, u61, u62, u63, u64, u65, u66, u67, u68, u69, u70, u71, u72, u73, u74, u75, u76, u77, u78, u79, u80, u81, u82, u83, u84, u85, u86, u87, u88, u89, u90, u91, u92, u93, u94, u95, u96, u97, u98, u99, u100, u101, u102, u103, u104, u105, u106, u107, u108, u109, u110, u111, u112, u113, u114, u115, u116, u117, u118, u119, u120, u121, u122, u123, u124, u125, u126, u127, u128, u129, u130, u131, u132, u133, u134, u135, u136, u137, u138, u139, u140, u141, u142, u143, u144, u145, u146, u147, u148, u149, u150, u151, u152, u153, u154, u155, u156, u157, u158, u159, u160, u161, u162, u163, u164, u165, u166, u167, u168, u169, u170, u171, u172, u173, u174, u175, u176, u177, u178, u179, u180, u181, u182, u183, u184, u185, u186, u187, u188, u189, u190, u191, u192, u193, u194, u195, u196, u197, u198, u199, u200, u201, undef, undef], []⟩ wr) (Exit.inBlock 0 (Exit.then K0 (bodyPost Yba.prog Yba.f10 R0)))) ⟨#[.slice (some ⟨b, off, none⟩) len cap, .bool per, undef, undef, u4, u5, u6, .pointer (some ⟨hb, 0, none⟩), .pointer (some ⟨mb, 0, none⟩), .int .i64 i, u10, u11, u12, u13, u14, u15, u16, u17, u18, .pointer (some ⟨hb, 0, none⟩), .agg #[.slice none 0 0, .slice none 0 0, .slice none 0 0, .slice none 0 0, .slice none 0 0, .int .u64 0], .pointer (some ⟨mb, 0, none⟩), u22, u23, u24, u25, u26, u27, u28, u29, u30, u31, u32, u33, u34, u35, u36, u37, u38, u39, u40, u41, u42, u43, u44, u45, u46, u47, u48, u49, u50, u51, u52, u53, u54, u55, u56, u57, u58, u59, u60, u61, u62, u63, u64, u65, u66, u67, u68, u69, u70, u71, u72, u73, u74, u75, u76, u77, u78, u79, u80, u81, u82, u83, u84, u85, u86, u87, u88, u89, u90, u91, u92, u93, u94, u95, u96, u97, u98, u99, u100, u101, u102, u103, u104, u105, u106, u107, u108, u109, u110, u111, u112, u113, u114, u115, u116, u117, u118, u119, u120, u121, u122, u123, u124, u125, u126, u127, u128, u129, u130, u131, u132, u133, u134, u135, u136, u137, u138, u139, u140, u141, u142, u143, u144, u145, u146, u147, u148, u149, u150, u151, u152, u153, u154, u155, u156, u157, u158, u159, u160, u161, u162, u163, u164, u165, u166, u167, u168, u169, u170, u171, u172, u173, u174, u175, u176, u177, u178, u179, u180, u181, u182, u183, u184, u185, u186, u187, u188, u189, u190, u191, u192, u193, u194, u195, u196, u197, u198, u199, u200, u201, undef, undef], []⟩ wr := by
  obtain ⟨hlt, hl, zo, za, zk, c0, c1, c2, st, bk⟩ := R
  have i1 : (0 : Int) ≤ (i : Int) := by omega
  have i2 : (i : Int) < (len : Int) := by omega
  have st1 := st.new (.cells #[.int .u8 z.o, .int .i64 z.a, .int .u16 z.k] 59)
  have bz1 : SBox (wr.alloc (.cells #[.int .u8 z.o, .int .i64 z.a, .int .u16 z.k] 59)) wr.heap.size z := heap_new_at _ _ _ rfl
  have hwB : w.heap.size ≤ wr.heap.size := st.size
  clear st
  conv => arg 2; whnf
  go_upto_region 8 with (fail)
  simp only [hop]
  generalize wr.heap.size = B at st1 bz1 hwB ⊢
  generalize (wr.alloc (.cells #[.int .u8 z.o, .int .i64 z.a, .int .u16 z.k] 59)) = W2 at st1 bz1 ⊢
  clear c0 c1 c2
  have st2 := st1.new (.cells #[.int .u32 0, .int .u32 0] 29)
  have hn2 : Hnd (W2.alloc (.cells #[.int .u32 0, .int .u32 0] 29)) W2.heap.size 0 0 := heap_new_at _ _ _ rfl
  have bz2 : SBox (W2.alloc (.cells #[.int .u32 0, .int .u32 0] 29)) B z := bz1.kept (Below.heap_alloc _ _ _ bz1.lt)
  have hwT : w.heap.size ≤ W2.heap.size := st1.size
  have hBT : B < W2.heap.size := bz1.lt
  have bb := bk.bnd.m
  have bbn := bk.bnd.n
  have Hbk : Hid (Book S M i per) := bk
  go_upto_region 10 with (fail)
  generalize W2.heap.size = T at st2 hn2 hwT hBT ⊢
  generalize (W2.alloc (.cells #[.int .u32 0, .int .u32 0] 29)) = W3 at st2 hn2 bz2 ⊢
  clear st1 bz1 bk
  obtain ⟨n, hn⟩ : ∃ n, M.hs.length = n := ⟨_, rfl⟩
  have Hn : Hid (M.hs.length = n) := hn
  have n0 : 0 < n := by omega
  have nb : n ≤ 1024 := by have := Hbk.out.len; omega
  obtain ⟨K, hK⟩ := Int.eq_ofNat_of_zero_le zk.1
  have HK : Hid (z.k = (K : Int)) := hK
  clear hK
  obtain ⟨k, hk⟩ : ∃ k, K % n = k := ⟨_, rfl⟩
  have hkn : k < n := by rw [← hk]; exact Nat.mod_lt _ n0
  have Hk : Hid (K % n = k) := hk
  obtain ⟨h, hh⟩ : ∃ h, M.hs[k]? = some h := ⟨_, List.getElem?_eq_getElem (by rw [Hn.out]; exact hkn)⟩
  obtain ⟨bl, hbl⟩ : ∃ b, M.live[k]? = some b := ⟨_, List.getElem?_eq_getElem (by rw [Hbk.out.rl.l4, Hn.out]; exact hkn)⟩
  obtain rfl : bl = true := hbv k bl (by rw [← Hk.out, ← Hn.out, HK.out]; simp) hbl
  have Hh : Hid (M.hs[k]? = some h ∧ M.live[k]? = some true) := ⟨hh, hbl⟩
  obtain ⟨FM, ⟨v, HM⟩, _⟩ := st2.model
  obtain ⟨g0, k0, r0, r1, r2⟩ := HM.hsAt hh
  rw [hn] at r0
  obtain ⟨d0, d1, d2⟩ := bz2.cells
  rw [HK.out] at d2
  have kb : (K : Int) ≤ 65535 := by have := HK.out; omega
  have kb0 : (0 : Int) ≤ (K : Int) := by omega
  have kw : IntKind.i64.wrap (K : Int) = (K : Int) := IntWalk.i64_in _ (by omega)
  have n0' : (0 : Int) < (n : Int) := by omega
  have j1 : (0 : Int) ≤ (k : Int) := by omega
  have j2 : (k : Int) < (n : Int) := by omega
  clear hn hk hN hh hbl
  go_upto_region 11 with (fail)
  go_quiet (fail)
  go_upto_region 12 with (fail)
  rw [show ((K : Int) % (n : Int)) = (k : Int) from by rw [← Hk.out]; simp]
  have eq : Ext W3 (W3.drewN nq) := (Ext.refl W3).drewN nq
  have HM4 := HM.ext eq
  have hn4 := hn2.ext eq
  have st4 := (st2.ext eq).1
  have r0' := eq.get r0
  have r1' := eq.get r1
  have r2' := eq.get r2
  clear eq HM hn2 st2 bz2 r0 r1 r2 d0 d1 d2
  generalize W3.drewN nq = W4 at HM4 hn4 st4 r0' r1' r2' ⊢
  obtain ⟨d0, d1⟩ := hn4.cells
  have z0 := hn4.thaw 0
  have z1 := hn4.thaw 1
  go_upto_region 13 with (fail)
  have st5 := (st4.setN (p := ⟨T, 0, none⟩) (.inr rfl) hwT (.int .u32 h.s)).setN (p := ⟨T, 1, none⟩) (.inr rfl) hwT (.int .u32 h.g)
  have hn5 : Hnd ((W4.setCell ⟨T, 0, none⟩ (.int .u32 h.s)).setCell ⟨T, 1, none⟩ (.int .u32 h.g)) T h.s h.g := by
    unfold Hnd at *
    rw [blk_set (blk_set hn4 0 _) 1 _]; rfl
  clear HM4 hn4 st4 r0' r1' r2' d0 d1 z0 z1
  generalize ((W4.setCell ⟨T, 0, none⟩ (.int .u32 h.s)).setCell ⟨T, 1, none⟩ (.int .u32 h.g)) = W5 at st5 hn5 ⊢
  obtain ⟨FM, ⟨v, HM⟩, nFM, hnextM⟩ := st5.model'
  obtain ⟨g4, k4, hv4, t0, t1, t2, fg4, ng4⟩ := HM.liveAt Hh.out.2
  have hd4 : M.live.length = n := Hbk.out.rl.l4.trans Hn.out
  rw [hd4] at t0
  obtain ⟨d0, d1⟩ := hn5.cells
  obtain ⟨F, hp, hnextH⟩ := st5.heap
  obtain ⟨L, P, hI⟩ := Hbk.out.inv
  obtain ⟨s, p, y, x, hs, hy, hg, hpp, hx, hxl, xd, xs, xv⟩ := Hbk.out.rl.found hI Hh.out.1 Hh.out.2
  rw [hs] at d0
  have HX : Hid (S.slots[s]? = some y ∧ y.gen = h.g ∧ y.pos = (p : Int) ∧ S.ents[p]? = some x ∧ x.l = (s : Int) ∧ h.s = (s : Int)) := ⟨hy, hg, hpp, hx, hxl, hs⟩
  have hxm : x ∈ S.ents := List.mem_iff_getElem?.2 ⟨p, hx⟩
  have gb1 := hI.gen s y hy
  have gb2 := Hbk.out.bnd.g s y hy
  have bp := Hbk.out.bnd.p
  have hper : x.p = 0 ∨ (1 ≤ x.p ∧ (x.p - 1).toNat < S.pers.length) := by
    rcases hI.pper x hxm with q | ⟨q1, q2, _⟩
    · exact .inl q
    · exact .inr ⟨q1, q2⟩
  have hfp0 : 0 ≤ S.fp ∧ S.fp ≤ 1000000 := by
    refine ⟨hI.pch.nonneg, ?_⟩
    obtain ⟨_, _, _, hff, _⟩ := hI.kept_per 1
    rcases hff with q | ⟨q1, nx, q2, _⟩
    · omega
    · have := (List.getElem?_eq_some_iff.1 q2).1; omega
  have HPR : Hid (_ ∧ _) := ⟨hper, hfp0⟩
  have HO : Hid (Ord S ∧ PosOK S) := ⟨hI.ord, hI.pos⟩
  have gb : 0 ≤ h.g ∧ h.g ≤ 1000000 := by omega
  clear hy hg hpp hx hxl hs xd xs xv hI hper hfp0 hxm gb1 gb2
  go_wp2_with fail
  refine (Stop_live F hb S s p h.g y x _ hp (by omega) (by omega) HX.out.1 HX.out.2.1 HX.out.2.2.1 HX.out.2.2.2.1 HX.out.2.2.2.2.1 HO.out.1 HO.out.2 gb HPR.out.1 (by omega) HPR.out.2).mono ?_
  rintro r W6 ⟨rfl, S1, y1, hrem, hy1, hp', fr'⟩
  have HB2 : Hid (Book (S1.rel s y1 x.p) (M.ceased k) (i + 1) per) := Hbk.out.ceased Hh.out.1 Hh.out.2 HX.out.2.2.2.1 HX.out.2.2.2.2.1 HX.out.2.2.2.2.2 HX.out.1 HX.out.2.1 hrem hy1
  obtain ⟨st6, kp6⟩ := hnextH W6 _ F hp' fr'
  have hn6 := hn5.kept (kp6 T (.inr rfl))
  clear hrem hy1 hp' fr' hp hnextH hnextM HM st5 hn5 d0 d1 t0 t1 t2 kp6 nFM hv4 fg4 ng4
  generalize S1.rel s y1 x.p = S2 at HB2 st6
  obtain ⟨FM, ⟨v, HM⟩, nFM, hnextM⟩ := st6.model'
  obtain ⟨g4', k4', hv4, t0, t1, t2, fg4, ng4⟩ := HM.liveAt Hh.out.2
  rw [hd4] at t0
  have nT := nFM T (.inr rfl)
  have hTg : T ≠ g4' := fun e => nT (e ▸ fg4)
  obtain ⟨d0, d1⟩ := hn6.cells
  rw [HX.out.2.2.2.2.2] at d0
  go_upto_region 18 with (fail)
  have H7 := HM.setLive hv4 rfl k false
  have f7 : Fr W6 (W6.setCell ⟨g4', k, none⟩ (.bool false)) FM FM := (Fr.refl W6 FM).setCell fg4 _
  obtain ⟨st7, kp7⟩ := hnextM _ (M.ceased k) FM ⟨v, H7⟩ f7
  have hn7 := hn6.kept (kp7 T (.inr rfl))
  clear HM hnextM st6 hn6 t0 t1 t2 d0 d1 kp7 hv4 fg4 ng4 nFM nT H7 f7
  generalize W6.setCell ⟨g4', k, none⟩ (.bool false) = W7 at st7 hn7 ⊢
  obtain ⟨d0, d1⟩ := hn7.cells
  rw [HX.out.2.2.2.2.2] at d0
  obtain ⟨F2, hp2, _⟩ := st7.heap
  obtain ⟨FM2, hm2, _⟩ := st7.model
  have lv : (M.ceased k).live[k]? = some false := by
    simp only [Mdl.ceased]; rw [List.getElem?_set, if_pos rfl, if_pos (by rw [hd4]; exact hkn)]
  obtain ⟨s', hs', hpend⟩ := HB2.out.rl.lost (k := k) (h := h) Hh.out.1 lv
  have es : s' = s := by have := HX.out.2.2.2.2.2; omega
  subst es
  obtain ⟨L2, P2, hI2⟩ := HB2.out.inv
  have HP0 : Hid (pendB S2 s' h.g = false ∧ HInv S2 L2 P2) := ⟨hpend, hI2⟩
  have c1 := HB2.out.bnd.m
  have c2 := HB2.out.bnd.n
  have c3 := HB2.out.len
  clear lv hs' hpend hI2
  go_wp2_with fail
  refine (Stop_dead F2 hb S2 s' h.g _ hp2 (by omega) HP0.out.1).mono ?_
  rintro r W8 ⟨rfl, e5⟩
  go_wp2_with fail
  refine (check_ok F2 FM2 hb mb S2 (M.ceased k) L2 P2 _ (hp2.ext e5) (hm2.ext e5) HP0.out.2 HB2.out.rl (by omega) (by omega) (by omega)).mono ?_
  rintro r W9 ⟨rfl, e6⟩
  go_wp2_with fail
  refine ⟨?_, by simp [Wmu, intOf]; omega⟩
  unfold WI
  (repeat apply Exists.intro)
  exact ⟨⟨i + 1, S2, M.ceased k, by go_num, by omega, ((st7.ext (e5.trans e6)).1).forget _ (fun b hb => hb.elim), HB2.out⟩, rfl⟩
end Go.Proofs.Ybulkadzc
