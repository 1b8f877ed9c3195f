import Derived.Test.YbulkadzcRunDefs
namespace Go.Proofs.Ybulkadzc
open Go.RowKit
set_option maxHeartbeats 16000000 in
set_option maxRecDepth 1000000 in
theorem round_reset_dead {w wr : World} {b off len cap hb mb i : Nat} {per : Bool} {S : HSt} {M : Mdl} {z : Stp} (R : Rnd w wr b off len cap hb mb i per S M z) (hop : z.o % 4 = 2) (hN : ¬ M.hs.length = 0) (hbv : ∀ (k : Nat) (bl : Bool), k = z.k.toNat % M.hs.length → M.live[k]? = some bl → bl = false) (K0 : Act → World → Prop) (R0 : Ending → World → Prop) (u4 u5 u6 u10 u11 u12 u13 u14 u15 u16 u17 u18 u22 u23 u24 u25 u26 u27 u28 u29 u30 u31 u32 u33 u34 u35 u36 u37 u38 u39 u40 u41 u42 u43 u44 u45 u46 u47 u48 u49 u50 u51 u52 u53 u54 u55 u56 u57 u58 u59 u60 u61 u62 u63 u64 u65 u66 u67 u68 u69 u70 u71 u72 u73 u74 u75 u76 u77 u78 u79 u80 u81 u82 u83 u84 u85 u86 u87 u88 u89 u90 u91 u92 u93 u94 u95 u96 u97 u98 u99 u100 u101 u102 u103 u104 u105 u106 u107 u108 u109 u110 u111 u112 u113 u114 u115 u116 u117 u118 u119 u120 u121 u122 u123 u124 u125 u126 u127 u128 u129 u130 u131 u132 u133 u134 u135 u136 u137 u138 u139 u140 u141 u142 u143 u144 u145 u146 u147 u148 u149 u150 u151 u152 u153 u154 u155 u156 u157 u158 u159 u160 u161 u162 u163 u164 u165 u166 u167 u168 u169 u170 u171 u172 u173 u174 u175 u176 u177 u178 u179 u180 u181 u182 u183 u184 u185 u186 u187 u188 u189 u190 u191 u192 u193 u194 u195 u196 u197 u198 u199 u200 u201 : Value) :
    Code.wp Yba.prog ((Yba.f10.body.bind firstLoop).getD .skip) (Exit.then (fun a' w'' => WI w (some ⟨b, off, none⟩) len cap hb mb per a' w'' ∧ Wmu len a' w'' < Wmu len ⟨#[.slice (some ⟨b, off, none⟩) len cap, .bool per, undef, undef, u4, u5, u6, .pointer (some ⟨hb, 0, none⟩), .pointer (some ⟨mb, 0, none⟩), .int .i64 i, u10, u11, u12, u13, u14, u15, u16, u17, u18, .pointer (some ⟨hb, 0, none⟩), .agg #[.slice none 0 0, .slice none 0 0, .slice none 0 0, .slice none 0 0, .slice none 0 0, .int .u64 0], .pointer (some ⟨mb, 0, none⟩), u22, u23, u24, u25, u26, u27, u28, u29, u30, u31, u32, u33, u34, u35, u36, u37, u38, u39, u40, u41, u42, u43, u44, u45, u46, u47, u48, u49, u50, u51, u52, u53, u54, u55, u56, u57, u58, u59, u60, u61, u62, u63, u64, u65, u66, u67, u68, u69, u70, u71, u72, u73, u74, u75, u76, u77, u78, u79, u80, u81, u82, u83, u84, u85, u86, u87, u88, u89, u90, u91, u92, u93, u94, u95, u96, u97, u98, u99, u100, u101, u102, u103, u104, u105, u106, u107, u108, u109, u110, u111, u112, u113, u114, u115, u116, u117, u118, u119, u120, u121, u122, u123, u124, u125, u126, u127, u128, u129, u130, u131, u132, u133, u134, u135, u136, u137, u138, u139, u140, u141, u142, u143, u144, u145, u146, u147, u148, u149, u150, u151, u152, u153, u154, u155, u156, u157, u158, u159, u160, u161, u162, u163, u164, u165, u166, u167, u168, u169, u170, u171, u172, u173, u174, u175, u176, u177, u178, u179, u180, u181, u182, u183, u184, u185, u186, u187, u188, u189, u190, u191, u192, u193, u194, u195, u196, u197, u198, u199, u200, u201, undef, undef], []⟩ wr) (Exit.inBlock 0 (Exit.then K0 (bodyPost Yba.prog Yba.f10 R0)))) ⟨#[.slice (some ⟨b, off, none⟩) len cap, .bool per, undef, undef, u4, u5, u6, .pointer (some ⟨hb, 0, none⟩), .pointer (some ⟨mb, 0, none⟩), .int .i64 i, u10, u11, u12, u13, u14, u15, u16, u17, u18, .pointer (some ⟨hb, 0, none⟩), .agg #[.slice none 0 0, .slice none 0 0, .slice none 0 0, .slice none 0 0, .slice none 0 0, .int .u64 0], .pointer (some ⟨mb, 0, none⟩), u22, u23, u24, u25, u26, u27, u28, u29, u30, u31, u32, u33, u34, u35, u36, u37, u38, u39, u40, u41, u42, u43, u44, u45, u46, u47, u48, u49, u50, u51, u52, u53, u54, u55, u56, u57, u58, u59, u60, u61, u62, u63, u64, u65, u66, u67, u68, u69, u70, u71, u72, u73, u74, u75, u76, u77, u78, u79, u80, u81, u82, u83, u84, u85, u86, u87, u88, u89, u90, u91, u92, u93, u94, u95, u96, u97, u98, u99, u100, u101, u102, u103, u104, u105, u106, u107, u108, u109, u110, u111, u112, u113, u114, u115, u116, u117, u118, u119, u120, u121, u122, u123, u124, u125, u126, u127, u128, u129, u130, u131, u132, u133, u134, u135, u136, u137, u138, u139, u140, u141, u142, u143, u144, u145, u146, u147, u148, u149, u150, u151, u152, u153, u154, u155, u156, u157, u158, u159, u160, u161, u162, u163, u164, u165, u166, u167, u168, u169, u170, u171, u172, u173, u174, u175, u176, u177, u178, u179, u180, u181, u182, u183, u184, u185, u186, u187, u188, u189, u190, u191, u192, u193, u194, u195, u196, u197, u198, u199, u200, u201, undef, undef], []⟩ wr := by
  obtain ⟨hlt, hl, zo, za, zk, c0, c1, c2, st, bk⟩ := R
  have i1 : (0 : Int) ≤ (i : Int) := by omega
  have i2 : (i : Int) < (len : Int) := by omega
  have st1 := st.new (.cells #[.int .u8 z.o, .int .i64 z.a, .int .u16 z.k] 59)
  have bz1 : SBox (wr.alloc (.cells #[.int .u8 z.o, .int .i64 z.a, .int .u16 z.k] 59)) wr.heap.size z := heap_new_at _ _ _ rfl
  have hwB : w.heap.size ≤ wr.heap.size := st.size
  clear st
  conv => arg 2; whnf
  obtain ⟨FM, hm, hnext⟩ := st1.model
  obtain ⟨v, HM⟩ := hm
  obtain ⟨va, vc, hv⟩ := HM.shape 0 (by omega)
  obtain ⟨q0, q1, q2, q3, q4, q5⟩ := HM.cells
  rw [hv] at q0
  obtain ⟨n, hn⟩ : ∃ n, M.hs.length = n := ⟨_, rfl⟩
  have Hn : Hid (M.hs.length = n) := hn
  have n0 : 0 < n := by omega
  have nb : n ≤ 1024 := by have := bk.len; omega
  rw [show M.len 0 = n from hn] at q0
  obtain ⟨K, hK⟩ := Int.eq_ofNat_of_zero_le zk.1
  have HK : Hid (z.k = (K : Int)) := hK
  clear hK
  obtain ⟨k, hk⟩ : ∃ k, K % n = k := ⟨_, rfl⟩
  have hkn : k < n := by rw [← hk]; exact Nat.mod_lt _ n0
  have Hk : Hid (K % n = k) := hk
  have nn : ((n : Int) == 0) = false := beq_eq_false_iff_ne.2 (by omega)
  clear hn hk hN
  go_upto_region 32 with (fail)
  generalize wr.heap.size = B at st1 bz1 hwB HM hnext q0 q1 q2 q3 q4 q5 ⊢
  generalize (wr.alloc (.cells #[.int .u8 z.o, .int .i64 z.a, .int .u16 z.k] 59)) = W2 at st1 bz1 q0 HM hnext q1 q2 q3 q4 q5 ⊢
  clear c0 c1 c2
  obtain ⟨d0, d1, d2⟩ := bz1.cells
  rw [HK.out] at d2
  have kb : (K : Int) ≤ 65535 := by have := HK.out; omega
  have kb0 : (0 : Int) ≤ (K : Int) := by omega
  have kw : IntKind.i64.wrap (K : Int) = (K : Int) := IntWalk.i64_in _ (by omega)
  have n0' : (0 : Int) < (n : Int) := by omega
  go_upto_region 33 with (fail)
  go_quiet (fail)
  go_upto_region 34 with (fail)
  rw [show ((K : Int) % (n : Int)) = (k : Int) from by rw [← Hk.out]; simp]
  simp only [hop]
  have eq : Ext W2 (W2.drewN nq) := (Ext.refl W2).drewN nq
  obtain ⟨st2, kp⟩ := st1.ext eq
  have bz2 := bz1.kept (kp B (.inr rfl))
  clear eq kp st1 bz1 HM hnext q0 q1 q2 q3 q4 q5 d0 d1 d2 hv
  generalize W2.drewN nq = W3 at st2 bz2 ⊢
  obtain ⟨h, hh⟩ : ∃ h, M.hs[k]? = some h := ⟨_, List.getElem?_eq_getElem (by rw [Hn.out]; exact hkn)⟩
  obtain ⟨bl, hbl⟩ : ∃ b, M.live[k]? = some b := ⟨_, List.getElem?_eq_getElem (by rw [bk.rl.l4, Hn.out]; exact hkn)⟩
  obtain rfl : bl = false := hbv k bl (by rw [← Hk.out, ← Hn.out, HK.out]; simp) hbl
  have j1 : (0 : Int) ≤ (k : Int) := by omega
  have j2 : (k : Int) < (n : Int) := by omega
  obtain ⟨FM, ⟨v, HM⟩, _⟩ := st2.model
  obtain ⟨g0, k0, r0, r1, r2⟩ := HM.hsAt hh
  rw [Hn.out] at r0
  obtain ⟨d0, d1, d2⟩ := bz2.cells
  have Hh : Hid (M.hs[k]? = some h ∧ M.live[k]? = some false) := ⟨hh, hbl⟩
  have Hbk : Hid (Book S M i per) := bk
  clear hh hbl bk
  obtain ⟨s, hs, hpend⟩ := Hbk.out.rl.lost Hh.out.1 Hh.out.2
  rw [hs] at r1
  have bb := Hbk.out.bnd.m
  obtain ⟨F, hp, _⟩ := st2.heap
  go_cut [15] from 22 to 201 (fun okv wc => okv = .bool false ∧ Ext W3 wc)
  case first =>
    go_region_with ((go_at_call 19; refine (Reset_dead F hb S s h.g z.a _ (hp.ext ((Ext.refl _).drew)) (by omega) hpend).mono ?_; rintro r w1 ⟨rfl, e1⟩))
    all_goals
      go_wp2_with fail
      go_meet
      case rel => exact ⟨rfl, ((Ext.refl W3).drew).trans e1⟩
  case rest =>
    obtain ⟨rfl, e1⟩ := hcut
    obtain ⟨g4, k4, _, t0, t1, _⟩ := (HM.ext e1).liveAt Hh.out.2
    rw [Hbk.out.rl.l4, Hn.out] at t0
    go_wp2_with fail
    refine ⟨?_, by simp [Wmu, intOf]; omega⟩
    unfold WI
    (repeat apply Exists.intro)
    exact ⟨⟨i + 1, S, M, by go_num, by omega, ((st2.ext e1).1).forget _ (fun b hb => hb.elim), Hbk.out.mono (Nat.le_succ i)⟩, rfl⟩
end Go.Proofs.Ybulkadzc
