import Derived.Test.YbulkadzcRunDefs
namespace Go.Proofs.Ybulkadzc
open Go.RowKit
set_option maxHeartbeats 16000000 in
set_option maxRecDepth 1000000 in
theorem round_per {w wr : World} {b off len cap hb mb i : Nat} {per : Bool} {S : HSt} {M : Mdl} {z : Stp} (R : Rnd w wr b off len cap hb mb i per S M z) (hop : z.o % 4 = 1) (hper : per = true) (K0 : Act → World → Prop) (R0 : Ending → World → Prop) (u4 u5 u6 u10 u11 u12 u13 u14 u15 u16 u17 u18 u22 u23 u24 u25 u26 u27 u28 u29 u30 u31 u32 u33 u34 u35 u36 u37 u38 u39 u40 u41 u42 u43 u44 u45 u46 u47 u48 u49 u50 u51 u52 u53 u54 u55 u56 u57 u58 u59 u60 u61 u62 u63 u64 u65 u66 u67 u68 u69 u70 u71 u72 u73 u74 u75 u76 u77 u78 u79 u80 u81 u82 u83 u84 u85 u86 u87 u88 u89 u90 u91 u92 u93 u94 u95 u96 u97 u98 u99 u100 u101 u102 u103 u104 u105 u106 u107 u108 u109 u110 u111 u112 u113 u114 u115 u116 u117 u118 u119 u120 u121 u122 u123 u124 u125 u126 u127 u128 u129 u130 u131 u132 u133 u134 u135 u136 u137 u138 u139 u140 u141 u142 u143 u144 u145 u146 u147 u148 u149 u150 u151 u152 u153 u154 u155 u156 u157 u158 u159 u160 u161 u162 u163 u164 u165 u166 u167 u168 u169 u170 u171 u172 u173 u174 u175 u176 u177 u178 u179 u180 u181 u182 u183 u184 u185 u186 u187 u188 u189 u190 u191 u192 u193 u194 u195 u196 u197 u198 u199 u200 u201 : Value) :
    Code.wp Yba.prog ((Yba.f10.body.bind firstLoop).getD .skip) (Exit.then (fun a' w'' => WI w (some ⟨b, off, none⟩) len cap hb mb per a' w'' ∧ Wmu len a' w'' < Wmu len ⟨#[.slice (some ⟨b, off, none⟩) len cap, .bool per, undef, undef, u4, u5, u6, .pointer (some ⟨hb, 0, none⟩), .pointer (some ⟨mb, 0, none⟩), .int .i64 i, u10, u11, u12, u13, u14, u15, u16, u17, u18, .pointer (some ⟨hb, 0, none⟩), .agg #[.slice none 0 0, .slice none 0 0, .slice none 0 0, .slice none 0 0, .slice none 0 0, .int .u64 0], .pointer (some ⟨mb, 0, none⟩), u22, u23, u24, u25, u26, u27, u28, u29, u30, u31, u32, u33, u34, u35, u36, u37, u38, u39, u40, u41, u42, u43, u44, u45, u46, u47, u48, u49, u50, u51, u52, u53, u54, u55, u56, u57, u58, u59, u60, u61, u62, u63, u64, u65, u66, u67, u68, u69, u70, u71, u72, u73, u74, u75, u76, u77, u78, u79, u80, u81, u82, u83, u84, u85, u86, u87, u88, u89, u90, u91, u92, u93, u94, u95, u96, u97, u98, u99, u100, u101, u102, u103, u104, u105, u106, u107, u108, u109, u110, u111, u112, u113, u114, u115, u116, u117, u118, u119, u120, u121, u122, u123, u124, u125, u126, u127, u128, u129, u130, u131, u132, u133, u134, u135, u136, u137, u138, u139, u140, u141, u142, u143, u144, u145, u146, u147, u148, u149, u150, u151, u152, u153, u154, u155, u156, u157, u158, u159, u160, u161, u162, u163, u164, u165, u166, u167, u168, u169, u170, u171, u172, u173, u174, u175, u176, u177, u178, u179, u180, u181, u182, u183, u184, u185, u186, u187, u188, u189, u190, u191, u192, u193, u194, u195, u196, u197, u198, u199, u200, u201, undef, undef], []⟩ wr) (Exit.inBlock 0 (Exit.then K0 (bodyPost Yba.prog Yba.f10 R0)))) ⟨#[.slice (some ⟨b, off, none⟩) len cap, .bool per, undef, undef, u4, u5, u6, .pointer (some ⟨hb, 0, none⟩), .pointer (some ⟨mb, 0, none⟩), .int .i64 i, u10, u11, u12, u13, u14, u15, u16, u17, u18, .pointer (some ⟨hb, 0, none⟩), .agg #[.slice none 0 0, .slice none 0 0, .slice none 0 0, .slice none 0 0, .slice none 0 0, .int .u64 0], .pointer (some ⟨mb, 0, none⟩), u22, u23, u24, u25, u26, u27, u28, u29, u30, u31, u32, u33, u34, u35, u36, u37, u38, u39, u40, u41, u42, u43, u44, u45, u46, u47, u48, u49, u50, u51, u52, u53, u54, u55, u56, u57, u58, u59, u60, u61, u62, u63, u64, u65, u66, u67, u68, u69, u70, u71, u72, u73, u74, u75, u76, u77, u78, u79, u80, u81, u82, u83, u84, u85, u86, u87, u88, u89, u90, u91, u92, u93, u94, u95, u96, u97, u98, u99, u100, u101, u102, u103, u104, u105, u106, u107, u108, u109, u110, u111, u112, u113, u114, u115, u116, u117, u118, u119, u120, u121, u122, u123, u124, u125, u126, u127, u128, u129, u130, u131, u132, u133, u134, u135, u136, u137, u138, u139, u140, u141, u142, u143, u144, u145, u146, u147, u148, u149, u150, u151, u152, u153, u154, u155, u156, u157, u158, u159, u160, u161, u162, u163, u164, u165, u166, u167, u168, u169, u170, u171, u172, u173, u174, u175, u176, u177, u178, u179, u180, u181, u182, u183, u184, u185, u186, u187, u188, u189, u190, u191, u192, u193, u194, u195, u196, u197, u198, u199, u200, u201, undef, undef], []⟩ wr := by
  obtain ⟨hlt, hl, zo, za, zk, c0, c1, c2, st, bk⟩ := R
  have i1 : (0 : Int) ≤ (i : Int) := by omega
  have i2 : (i : Int) < (len : Int) := by omega
  have st1 := st.new (.cells #[.int .u8 z.o, .int .i64 z.a, .int .u16 z.k] 59)
  have bz1 : SBox (wr.alloc (.cells #[.int .u8 z.o, .int .i64 z.a, .int .u16 z.k] 59)) wr.heap.size z := heap_new_at _ _ _ rfl
  have hwB : w.heap.size ≤ wr.heap.size := st.size
  clear st
  conv => arg 2; whnf
  subst hper
  go_wp2_with fail
  generalize wr.heap.size = B at st1 bz1 hwB ⊢
  generalize (wr.alloc (.cells #[.int .u8 z.o, .int .i64 z.a, .int .u16 z.k] 59)) = W2 at st1 bz1 ⊢
  clear c0 c1 c2
  obtain ⟨F, hp, hnext⟩ := st1.heap
  refine (AddPeriodic_ok F hb S z.a (z.k % 256 + 1) i _ hp (by omega) (by have := bk.bnd.p; omega) (bk.goodP (by omega) 0).2 (bk.goodP (by omega) (z.k % 256 + 1)).1).mono ?_
  rintro r W3 ⟨S', F', y, hs, hy, rfl, hp', fr'⟩
  obtain ⟨st2, kp⟩ := hnext W3 S' F' hp' fr'
  have bz2 := bz1.kept (kp B (.inr rfl))
  have bk2 : Hid (Book _ _ _ _) := bk.addP (by omega) za hs hy
  have Hal : Hid (_ ∧ _) := bk.lens (by omega)
  clear hnext hp hp' fr' st1 bz1 hs hy kp bk
  obtain ⟨d0, d1, d2⟩ := bz2.cells
  have hB3 := bz2.lt
  go_wp2_with fail
  have st3 := st2.new (.cells #[.int .u32 (S.keptP (z.k % 256 + 1)).takes, .int .u32 y.gen] 29)
  obtain ⟨FM, hm, hnext⟩ := st3.model
  refine (push_ok FM mb M (S.keptP (z.k % 256 + 1)).takes y.gen z.a i _ hm Hal.out.1 Hal.out.2).mono ?_
  rintro r W4 ⟨rfl, FM', hm', fr'⟩
  obtain ⟨st4, _⟩ := hnext W4 _ FM' hm' fr'
  clear hnext hm hm' fr' st3 st2 bz2 d0 d1 d2
  go_wp2_with fail
  refine ⟨?_, by simp [Wmu, intOf]; omega⟩
  unfold WI
  (repeat apply Exists.intro)
  exact ⟨⟨i + 1, S', _, by go_num, by omega, st4.forget _ (fun b hb => hb.elim), bk2.out⟩, rfl⟩
end Go.Proofs.Ybulkadzc
