import Derived.Test.YbulkadzcReset
namespace Go.Proofs.Ybulkadzc
open Go.RowKit

set_option maxHeartbeats 1000000 in
theorem keepPeriod_new (F : Nat → Prop) (hb : Nat) (S : HSt) (per : Int) (w : World) (hS : HP w F hb S) (hf : S.fp = 0) (hm : S.pers.length < 1000000) :
    Calls Yba.prog 28 #[.pointer (some ⟨hb, 0, none⟩), .int .i64 per] w
      fun r w' => r = .returned (.int .u32 ((S.pers.length : Int) + 1)) ∧ ∃ F', HP w' F' hb { S with pers := S.pers ++ [per] } ∧ Fr w w' F F' := by
  obtain ⟨ev, sv, pv, H⟩ := hS
  obtain ⟨sa, sc, rfl⟩ := ownsRow_shape H.pers
  obtain ⟨h0, h1, h2, h3, h4, h5⟩ := H.cells
  have hlt := H.lt
  have z1 := H.thaw 4
  rw [hf] at h5
  obtain ⟨ii, hi, hz0, hz1, hz2⟩ := info_parts Yba.info2
  have HF : Hid (S.fp = 0) := hf
  clear hf
  go_enter Yba.func28, Yba.ntmps28
  go_wp2_with (at_builtin; refine wpList_append_lies _ rfl _ _ _ rfl 0 2 ii _ 1 8 Yba.underlying22 hi hz0 hz1 hz2 rfl (by omega) (.slice sa S.pers.length sc) S.pers.length (pflat S.pers) rfl ((H.alloc _).pers) _ 1 1 [.int .i64 per] rfl rfl (World.news_of_block (heap_alloc_new w _)) (by simp [Value.oneCell']) (by omega) (by unfold maxLen; omega) (by omega) (by omega) _ rfl ?_)
  intro g cap w1 own gr hg hlt1
  have H1 := (H.alloc _).persAppended _ own gr (by simpa using hg) hlt1
  have fr1 := Fr.appended H.Fh (fun k hk => (H.Fp k hk).1) gr (by simpa using hg) 4 (.slice (some ⟨g, 0, none⟩) (S.pers.length + 1) cap)
  have c1 : w1.cell? ⟨hb, 4, none⟩ = some (.slice sa S.pers.length sc) := by
    rw [gr.cell_far ⟨hb, 4, none⟩ (by simp; omega) (fun e => (H.Fp hb e.symm).2.1 rfl)]
    exact (H.alloc _).cells.2.2.2.2.1
  have c2 : w1.frozen? ⟨hb, 4, none⟩ = false := by
    rw [gr.frozen_far ⟨hb, 4, none⟩ (by simp; omega) (fun e => (H.Fp hb e.symm).2.1 rfl)]
    exact (H.alloc _).thaw 4
  have HH : Hid (_ ∧ _) := ⟨H1, fr1⟩
  clear H1 fr1 own gr hg
  go_wp2_with fail
  go_ret
  exact ⟨ret_int rfl, _, ⟨_, _, _, HH.out.1⟩, ((Fr.refl w F).alloc _).trans HH.out.2⟩

set_option maxHeartbeats 1000000 in
theorem keepPeriod_free (F : Nat → Prop) (hb : Nat) (S : HSt) (per nx : Int) (q : Nat) (w : World) (hS : HP w F hb S) (hf : S.fp = (q : Int) + 1) (hm : S.pers.length < 1000000) (hq : S.pers[q]? = some nx) (hnx : 0 ≤ nx ∧ nx ≤ 1000000) :
    Calls Yba.prog 28 #[.pointer (some ⟨hb, 0, none⟩), .int .i64 per] w
      fun r w' => r = .returned (.int .u32 ((q : Int) + 1)) ∧ HP w' F hb { S with fp := nx, pers := S.pers.set q per } ∧ Fr w w' F F := by
  have hfl := (List.getElem?_eq_some_iff.1 hq).1
  obtain ⟨ev, sv, pv, H⟩ := hS
  obtain ⟨pb, pc, rfl, hpc, hlt2⟩ := ownsRow_form H.pers (by omega)
  obtain ⟨h0, h1, h2, h3, h4, h5⟩ := H.cells
  have p0 := H.perAt hq
  have hlt := H.lt
  have z5 := H.thaw 5
  have zp := frozen_row H.pers q
  rw [hf] at h5
  have H1 : HPv ((w.setCell ⟨hb, 5, none⟩ (.int .u32 nx)).setCell ⟨pb, q, none⟩ (.int .i64 per)) F hb { S with fp := nx, pers := S.pers.set q per } ev sv (.slice (some ⟨pb, 0, none⟩) S.pers.length pc) := (H.setFp nx).setPer q per
  have hps := H.Fp pb rfl
  have e3 : hb ≠ pb := Ne.symm hps.2.1
  have fr1 : Fr w ((w.setCell ⟨hb, 5, none⟩ (.int .u32 nx)).setCell ⟨pb, q, none⟩ (.int .i64 per)) F F := ((Fr.refl w F).setCell H.Fh _).setCell hps.1 _
  have HH : Hid (_ ∧ _) := ⟨H1, fr1⟩
  have ne : ((q : Int) + 1 != 0) = true := by rw [bne_iff_ne]; omega
  have b1 : (0 : Int) ≤ (q : Int) := by omega
  have b2 : (q : Int) < (S.pers.length : Int) := by omega
  clear hf H1 fr1 H hq hps
  go_enter Yba.func28, Yba.ntmps28
  go_wp2_with fail
  go_ret
  exact ⟨rfl, ⟨_, _, _, HH.out.1⟩, HH.out.2⟩

def HSt.keeps (S : HSt) : Int := if S.fp = 0 then (S.pers.length : Int) + 1 else S.fp
def HSt.keptP (S : HSt) (per : Int) : HSt := if S.fp = 0 then { S with pers := S.pers ++ [per] } else { S with fp := S.pers.getD (S.fp - 1).toNat 0, pers := S.pers.set (S.fp - 1).toNat per }

theorem keepPeriod_any (F : Nat → Prop) (hb : Nat) (S : HSt) (per : Int) (w : World) (hS : HP w F hb S) (hm : S.pers.length < 1000000)
    (hf : S.fp = 0 ∨ (0 < S.fp ∧ ∃ nx, S.pers[(S.fp - 1).toNat]? = some nx ∧ 0 ≤ nx ∧ nx ≤ 1000000)) :
    Calls Yba.prog 28 #[.pointer (some ⟨hb, 0, none⟩), .int .i64 per] w
      fun r w' => r = .returned (.int .u32 S.keeps) ∧ ∃ F', HP w' F' hb (S.keptP per) ∧ Fr w w' F F' := by
  by_cases h : S.fp = 0
  · simp only [HSt.keeps, HSt.keptP, if_pos h]
    exact keepPeriod_new F hb S per w hS h hm
  · obtain ⟨h1, nx, hx, h2, h3⟩ := hf.resolve_left h
    simp only [HSt.keeps, HSt.keptP, if_neg h]
    refine (keepPeriod_free F hb S per nx (S.fp - 1).toNat w hS (by omega) hm hx ⟨h2, h3⟩).mono ?_
    rintro r w' ⟨rfl, hp, fr⟩
    refine ⟨ret_int (by omega), F, ?_, fr⟩
    rw [List.getD_eq_getElem?_getD, hx]
    exact hp

set_option maxHeartbeats 1000000 in
theorem AddPeriodic_ok (F : Nat → Prop) (hb : Nat) (S : HSt) (d per v : Int) (w : World) (hS : HP w F hb S) (hper : 0 < per) (hm : S.pers.length < 1000000)
    (hf : S.fp = 0 ∨ (0 < S.fp ∧ ∃ nx, S.pers[(S.fp - 1).toNat]? = some nx ∧ 0 ≤ nx ∧ nx ≤ 1000000)) (hG : Good (S.keptP per)) :
    Calls Yba.prog 18 #[.pointer (some ⟨hb, 0, none⟩), .int .i64 d, .int .i64 per, .int .i64 v] w
      fun r w' => ∃ S' F' y, Sifted (((S.keptP per).toAdd d S.keeps v).place (S.keptP per).ents.length ⟨d, (S.keptP per).armed + 1, (S.keptP per).takes, S.keeps⟩) S' ∧ S'.slots[(S.keptP per).takes]? = some y ∧ r = .returned (.agg #[.int .u32 (S.keptP per).takes, .int .u32 y.gen]) ∧ HP w' F' hb S' ∧ Fr w w' F F' := by
  have hnF : ∀ k, w.heap.size ≤ k → ¬ F k := by
    obtain ⟨_, _, _, H⟩ := hS
    intro k hk f; have := H.Flt _ f; omega
  have HI : Hid (SInv _ _ _ _ _) := toAdd_sinv hG d S.keeps v
  have hG' : Hid (Good (S.keptP per)) := hG
  have hp0 : ¬ per ≤ 0 := by omega
  clear hG
  go_enter Yba.func18, Yba.ntmps18
  go_wp2_with fail
  refine (keepPeriod_any F hb S per _ (hS.ext ((Ext.refl w).alloc _)) hm hf).mono ?_
  rintro r W1 ⟨rfl, F1, hS1, fr1⟩
  have hn1 : Hnd W1 w.heap.size 0 0 := by
    unfold Hnd
    rw [fr1.block _ (by simp) (hnF _ (by omega))]
    exact heap_new_at _ _ _ rfl
  have nf1 : ¬ F1 w.heap.size := fun f => hnF _ (Nat.le_refl _) (fr1.foot _ (by simp) f)
  have fw1 : Fr w W1 F F1 := ((Fr.refl w F).alloc _).trans fr1
  clear fr1
  obtain ⟨T, hT⟩ : ∃ T, S.keptP per = T := ⟨_, rfl⟩
  rw [hT] at hS1 HI hG'
  have hT' : Hid (S.keptP per = T) := hT
  clear hT
  go_wp2_with fail
  have hn := hG'.out.n
  have hm' := hG'.out.m
  have ha := hG'.out.a
  refine (add_ok F1 hb T d 0 0 S.keeps v _ hS1 (by omega) (by omega) (by omega) hG'.out.f HI.out).mono ?_
  rintro r W2 ⟨S', F2, y, hs, hy, rfl, ⟨ev1, sv1, pv1, H2⟩, fr2⟩
  have hn2 := hn1.kept (fr2.block _ hn1.lt nf1)
  have nf2 : ¬ F2 w.heap.size := fun f => nf1 (fr2.foot _ hn1.lt f)
  have fw2 := fw1.trans fr2
  obtain ⟨d0, d1⟩ := hn2.cells
  have e0 := hn2.thaw 0
  have e1 := hn2.thaw 1
  have HS : Hid (_ ∧ _) := ⟨hs, hy⟩
  clear hs hy
  go_wp2_with fail
  have hT := hT'.out
  refine bodyPost_ret (v := .agg #[.int .u32 T.takes, .int .u32 y.gen]) (by simp [results, Yba.results18, go_sem, *]) rfl ⟨S', F2, y, by rw [hT]; exact HS.out.1, by rw [hT]; exact HS.out.2, by rw [hT], ⟨_, _, _, (H2.setOther (p := ⟨w.heap.size, 0, none⟩) nf2 _).setOther (p := ⟨w.heap.size, 1, none⟩) nf2 _⟩, (fw2.setNew (p := ⟨w.heap.size, 0, none⟩) (by simp) _).setNew (p := ⟨w.heap.size, 1, none⟩) (by simp) _⟩
end Go.Proofs.Ybulkadzc
