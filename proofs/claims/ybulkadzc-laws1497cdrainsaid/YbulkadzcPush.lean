import Derived.Test.YbulkadzcModel
namespace Go.Proofs.Ybulkadzc
open Go.RowKit

/-- Between the statements of push. -/
def PSt (w wq : World) (F : Nat → Prop) (mb : Nat) (M : Mdl) (B : Nat) (s g : Int) : Prop :=
  ∃ Fq, MP wq Fq mb M ∧ Fr w wq F Fq ∧ Hnd wq B s g ∧ ¬ Fq B

theorem PSt.append {w wq w1 : World} {F Fq : Nat → Prop} {mb : Nat} {M M' : Mdl} {v : Nat → Value} {B : Nat} {s t : Int} {j g cap : Nat} {news : List Value}
    (H : MPv wq Fq mb M v) (fw : Fr w wq F Fq) (hn : Hnd wq B s t) (nf : ¬ Fq B) {W : World} (hW : Ext wq W) (hj : j < 5)
    (own : w1.ownsRow 0 (mty j) (msz j) (.slice (some ⟨g, 0, none⟩) (M.len j + 1) cap) (M.len j + 1) (M.row j ++ news)) (gr : W.grownBy w1 (v j).ownBlock) (hg : (v j).ownBlock = some g ∨ g = W.heap.size) (hlt : g < w1.heap.size)
    (hM : ∀ i, i < 5 → i ≠ j → M'.len i = M.len i ∧ M'.row i = M.row i) (hMj : M'.len j = M.len j + 1 ∧ M'.row j = M.row j ++ news) (ha : M'.armed = M.armed) :
    PSt w (w1.setCell ⟨mb, j, none⟩ (.slice (some ⟨g, 0, none⟩) (M.len j + 1) cap)) F mb M' B s t := by
  have H1 := H.ext hW
  have hBW : B < W.heap.size := Nat.lt_of_lt_of_le hn.lt hW.size
  have nB : g ≠ B := by
    rcases hg with hg | hg
    · exact fun e => nf (e ▸ (H.Fv j g hj hg).1)
    · omega
  have hBm : B ≠ mb := fun e => nf (e ▸ H.Fm)
  refine ⟨_, ⟨_, H1.appended hj M' news own gr hg hlt hM hMj ha⟩, fw.trans ((hW.fr Fq).trans (Fr.appended H.Fm (fun k hk => (H.Fv j k hj hk).1) gr hg j _)), hn.kept ?_, fun h => h.elim nf (fun e => nB e.symm)⟩
  rw [Below.heap_setCell _ _ _ _ hBm, gr.block B hBW (fun e => nf (H.Fv j B hj e.symm).1)]
  exact hW.blk hn.lt

set_option maxHeartbeats 4000000 in
theorem push_ok (F : Nat → Prop) (mb : Nat) (M : Mdl) (s g d x : Int) (w : World) (hM : MP w F mb M) (hl : ∀ j, j < 5 → M.len j < 100000) (ha : 0 ≤ M.armed ∧ M.armed ≤ 1000000) :
    Calls Yba.prog 17 #[.pointer (some ⟨mb, 0, none⟩), .agg #[.int .u32 s, .int .u32 g], .int .i64 d, .int .i64 x] w
      fun r w' => r = .returned (.tuple #[]) ∧ ∃ F', MP w' F' mb (M.push ⟨s, g⟩ d x) ∧ Fr w w' F F' := by
  obtain ⟨t29, e29, z29, s29, y29⟩ := info_parts Yba.info29
  obtain ⟨t2, e2, z2, s2, y2⟩ := info_parts Yba.info2
  obtain ⟨t24, e24, z24, s24, y24⟩ := info_parts Yba.info24
  obtain ⟨t3, e3, z3, s3, y3⟩ := info_parts Yba.info3
  obtain ⟨t4, e4, z4, s4, y4⟩ := info_parts Yba.info4
  have l0 : M.len 0 < 100000 := hl 0 (by omega)
  have l1 : M.len 1 < 100000 := hl 1 (by omega)
  have l2 : M.len 2 < 100000 := hl 2 (by omega)
  have l3 : M.len 3 < 100000 := hl 3 (by omega)
  have l4 : M.len 4 < 100000 := hl 4 (by omega)
  clear hl
  obtain ⟨v, H⟩ := hM
  obtain ⟨q0, q1, q2, q3, q4, q5⟩ := H.cells
  have zz := H.thaw 5
  have hlt := H.lt
  have nB : ¬ F w.heap.size := fun f => by have := H.Flt _ f; omega
  go_enter Yba.func17, Yba.ntmps17
  go_wp2_with fail
  have P1 : PSt w ((w.setCell ⟨mb, 5, none⟩ (.int .u64 (M.armed + 1))).alloc (.cells #[.int .u32 s, .int .u32 g] 29)) F mb { M with armed := M.armed + 1 } w.heap.size s g :=
    ⟨F, ⟨v, (H.setArmed (M.armed + 1)).alloc _⟩, ((Fr.refl w F).setCell (p := ⟨mb, 5, none⟩) H.Fm _).alloc _, heap_new_at _ _ _ (by simp [World.setCell]), nB⟩
  generalize w.heap.size = B at P1 ⊢
  generalize ((w.setCell ⟨mb, 5, none⟩ (.int .u64 (M.armed + 1))).alloc (.cells #[.int .u32 s, .int .u32 g] 29)) = W1 at P1 ⊢
  clear H q0 q1 q2 q3 q4 q5 zz hlt nB
  go_cut [] (fun wc => PSt w wc F mb { M with armed := M.armed + 1, hs := M.hs ++ [⟨s, g⟩] } B s g)
  case first =>
    obtain ⟨F1, ⟨v1, H⟩, fw, hn, nf⟩ := P1
    obtain ⟨va, vc, hv⟩ := H.shape 0 (by omega)
    obtain ⟨q0, _⟩ := H.cells
    rw [hv] at q0
    obtain ⟨d0, d1⟩ := hn.cells
    have hlt := H.lt
    have hltB := hn.lt
    have own0 := H.row 0 (by omega)
    rw [hv] at own0
    have lh : M.hs.length < 100000 := l0
    go_region_law ((refine step_append_lies _ (by rfl) _ _ _ (by rfl) 0 29 t29 _ 2 8 Yba.underlying50 e29 z29 s29 y29 rfl (by omega) (.slice va M.hs.length vc) M.hs.length (hflat M.hs) (by rfl) (ownsRow_congr own0 (fun k hk => Below.heap_alloc _ _ _ (own0.lt k hk).2)) _ 1 1 (Hd.cells ⟨s, g⟩) (by rfl) (by rfl) (World.news_of_block (heap_alloc_new W1 _)) (by simp [Hd.cells, Value.oneCell']) (by omega) (by unfold maxLen; omega) (by omega) (by omega) _ (by rfl) ?_; intro gg cap w1 own gr hg hlt1; have k1 : w1.cell? ⟨mb, 0, none⟩ = some (.slice va M.hs.length vc) := (gr.cell_far ⟨mb, 0, none⟩ (by simp; omega) (fun e => (H.Fv 0 mb (by omega) (by rw [hv]; exact e.symm)).2 rfl)).trans ((H.alloc _).cells.1.trans (by rw [hv]; rfl)); have k2 : w1.frozen? ⟨mb, 0, none⟩ = false := (gr.frozen_far ⟨mb, 0, none⟩ (by simp; omega) (fun e => (H.Fv 0 mb (by omega) (by rw [hv]; exact e.symm)).2 rfl)).trans ((H.alloc _).thaw 0)))
    all_goals
      go_wp2_with fail
      go_meet
      case rel => exact PSt.append (M := { M with armed := M.armed + 1 }) (v := v1) (j := 0) (news := Hd.cells ⟨s, g⟩) (M' := { M with armed := M.armed + 1, hs := M.hs ++ [⟨s, g⟩] }) H fw hn nf (((Ext.refl _).alloc _).drew) (by omega) own (by rw [hv]; exact gr) (by rw [hv]; exact hg.elim (fun h => .inl h) (fun h => .inr (by simpa using h))) hlt1 (fun i hi hne => by have : i = 1 ∨ i = 2 ∨ i = 3 ∨ i = 4 := (by omega); (rcases this with rfl | rfl | rfl | rfl <;> exact ⟨rfl, rfl⟩)) ⟨by simp [Mdl.len], by simp [Mdl.row, hflat, Hd.cells]⟩ rfl
  case rest =>
    clear P1
    obtain ⟨W2, hW2⟩ : ∃ W2, W2 = wc := ⟨_, rfl⟩
    rw [← hW2] at hcut ⊢
    clear hW2
    obtain ⟨F1, ⟨v1, H⟩, fw, hn, nf⟩ := hcut
    obtain ⟨va, vc, hv⟩ := H.shape 1 (by omega)
    obtain ⟨_, q1, _⟩ := H.cells
    rw [hv] at q1
    obtain ⟨d0, d1⟩ := hn.cells
    have hlt := H.lt
    have hltB := hn.lt
    have own0 := H.row 1 (by omega)
    rw [hv] at own0
    have lh : M.dl.length < 100000 := l1
    go_wp2_with (at_builtin; refine wpList_append_lies _ rfl _ _ _ rfl 0 2 t2 _ 1 8 Yba.underlying22 e2 z2 s2 y2 rfl (by omega) (.slice va M.dl.length vc) M.dl.length (M.dl.map (Value.int .i64)) rfl (ownsRow_congr own0 (fun k hk => Below.heap_alloc _ _ _ (own0.lt k hk).2)) _ 1 1 ([.int .i64 d]) rfl rfl (World.news_of_block (heap_alloc_new W2 _)) (by simp [Value.oneCell']) (by omega) (by unfold maxLen; omega) (by omega) (by omega) _ rfl ?_)
    intro gg cap w1 own gr hg hlt1
    have k1 : w1.cell? ⟨mb, 1, none⟩ = some (.slice va M.dl.length vc) := (gr.cell_far ⟨mb, 1, none⟩ (by simp; omega) (fun e => (H.Fv 1 mb (by omega) (by rw [hv]; exact e.symm)).2 rfl)).trans ((H.alloc _).cells.2.1.trans (by rw [hv]; rfl))
    have k2 : w1.frozen? ⟨mb, 1, none⟩ = false := (gr.frozen_far ⟨mb, 1, none⟩ (by simp; omega) (fun e => (H.Fv 1 mb (by omega) (by rw [hv]; exact e.symm)).2 rfl)).trans ((H.alloc _).thaw 1)
    have PN1 : PSt w (w1.setCell ⟨mb, 1, none⟩ (.slice (some ⟨gg, 0, none⟩) (M.dl.length + 1) cap)) F mb { M with armed := M.armed + 1, hs := M.hs ++ [⟨s, g⟩], dl := M.dl ++ [d] } B s g := PSt.append (M := { M with armed := M.armed + 1, hs := M.hs ++ [⟨s, g⟩] }) (v := v1) (j := 1) (news := [.int .i64 d]) (M' := { M with armed := M.armed + 1, hs := M.hs ++ [⟨s, g⟩], dl := M.dl ++ [d] }) H fw hn nf ((Ext.refl _).alloc _) (by omega) own (by rw [hv]; exact gr) (by rw [hv]; exact hg.elim (fun h => .inl h) (fun h => .inr (by simpa using h))) hlt1 (fun i hi hne => by have : i = 0 ∨ i = 2 ∨ i = 3 ∨ i = 4 := (by omega); (rcases this with rfl | rfl | rfl | rfl <;> exact ⟨rfl, rfl⟩)) ⟨by simp [Mdl.len], by simp [Mdl.row]⟩ rfl
    clear H fw hn nf hv q1 d0 d1 hlt hltB own0 lh own gr hg hlt1
    go_upto_region 4 with (fail)
    clear k1 k2
    generalize (w1.setCell ⟨mb, 1, none⟩ (.slice (some ⟨gg, 0, none⟩) (M.dl.length + 1) cap)) = W3 at PN1 ⊢
    go_cut [] (fun wc => PSt w wc F mb { M with armed := M.armed + 1, hs := M.hs ++ [⟨s, g⟩], dl := M.dl ++ [d], sq := M.sq ++ [M.armed + 1] } B s g)
    case first =>
      obtain ⟨F1, ⟨v1, H⟩, fw, hn, nf⟩ := PN1
      obtain ⟨va, vc, hv⟩ := H.shape 2 (by omega)
      obtain ⟨_, _, q2, _, _, q5⟩ := H.cells
      rw [hv] at q2
      obtain ⟨d0, d1⟩ := hn.cells
      have hlt := H.lt
      have hltB := hn.lt
      have own0 := H.row 2 (by omega)
      rw [hv] at own0
      have lh : M.sq.length < 100000 := l2
      go_region_law ((refine step_append_lies _ (by rfl) _ _ _ (by rfl) 0 24 t24 _ 1 8 Yba.underlying37 e24 z24 s24 y24 rfl (by omega) (.slice va M.sq.length vc) M.sq.length (M.sq.map (Value.int .u64)) (by rfl) (ownsRow_congr own0 (fun k hk => Below.heap_alloc _ _ _ (own0.lt k hk).2)) _ 1 1 ([.int .u64 (M.armed + 1)]) (by rfl) (by rfl) (World.news_of_block (heap_alloc_new W3 _)) (by simp [Value.oneCell']) (by omega) (by unfold maxLen; omega) (by omega) (by omega) _ (by rfl) ?_; intro gg cap w1 own gr hg hlt1; have k1 : w1.cell? ⟨mb, 2, none⟩ = some (.slice va M.sq.length vc) := (gr.cell_far ⟨mb, 2, none⟩ (by simp; omega) (fun e => (H.Fv 2 mb (by omega) (by rw [hv]; exact e.symm)).2 rfl)).trans ((H.alloc _).cells.2.2.1.trans (by rw [hv]; rfl)); have k2 : w1.frozen? ⟨mb, 2, none⟩ = false := (gr.frozen_far ⟨mb, 2, none⟩ (by simp; omega) (fun e => (H.Fv 2 mb (by omega) (by rw [hv]; exact e.symm)).2 rfl)).trans ((H.alloc _).thaw 2)))
      all_goals
        go_wp2_with fail
        go_meet
        case rel => exact PSt.append (M := { M with armed := M.armed + 1, hs := M.hs ++ [⟨s, g⟩], dl := M.dl ++ [d] }) (v := v1) (j := 2) (news := [.int .u64 (M.armed + 1)]) (M' := { M with armed := M.armed + 1, hs := M.hs ++ [⟨s, g⟩], dl := M.dl ++ [d], sq := M.sq ++ [M.armed + 1] }) H fw hn nf (((Ext.refl _).alloc _).drew) (by omega) own (by rw [hv]; exact gr) (by rw [hv]; exact hg.elim (fun h => .inl h) (fun h => .inr (by simpa using h))) hlt1 (fun i hi hne => by have : i = 0 ∨ i = 1 ∨ i = 3 ∨ i = 4 := (by omega); (rcases this with rfl | rfl | rfl | rfl <;> exact ⟨rfl, rfl⟩)) ⟨by simp [Mdl.len], by simp [Mdl.row]⟩ rfl
    case rest =>
      clear PN1
      obtain ⟨W4, hW4⟩ : ∃ W4, W4 = wc := ⟨_, rfl⟩
      rw [← hW4] at hcut ⊢
      clear hW4
      obtain ⟨F1, ⟨v1, H⟩, fw, hn, nf⟩ := hcut
      obtain ⟨va, vc, hv⟩ := H.shape 3 (by omega)
      obtain ⟨_, _, _, q3, _⟩ := H.cells
      rw [hv] at q3
      obtain ⟨d0, d1⟩ := hn.cells
      have hlt := H.lt
      have hltB := hn.lt
      have own0 := H.row 3 (by omega)
      rw [hv] at own0
      have lh : M.vals.length < 100000 := l3
      go_wp2_with (at_builtin; refine wpList_append_lies _ rfl _ _ _ rfl 0 3 t3 _ 1 8 Yba.underlying51 e3 z3 s3 y3 rfl (by omega) (.slice va M.vals.length vc) M.vals.length (M.vals.map (Value.int .i64)) rfl (ownsRow_congr own0 (fun k hk => Below.heap_alloc _ _ _ (own0.lt k hk).2)) _ 1 1 ([.int .i64 x]) rfl rfl (World.news_of_block (heap_alloc_new W4 _)) (by simp [Value.oneCell']) (by omega) (by unfold maxLen; omega) (by omega) (by omega) _ rfl ?_)
      intro gg cap w1 own gr hg hlt1
      have k1 : w1.cell? ⟨mb, 3, none⟩ = some (.slice va M.vals.length vc) := (gr.cell_far ⟨mb, 3, none⟩ (by simp; omega) (fun e => (H.Fv 3 mb (by omega) (by rw [hv]; exact e.symm)).2 rfl)).trans ((H.alloc _).cells.2.2.2.1.trans (by rw [hv]; rfl))
      have k2 : w1.frozen? ⟨mb, 3, none⟩ = false := (gr.frozen_far ⟨mb, 3, none⟩ (by simp; omega) (fun e => (H.Fv 3 mb (by omega) (by rw [hv]; exact e.symm)).2 rfl)).trans ((H.alloc _).thaw 3)
      have PN3 : PSt w (w1.setCell ⟨mb, 3, none⟩ (.slice (some ⟨gg, 0, none⟩) (M.vals.length + 1) cap)) F mb { M with armed := M.armed + 1, hs := M.hs ++ [⟨s, g⟩], dl := M.dl ++ [d], sq := M.sq ++ [M.armed + 1], vals := M.vals ++ [x] } B s g := PSt.append (M := { M with armed := M.armed + 1, hs := M.hs ++ [⟨s, g⟩], dl := M.dl ++ [d], sq := M.sq ++ [M.armed + 1] }) (v := v1) (j := 3) (news := [.int .i64 x]) (M' := { M with armed := M.armed + 1, hs := M.hs ++ [⟨s, g⟩], dl := M.dl ++ [d], sq := M.sq ++ [M.armed + 1], vals := M.vals ++ [x] }) H fw hn nf ((Ext.refl _).alloc _) (by omega) own (by rw [hv]; exact gr) (by rw [hv]; exact hg.elim (fun h => .inl h) (fun h => .inr (by simpa using h))) hlt1 (fun i hi hne => by have : i = 0 ∨ i = 1 ∨ i = 2 ∨ i = 4 := (by omega); (rcases this with rfl | rfl | rfl | rfl <;> exact ⟨rfl, rfl⟩)) ⟨by simp [Mdl.len], by simp [Mdl.row]⟩ rfl
      clear H fw hn nf hv q3 d0 d1 hlt hltB own0 lh own gr hg hlt1
      go_upto_region 6 with (fail)
      clear k1 k2
      generalize (w1.setCell ⟨mb, 3, none⟩ (.slice (some ⟨gg, 0, none⟩) (M.vals.length + 1) cap)) = W5 at PN3 ⊢
      obtain ⟨F1, ⟨v1, H⟩, fw, hn, nf⟩ := PN3
      obtain ⟨va, vc, hv⟩ := H.shape 4 (by omega)
      obtain ⟨_, _, _, _, q4, _⟩ := H.cells
      rw [hv] at q4
      obtain ⟨d0, d1⟩ := hn.cells
      have hlt := H.lt
      have hltB := hn.lt
      have own0 := H.row 4 (by omega)
      rw [hv] at own0
      have lh : M.live.length < 100000 := l4
      go_wp2_with (at_builtin; refine wpList_append_lies _ rfl _ _ _ rfl 0 4 t4 _ 1 1 Yba.underlying39 e4 z4 s4 y4 rfl (by omega) (.slice va M.live.length vc) M.live.length (M.live.map Value.bool) rfl (ownsRow_congr own0 (fun k hk => Below.heap_alloc _ _ _ (own0.lt k hk).2)) _ 1 1 ([.bool true]) rfl rfl (World.news_of_block (heap_alloc_new W5 _)) (by simp [Value.oneCell']) (by omega) (by unfold maxLen; omega) (by omega) (by omega) _ rfl ?_)
      intro gg cap w1 own gr hg hlt1
      have k1 : w1.cell? ⟨mb, 4, none⟩ = some (.slice va M.live.length vc) := (gr.cell_far ⟨mb, 4, none⟩ (by simp; omega) (fun e => (H.Fv 4 mb (by omega) (by rw [hv]; exact e.symm)).2 rfl)).trans ((H.alloc _).cells.2.2.2.2.1.trans (by rw [hv]; rfl))
      have k2 : w1.frozen? ⟨mb, 4, none⟩ = false := (gr.frozen_far ⟨mb, 4, none⟩ (by simp; omega) (fun e => (H.Fv 4 mb (by omega) (by rw [hv]; exact e.symm)).2 rfl)).trans ((H.alloc _).thaw 4)
      have PN4 : PSt w (w1.setCell ⟨mb, 4, none⟩ (.slice (some ⟨gg, 0, none⟩) (M.live.length + 1) cap)) F mb { M with armed := M.armed + 1, hs := M.hs ++ [⟨s, g⟩], dl := M.dl ++ [d], sq := M.sq ++ [M.armed + 1], vals := M.vals ++ [x], live := M.live ++ [true] } B s g := PSt.append (M := { M with armed := M.armed + 1, hs := M.hs ++ [⟨s, g⟩], dl := M.dl ++ [d], sq := M.sq ++ [M.armed + 1], vals := M.vals ++ [x] }) (v := v1) (j := 4) (news := [.bool true]) (M' := { M with armed := M.armed + 1, hs := M.hs ++ [⟨s, g⟩], dl := M.dl ++ [d], sq := M.sq ++ [M.armed + 1], vals := M.vals ++ [x], live := M.live ++ [true] }) H fw hn nf ((Ext.refl _).alloc _) (by omega) own (by rw [hv]; exact gr) (by rw [hv]; exact hg.elim (fun h => .inl h) (fun h => .inr (by simpa using h))) hlt1 (fun i hi hne => by have : i = 0 ∨ i = 1 ∨ i = 2 ∨ i = 3 := (by omega); (rcases this with rfl | rfl | rfl | rfl <;> exact ⟨rfl, rfl⟩)) ⟨by simp [Mdl.len], by simp [Mdl.row]⟩ rfl
      clear H fw hn nf hv q4 d0 d1 hlt hltB own0 lh own gr hg hlt1
      go_wp2_with fail
      go_end0
      obtain ⟨F', hm, fr, _⟩ := PN4
      exact ⟨rfl, F', hm, fr⟩
end Go.Proofs.Ybulkadzc
