import Derived.Test.YbulkadzcMem2
namespace Go.Proofs.Ybulkadzc
open Go.RowKit

theorem Yba.info41 : (Yba.prog.info? 41).map (fun i => (i.zero, i.size, i.bytes)) = some (some (.agg #[.int .i64 0, .int .u32 0, .int .u32 0]), 3, 16) := by kernel_rfl
theorem Yba.info36 : (Yba.prog.info? 36).map (fun i => (i.zero, i.size, i.bytes)) = some (some (.agg #[.int .i64 0, .int .u64 0, .int .u32 0, .int .u32 0]), 4, 24) := by kernel_rfl
theorem Yba.info2 : (Yba.prog.info? 2).map (fun i => (i.zero, i.size, i.bytes)) = some (some (.int .i64 0), 1, 8) := by kernel_rfl

theorem ownsRow_shape {w : World} {base : Nat} {e : TypeId} {size : Nat} {v : Value} {n : Nat} {xs : List Value} (h : w.ownsRow base e size v n xs) : ∃ a cap, v = .slice a n cap := by
  rcases h.2 with ⟨rfl, rfl⟩ | ⟨g, cap, cur, rfl, _⟩
  · exact ⟨none, 0, rfl⟩
  · exact ⟨_, cap, rfl⟩

set_option maxHeartbeats 1000000 in
theorem takeSlot_new (F : Nat → Prop) (hb : Nat) (S : HSt) (w : World) (hS : HP w F hb S) (hf : S.free = 0) (hm : S.slots.length < 1000000) :
    Calls Yba.prog 26 #[.pointer (some ⟨hb, 0, none⟩)] w
      fun r w' => r = .returned (.int .u32 S.slots.length) ∧ ∃ F', HP w' F' hb { S with slots := S.slots ++ [⟨0, 0, 1⟩] } ∧ Fr w w' F F' := by
  obtain ⟨ev, sv, pv, H⟩ := hS
  obtain ⟨sa, sc, rfl⟩ := ownsRow_shape H.slots
  obtain ⟨h0, h1, h2, h3, h4, h5⟩ := H.cells
  have hlt := H.lt
  have z1 := H.thaw 1
  rw [hf] at h2
  have hlen : Hid (w.ownsRow 0 41 3 (.slice sa S.slots.length sc) S.slots.length (sflat S.slots)) := H.slots
  obtain ⟨ii, hi, hz0, hz1, hz2⟩ := info_parts Yba.info41
  have HF : Hid (S.free = 0) := hf
  clear hf
  go_enter Yba.func26, Yba.ntmps26
  go_wp2_with (at_builtin; refine wpList_append_lies _ rfl _ _ _ rfl 0 41 ii _ 3 16 Yba.underlying32 hi hz0 hz1 hz2 rfl (by omega) (.slice sa S.slots.length sc) S.slots.length (sflat S.slots) rfl ((H.alloc _).slots) _ 1 1 (Slt.cells ⟨0, 0, 1⟩) rfl rfl (World.news_of_block (heap_alloc_new w _)) (by simp [Slt.cells, Value.oneCell']) (by omega) (by unfold maxLen; omega) (by omega) (by omega) _ rfl ?_)
  intro g cap w1 own gr hg hlt1
  have H1 := (H.alloc _).slotsAppended _ own gr (by simpa using hg) hlt1
  have fr1 := Fr.appended H.Fh (fun k hk => (H.Fs k hk).1) gr (by simpa using hg) 1 (.slice (some ⟨g, 0, none⟩) (S.slots.length + 1) cap)
  have c1 : w1.cell? ⟨hb, 1, none⟩ = some (.slice sa S.slots.length sc) := by
    rw [gr.cell_far ⟨hb, 1, none⟩ (by simp; omega) (fun e => (H.Fs hb e.symm).2.1 rfl)]
    exact (H.alloc _).cells.2.1
  have c2 : w1.frozen? ⟨hb, 1, none⟩ = false := by
    rw [gr.frozen_far ⟨hb, 1, none⟩ (by simp; omega) (fun e => (H.Fs hb e.symm).2.1 rfl)]
    exact (H.alloc _).thaw 1
  have HH : Hid (_ ∧ _) := ⟨H1, fr1⟩
  clear H1 fr1 own gr hg
  go_wp2_with fail
  go_ret
  exact ⟨rfl, _, ⟨_, _, _, HH.out.1⟩, ((Fr.refl w F).alloc _).trans HH.out.2⟩

set_option maxHeartbeats 1000000 in
theorem takeSlot_free (F : Nat → Prop) (hb : Nat) (S : HSt) (w : World) (hS : HP w F hb S) (f : Nat) (y : Slt) (hf : S.free = (f : Int) + 1) (hm : S.slots.length < 1000000) (hy : S.slots[f]? = some y) :
    Calls Yba.prog 26 #[.pointer (some ⟨hb, 0, none⟩)] w
      fun r w' => r = .returned (.int .u32 f) ∧ HP w' F hb { S with free := y.pos } ∧ Fr w w' F F := by
  have hfl := (List.getElem?_eq_some_iff.1 hy).1
  obtain ⟨ev, sv, pv, H⟩ := hS
  obtain ⟨sb, sc, rfl, hsc, hlt2⟩ := ownsRow_form H.slots (by omega)
  obtain ⟨h0, h1, h2, h3, h4, h5⟩ := H.cells
  obtain ⟨q0, q1, q2⟩ := H.sltAt hy
  have hlt := H.lt
  have z1 := H.thaw 2
  rw [hf] at h2
  have H1 := H.setFree y.pos
  have fr1 : Fr w (w.setCell ⟨hb, 2, none⟩ (.int .u32 y.pos)) F F := (Fr.refl w F).setCell H.Fh _
  have HH : Hid (_ ∧ _) := ⟨H1, fr1⟩
  have HF : Hid (S.free = (f : Int) + 1) := hf
  have ne : ((f : Int) + 1 != 0) = true := by rw [bne_iff_ne]; omega
  have b1 : (0 : Int) ≤ (f : Int) := by omega
  have b2 : (f : Int) < (S.slots.length : Int) := by omega
  clear hf H1 fr1 H hy
  go_enter Yba.func26, Yba.ntmps26
  go_wp2_with fail
  go_ret
  exact ⟨rfl, ⟨_, _, _, HH.out.1⟩, HH.out.2⟩

/-- The slot that is taken next, and the state behind the taking. -/
def HSt.takes (S : HSt) : Nat := if S.free = 0 then S.slots.length else (S.free - 1).toNat
def HSt.took (S : HSt) : HSt := if S.free = 0 then { S with slots := S.slots ++ [⟨0, 0, 1⟩] } else
  match S.slots[(S.free - 1).toNat]? with
  | some y => { S with free := y.pos }
  | none => S

theorem takeSlot_any (F : Nat → Prop) (hb : Nat) (S : HSt) (w : World) (hS : HP w F hb S) (hm : S.slots.length < 1000000) (hf : S.free = 0 ∨ (0 < S.free ∧ (S.free - 1).toNat < S.slots.length)) :
    Calls Yba.prog 26 #[.pointer (some ⟨hb, 0, none⟩)] w
      fun r w' => r = .returned (.int .u32 S.takes) ∧ ∃ F', HP w' F' hb S.took ∧ Fr w w' F F' := by
  by_cases h : S.free = 0
  · simp only [HSt.takes, HSt.took, if_pos h]
    exact takeSlot_new F hb S w hS h hm
  · simp only [HSt.takes, HSt.took, if_neg h]
    obtain ⟨h1, h2⟩ := hf.resolve_left h
    have hy := List.getElem?_eq_getElem h2
    rw [hy]
    refine (takeSlot_free F hb S w hS (S.free - 1).toNat _ (by omega) hm hy).mono ?_
    rintro r w' ⟨rfl, hp, fr⟩
    exact ⟨rfl, F, hp, fr⟩
end Go.Proofs.Ybulkadzc
