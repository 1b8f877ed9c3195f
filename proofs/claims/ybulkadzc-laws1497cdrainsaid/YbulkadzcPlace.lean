import Derived.Test.YbulkadzcMem
namespace Go.Proofs.Ybulkadzc
open Go.RowKit
set_option maxHeartbeats 400000 in
theorem place_any (F : Nat → Prop) (hb : Nat) (S : HSt) (i : Nat) (e : Ent) (w : World) (hS : HP w F hb S)
    (hi : i < S.ents.length) (hn : S.ents.length ≤ 1000000) (hm : S.slots.length ≤ 1000000) (h0 : 0 ≤ e.l) (hl : e.l.toNat < S.slots.length) :
    Calls Yba.prog 27 #[.pointer (some ⟨hb, 0, none⟩), .int .i64 i, .agg #[.int .i64 e.d, .int .u64 e.s, .int .u32 e.l, .int .u32 e.p]] w
      fun r w' => r = .returned (.tuple #[]) ∧ HP w' F hb (S.place i e) ∧ Fr w w' F F := by
  obtain ⟨ev, sv, pv, H⟩ := hS
  obtain ⟨d, s, l, p⟩ := e
  simp only at h0 hl ⊢
  obtain ⟨l, rfl⟩ := Int.eq_ofNat_of_zero_le h0
  simp only [Int.toNat_natCast] at hl
  obtain ⟨eb, ec, rfl, hec, hlt1⟩ := ownsRow_form H.ents (by omega)
  obtain ⟨sb, sc, rfl, hsc, hlt2⟩ := ownsRow_form H.slots (by omega)
  obtain ⟨x, hx⟩ : ∃ x, S.ents[i]? = some x := ⟨_, List.getElem?_eq_getElem hi⟩
  obtain ⟨y, hy⟩ : ∃ y, S.slots[l]? = some y := ⟨_, List.getElem?_eq_getElem hl⟩
  obtain ⟨h0, h1, _⟩ := H.cells
  obtain ⟨c0, c1, c2, c3⟩ := H.entAt hx
  obtain ⟨_, q, _⟩ := H.sltAt hy
  have f0 := frozen_row H.ents (i * 4)
  have f1 := frozen_row H.ents (i * 4 + 1)
  have f2 := frozen_row H.ents (i * 4 + 2)
  have f3 := frozen_row H.ents (i * 4 + 3)
  have fq := frozen_row H.slots (l * 3 + 1)
  have he := (H.Fe eb rfl)
  have hs := (H.Fs sb rfl)
  have e1 : hb ≠ eb := Ne.symm he.2
  have e2 : hb ≠ sb := Ne.symm hs.2.1
  have e3 : eb ≠ sb := fun e => hs.2.2 (by simp [Value.ownBlock, e])
  have i1 : (0 : Int) ≤ (i : Int) := by omega
  have i2 : (i : Int) < (S.ents.length : Int) := by omega
  have i3 : (0 : Int) ≤ (l : Int) := by omega
  have i4 : (l : Int) < (S.slots.length : Int) := by omega
  have hlt := H.lt
  have KP := H.placed i l d s p hl
  have fr : Fr w (((((w.setCell ⟨eb, i * 4, none⟩ (.int .i64 d)).setCell ⟨eb, i * 4 + 1, none⟩ (.int .u64 s)).setCell ⟨eb, i * 4 + 2, none⟩ (.int .u32 l)).setCell ⟨eb, i * 4 + 3, none⟩ (.int .u32 p)).setCell ⟨sb, l * 3 + 1, none⟩ (.int .u32 i)) F F :=
    (((((Fr.refl w F).setCell he.1 _).setCell he.1 _).setCell he.1 _).setCell he.1 _).setCell hs.1 _
  have KP' : Hid (HPv _ _ _ _ _ _ _ ∧ Fr _ _ _ _) := ⟨KP, fr⟩
  clear KP fr he hs H hx hy
  go_enter Yba.func27, Yba.ntmps27
  go_wp2
  go_region
  go_wp2
  go_region
  go_end0
  exact ⟨rfl, ⟨_, _, _, ((KP'.out.1).alloc _).drew.drew⟩, (KP'.out.2.alloc _).drew.drew⟩
end Go.Proofs.Ybulkadzc
