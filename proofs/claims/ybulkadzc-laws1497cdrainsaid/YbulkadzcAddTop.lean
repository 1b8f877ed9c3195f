import Derived.Test.YbulkadzcAdd
namespace Go.Proofs.Ybulkadzc
open Go.RowKit

/-- The whole heap is in order. -/
structure Good (S : HSt) : Prop where
  ord : Ord S
  pos : PosOK S
  n : S.ents.length ≤ 100000
  m : S.slots.length ≤ 100000
  a : 0 ≤ S.armed ∧ S.armed ≤ 1000000
  f : S.free = 0 ∨ (0 < S.free ∧ (S.free - 1).toNat < S.slots.length)
  u : ∀ x ∈ S.ents, x.l.toNat ≠ S.takes

theorem took_slot (S : HSt) (k : Nat) (y : Slt) (h : S.slots[k]? = some y) : S.took.slots[k]? = some y := by
  unfold HSt.took
  split
  · simp only; rw [List.getElem?_append_left (List.getElem?_eq_some_iff.1 h).1]; exact h
  · split <;> exact h

theorem toAdd_place_ents (S : HSt) (d p v : Int) (e : Ent) : ((S.toAdd d p v).place S.ents.length e).ents = S.ents ++ [e] := by
  simp only [HSt.place, HSt.toAdd, took_ents]
  rw [List.set_append]
  simp

theorem toAdd_sinv {S : HSt} (h : Good S) (d p v : Int) :
    SInv OrdUp ((S.toAdd d p v).place S.ents.length ⟨d, S.armed + 1, S.takes, p⟩) ⟨d, S.armed + 1, S.takes, p⟩ (S.toAdd d p v) S.ents.length := by
  have hl := took_lt S h.f
  have hsl := took_slen S
  have hn := h.n
  have hm := h.m
  have hlen : (S.toAdd d p v).ents.length = S.ents.length + 1 := by simp [HSt.toAdd, took_ents]
  refine ⟨by omega, by omega, by simp [HSt.toAdd]; omega, ?_, ?_, Rel.refl _⟩
  · have := push_up (S := S) (e := ⟨d, S.armed + 1, S.takes, p⟩) h.ord
    have e1 := toAdd_place_ents S d p v ⟨d, S.armed + 1, S.takes, p⟩
    refine ⟨fun k x y k0 kn hx hy => this.1 k x y k0 kn ?_ ?_, fun k x y k0 kn i0 hx hy => this.2 k x y k0 kn i0 ?_ ?_⟩
    all_goals
      rw [e1] at hx hy
      assumption
  · intro k x hx
    rw [toAdd_place_ents] at hx
    by_cases hk : k < S.ents.length
    · rw [List.getElem?_append_left hk] at hx
      obtain ⟨x0, y, hy, py⟩ := h.pos k x hx
      have hu := h.u x (List.mem_iff_getElem?.2 ⟨k, hx⟩)
      refine ⟨x0, y, ?_, py⟩
      rw [place_slot, if_neg (by simp; exact Ne.symm hu)]
      simp only [HSt.toAdd]
      rw [List.getElem?_modify]
      simp [Ne.symm hu, took_slot S _ y hy]
    · rw [List.getElem?_append_right (by omega)] at hx
      have hk' : k = S.ents.length := by
        have := (List.getElem?_eq_some_iff.1 hx).1
        simp at this; omega
      subst hk'
      simp at hx
      subst hx
      refine ⟨by simp, ?_⟩
      rw [place_slot, if_pos (by simp)]
      simp only [HSt.toAdd, Int.toNat_natCast]
      rw [List.getElem?_modify_eq, List.getElem?_eq_getElem hl]
      exact ⟨_, rfl, rfl⟩

set_option maxHeartbeats 1000000 in
theorem Add_ok (F : Nat → Prop) (hb : Nat) (S : HSt) (d v : Int) (w : World) (hS : HP w F hb S) (hG : Good S) :
    Calls Yba.prog 7 #[.pointer (some ⟨hb, 0, none⟩), .int .i64 d, .int .i64 v] w
      fun r w' => ∃ S' F' y, Sifted ((S.toAdd d 0 v).place S.ents.length ⟨d, S.armed + 1, S.takes, 0⟩) S' ∧ S'.slots[S.takes]? = some y ∧ r = .returned (.agg #[.int .u32 S.takes, .int .u32 y.gen]) ∧ HP w' F' hb S' ∧ Fr w w' F F' := by
  have hnF : ∀ k, w.heap.size ≤ k → ¬ F k := by
    obtain ⟨_, _, _, H⟩ := hS
    intro k hk f; have := H.Flt _ f; omega
  have hn := hG.n
  have hm := hG.m
  have ha := hG.a
  have hf := hG.f
  obtain ⟨ev, sv, pv, H⟩ := hS
  have HI : Hid (SInv _ _ _ _ _) := toAdd_sinv hG d 0 v
  go_enter Yba.func7, Yba.ntmps7
  go_wp2_with fail
  refine (add_ok F hb S d 0 0 0 v _ ⟨_, _, _, H.alloc _⟩ (by omega) (by omega) (by omega) hf HI.out).mono ?_
  rintro r W1 ⟨S', F1, y, hs, hy, rfl, ⟨ev1, sv1, pv1, H1⟩, fr1⟩
  have hn1 : Hnd W1 w.heap.size 0 0 := by
    unfold Hnd
    rw [fr1.block _ (by simp) (hnF _ (by omega))]
    exact heap_new_at _ _ _ rfl
  have nf1 : ¬ F1 w.heap.size := fun f => hnF _ (Nat.le_refl _) (fr1.foot _ (by simp) f)
  have fw1 : Fr w W1 F F1 := ((Fr.refl w F).alloc _).trans fr1
  obtain ⟨d0, d1⟩ := hn1.cells
  have e0 := hn1.thaw 0
  have e1 := hn1.thaw 1
  have HS : Hid (_ ∧ _) := ⟨hs, hy⟩
  clear hs hy
  go_wp2_with fail
  refine bodyPost_ret (v := .agg #[.int .u32 S.takes, .int .u32 y.gen]) (by simp [results, Yba.results7, go_sem, *]) rfl ⟨S', F1, y, HS.out.1, HS.out.2, rfl, ⟨_, _, _, (H1.setOther (p := ⟨w.heap.size, 0, none⟩) nf1 _).setOther (p := ⟨w.heap.size, 1, none⟩) nf1 _⟩, (fw1.setNew (p := ⟨w.heap.size, 0, none⟩) (by simp) _).setNew (p := ⟨w.heap.size, 1, none⟩) (by simp) _⟩

/-- The heap that New makes. -/
def emptyH : HSt := ⟨[], [], 0, 0, [], 0⟩

set_option maxHeartbeats 400000 in
theorem New_ok (w : World) :
    Calls Yba.prog 6 #[] w fun r w' => r = .returned (.pointer (some ⟨w.heap.size, 0, none⟩)) ∧ HP w' (fun k => k = w.heap.size) w.heap.size emptyH ∧ Fr w w' (fun _ => False) (fun k => k = w.heap.size) := by
  go_enter Yba.func6, Yba.ntmps6
  go_wp2_with fail
  go_ret
  refine ⟨rfl, ⟨.slice none 0 0, .slice none 0 0, .slice none 0 0, heap_new_at _ _ _ rfl, World.ownsRow_nil _ _ _ _, World.ownsRow_nil _ _ _ _, World.ownsRow_nil _ _ _ _, rfl, ?_, ?_, ?_, ?_⟩, ?_⟩
  · intro k hk; simp [Value.ownBlock] at hk
  · intro k hk; simp [Value.ownBlock] at hk
  · intro k hk; simp [Value.ownBlock] at hk
  · intro k hk; subst hk; simp
  · exact ⟨rfl, rfl, rfl, by simp, fun k hk _ => Below.heap_alloc _ _ _ hk, fun k hk e => by omega⟩
end Go.Proofs.Ybulkadzc
