/-
  awaitLeader, on a new Node.
-/
import Derived.Test.YbulkaeheRand
import Derived.Test.YbulkaeheNewB
namespace Go.Proofs.Ybulkaehe
open Go.RowKit

/-- A new Node. -/
def GoodNode (B0 : Nat) (w : World) (nb : Nat) (inc : Int) : Prop := B0 ≤ nb ∧ ∃ c, w.heap[nb]? = some (.cells c 68 (0, 0)) ∧ GoodCells B0 w inc c
/-- What the law is told of a new Node. -/
structure Nst (B0 : Nat) (w : World) (nb b : Nat) (inc : Int) : Prop where
  blk : ∃ c, w.heap[nb]? = some (.cells c 68 (0, 0)) ∧ c[1]? = some (.int .i64 inc) ∧ c[88]? = some (.slice none 0 0) ∧ c[90]? = some (.int .i64 0) ∧ c[94]? = some (.slice none 0 0) ∧ c[86]? = some (.map (some b))
  map : w.heap[b]? = some (.map #[] 0)
  hb : B0 ≤ b
  hn : B0 ≤ nb
theorem cell_of {w : World} {nb k : Nat} {c : Array Value} {t : TypeId} {v : Value} (h : w.heap[nb]? = some (.cells c t (0, 0))) (e : c[k]? = some v) : w.cell? ⟨nb, k, none⟩ = some v := by
  rw [World.cell?, h]
  simpa using e
theorem frozen_of {w : World} {nb k : Nat} {c : Array Value} {t : TypeId} (h : w.heap[nb]? = some (.cells c t (0, 0))) : w.frozen? ⟨nb, k, none⟩ = false := by
  simp [World.frozen?, h]

theorem set18 {W : World} {nb r : Nat} (k5 : W.cell? ⟨nb, 5, none⟩ = some (.int .u64 50)) (k9 : W.cell? ⟨nb, 9, none⟩ = some (.int .u64 0)) (k10 : W.cell? ⟨nb, 10, none⟩ = some (.pointer (some ⟨r, 0, none⟩))) (v : Value) :
    (W.setCell ⟨nb, 18, none⟩ v).cell? ⟨nb, 5, none⟩ = some (.int .u64 50) ∧ (W.setCell ⟨nb, 18, none⟩ v).cell? ⟨nb, 9, none⟩ = some (.int .u64 0) ∧ (W.setCell ⟨nb, 18, none⟩ v).cell? ⟨nb, 10, none⟩ = some (.pointer (some ⟨r, 0, none⟩)) := by
  refine ⟨?_, ?_, ?_⟩
  · rw [World.cell?_setCell_other (h := by simp)]; exact k5
  · rw [World.cell?_setCell_other (h := by simp)]; exact k9
  · rw [World.cell?_setCell_other (h := by simp)]; exact k10

set_option maxHeartbeats 2000000 in
set_option maxRecDepth 100000 in
theorem await (B0 nb : Nat) (inc : Int) (w : World) (h : GoodNode B0 w nb inc) :
    Calls Yba.prog 19 #[.pointer (some ⟨nb, 0, none⟩)] w fun e w' => e = .returned (.tuple #[]) ∧ ∃ b, Nst B0 w' nb b inc ∧ Below B0 w w' := by
  obtain ⟨hn, c, hc, q1, q5, q9, q18, _, _, q88, q90, q94, ⟨x, q10, r, g, rfl, hr, hg0, z, hz1, hz2, hg⟩, y, q86, b, rfl, hb, hm⟩ := h
  obtain ⟨h, rfl⟩ : ∃ h : Nat, z = (h : Int) := ⟨z.toNat, by omega⟩
  have n1 : nb ≠ g := fun e => by rw [e, hg] at hc; cases hc
  have n2 : b ≠ g := fun e => by rw [e, hg] at hm; cases hm
  have n3 : r ≠ g := fun e => by rw [e, hg] at hr; cases hr
  have n4 : b ≠ nb := fun e => by rw [e, hc] at hm; cases hm
  have c5 := cell_of hc q5
  have c9 := cell_of hc q9
  have c10 := cell_of hc q10
  have c18 := cell_of hc q18
  have f18 := frozen_of (k := 18) hc
  have cr : w.cell? ⟨r, 0, none⟩ = some (.iface 95 (.pointer (some ⟨g, 0, none⟩))) := by rw [World.cell?, hr]; rfl
  have hD := fun (w1 : World) (e : w1.heap = w.heap) => draw r g h w1 (by rw [World.cell?, e, ← World.cell?]; exact cr) (by rw [e]; exact hg) n3
  have hD := hD w.drew rfl
  have FIN : Hid (∀ (W : World) (v : Value), TouchG g w.drew W → Nst B0 (W.setCell ⟨nb, 18, none⟩ v) nb b inc ∧ Below B0 w (W.setCell ⟨nb, 18, none⟩ v)) := by
    intro W v T
    have hc' : W.heap[nb]? = some (.cells c 68 (0, 0)) := (T.rest nb n1).trans hc
    have hh := heap_setCell_same W nb 18 c 68 v hc'
    refine ⟨⟨⟨_, hh, ?_, ?_, ?_, ?_, ?_⟩, ?_, hb, hn⟩, ?_⟩
    · rw [Array.getElem?_setIfInBounds, if_neg (by decide)]; exact q1
    · rw [Array.getElem?_setIfInBounds, if_neg (by decide)]; exact q88
    · rw [Array.getElem?_setIfInBounds, if_neg (by decide)]; exact q90
    · rw [Array.getElem?_setIfInBounds, if_neg (by decide)]; exact q94
    · rw [Array.getElem?_setIfInBounds, if_neg (by decide)]; exact q86
    · rw [Below.heap_setCell _ _ _ _ n4]; exact (T.rest b n2).trans hm
    · have hb0 : Below B0 w W := ⟨T.bel.os, T.bel.tape, T.bel.output, T.bel.size, fun k hk => T.bel.block k (by omega)⟩
      exact hb0.setCell hn v
  have KE : Hid (∀ (W : World), TouchG g w.drew W → W.cell? ⟨nb, 5, none⟩ = some (.int .u64 50) ∧ W.cell? ⟨nb, 9, none⟩ = some (.int .u64 0) ∧ W.cell? ⟨nb, 10, none⟩ = some (.pointer (some ⟨r, 0, none⟩)) ∧ W.cell? ⟨nb, 18, none⟩ = some (.int .u64 0) ∧ W.frozen? ⟨nb, 18, none⟩ = false) := by
    intro W T
    have hc' : W.heap[nb]? = some (.cells c 68 (0, 0)) := (T.rest nb n1).trans hc
    exact ⟨cell_of hc' q5, cell_of hc' q9, cell_of hc' q10, cell_of hc' q18, frozen_of hc'⟩
  clear hc q1 q5 q9 q18 q88 q90 q94 q10 hr hg0 hz1 hz2 hg q86 hb hm n1 n2 n3 n4 cr hn
  go_enter Yba.func19, Yba.ntmps19
  go_region_held3 (fun w' => w'.cell? ⟨nb, 5, none⟩ = some (.int .u64 50) ∧ w'.cell? ⟨nb, 9, none⟩ = some (.int .u64 0) ∧ w'.cell? ⟨nb, 10, none⟩ = some (.pointer (some ⟨r, 0, none⟩))) (first | (go_keep; done) | (exact set18 (by assumption) (by assumption) (by assumption) _)) (first | (go_at_call 23; refine hD.mono ?_; rintro r2 W ⟨v, rfl, T⟩; obtain ⟨k5, k9, k10, k18, kf⟩ := KE.out W T))
  all_goals
    obtain ⟨p1, p2⟩ := FIN.out W _ T
    go_end0
    exact ⟨rfl, b, p1, p2⟩
end Go.Proofs.Ybulkaehe
