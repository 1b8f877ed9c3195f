import Derived.Test.YbulkaefaFmtBuild
import Derived.Deep.RegionHeld3
import Derived.WalkSmall
namespace Go.Proofs.YbulkaefaFmt
open Go.RowKit Go.MapKept Go.Extern.Stop Go.Stop Go.Extern
theorem zero59 (w : World) : (zeroValue 59).run Ybaf.prog w = .ok (.pointer none) w := by kernel_rfl

theorem str_ne {a b : ByteArray} (h : a ≠ b) : (a.toList == b.toList) = false := by
  rw [← beq_toListBytes]
  cases hq : a == b with
  | false => rfl
  | true => exact (h ((MapKept.bytes_beq a b).1 hq)).elim

theorem alloc_two (W : World) (o p : Obj) : ((W.alloc o).alloc p).drew.drew.heap[W.heap.size + 1]? = some p := by
  have := heap_alloc_new (W.alloc o) p
  rw [show (W.alloc o).heap.size = W.heap.size + 1 by simp] at this
  exact this

set_option maxHeartbeats 2000000 in
/-- route refuses a packet from another node. -/
theorem route_from (F : Interp) (tb B n : Nat) (f : ByteArray → Option Value) (nm fm tg : ByteArray) (pk : Array Value) (w : World) (hF : F.answers w.tape)
    (h0 : w.cell? ⟨tb, 0, none⟩ = some (.string nm)) (h4 : w.cell? ⟨tb, 4, none⟩ = some (.map (some B))) (hm : MapAt Value.string w B f n) (hne : fm ≠ nm) :
    Calls Ybaf.prog 11 #[.pointer (some ⟨tb, 0, none⟩), .agg (#[.string fm, .string tg] ++ pk)] w fun e w' => ∃ g, e = .returned (.tuple #[.pointer none, .iface 134 (.pointer (some ⟨g, 0, none⟩))]) ∧ w.heap.size ≤ g ∧ (∃ text, w'.heap[g]? = some (.cells #[.string text] 136)) ∧ Below w.heap.size w w' := by
  go_enter Ybaf.func11, Ybaf.ntmps11
  go_upto_region 1 with (fail)
  have hlt : tb < w.heap.size := World.block_lt_of_cell? _ _ h0
  have p0 : (w.alloc (.cells (#[.string fm, .string tg] ++ pk) 110)).cell? ⟨w.heap.size, 0, none⟩ = some (.string fm) := by rw [World.cell?, heap_alloc_new]; simp [Array.getElem?_append]
  have p1 : (w.alloc (.cells (#[.string fm, .string tg] ++ pk) 110)).cell? ⟨w.heap.size, 1, none⟩ = some (.string tg) := by rw [World.cell?, heap_alloc_new]; simp [Array.getElem?_append]
  have h0' : (w.alloc (.cells (#[.string fm, .string tg] ++ pk) 110)).cell? ⟨tb, 0, none⟩ = some (.string nm) := by rw [World.cell?_of_block (Below.heap_alloc _ _ _ hlt)]; exact h0
  have h4' : (w.alloc (.cells (#[.string fm, .string tg] ++ pk) 110)).cell? ⟨tb, 4, none⟩ = some (.map (some B)) := by rw [World.cell?_of_block (Below.heap_alloc _ _ _ hlt)]; exact h4
  have hm' := hm.kept (Below.heap_alloc w (.cells (#[.string fm, .string tg] ++ pk) 110) _ hm.lt)
  have bel : Below w.heap.size w (w.alloc (.cells (#[.string fm, .string tg] ++ pk) 110)) := (Below.refl _ w).alloc (Nat.le_refl _) _
  have hF' : F.answers (w.alloc (.cells (#[.string fm, .string tg] ++ pk) 110)).tape := hF
  clear h0 h4 hm hF
  generalize w.alloc (.cells (#[.string fm, .string tg] ++ pk) 110) = W at p0 p1 h0' h4' hm' bel hF' ⊢
  have hlook := fun w' (e : w'.heap = W.heap) => (hm'.kept (w' := w') (by rw [e])).look (P := Ybaf.prog) (mty := 57) Ybaf.underlying57 Ybaf.underlying9 (fun _ => trivial) str_inj (zero59 _) tg
  have hl1 := hlook W.drew rfl
  clear hlook
  go_region
  clear hl1
  have p0 : W.drew.cell? ⟨w.heap.size, 0, none⟩ = some (.string fm) := p0
  have p1 : W.drew.cell? ⟨w.heap.size, 1, none⟩ = some (.string tg) := p1
  have h0' : W.drew.cell? ⟨tb, 0, none⟩ = some (.string nm) := h0'
  have bel : Below w.heap.size w W.drew := bel.drew
  have hF' : F.answers W.drew.tape := hF'
  generalize W.drew = W2 at p0 p1 h0' bel hF' ⊢
  have hq := str_ne hne
  go_upto_region 2 with (fail)
  go_quiet (fail)
  have p0 : (W2.drewN nq).cell? ⟨w.heap.size, 0, none⟩ = some (.string fm) := p0
  have h0' : (W2.drewN nq).cell? ⟨tb, 0, none⟩ = some (.string nm) := h0'
  have bel : Below w.heap.size w (W2.drewN nq) := below_drewN bel nq
  have hF' : F.answers (W2.drewN nq).tape := hF'
  generalize W2.drewN nq = W3 at p0 h0' bel hF' ⊢
  clear p1 hm'
  go_upto_region 3 with (fail)
  go_region_with ((go_at_call 12; refine (errorf0 F fm nm _ _ (by exact hF') (by simp) (by simp)).mono ?_; rintro r W5 ⟨text, rfl, rfl⟩))
  all_goals (go_wp2_with fail)
  all_goals (go_ret2)
  all_goals (refine ⟨W3.heap.size + 1, rfl, ?_, ⟨text, ?_⟩, ?_⟩)
  all_goals (first
    | exact Nat.le_trans bel.size (Nat.le_succ _)
    | exact alloc_two W3 _ _
    | exact Below.drew (Below.drew (Below.alloc (Below.alloc bel bel.size _) (by have := bel.size; simp; omega) _)))
end Go.Proofs.YbulkaefaFmt
