import Derived.Test.YbulkaefaFmtCall
namespace Go.Proofs.YbulkaefaFmt
open Go.RowKit Go.MapKept Go.Extern.Stop Go.Stop Go.Extern
theorem str_eq (a : ByteArray) : (a.toList == a.toList) = true := by simp

set_option maxHeartbeats 2000000 in
/-- route refuses a packet to a node that is not in the map. -/
theorem route_to (tb B n : Nat) (f : ByteArray → Option Value) (nm tg : ByteArray) (pk : Array Value) (w : World)
    (h0 : w.cell? ⟨tb, 0, none⟩ = some (.string nm)) (h4 : w.cell? ⟨tb, 4, none⟩ = some (.map (some B))) (hm : MapAt Value.string w B f n) (F : Interp) (hF : F.answers w.tape) (hf : f tg = none) :
    Calls Ybaf.prog 11 #[.pointer (some ⟨tb, 0, none⟩), .agg (#[.string nm, .string tg] ++ pk)] w fun e w' => ∃ g, e = .returned (.tuple #[.pointer none, .iface 134 (.pointer (some ⟨g, 0, none⟩))]) ∧ w.heap.size ≤ g ∧ (∃ text, w'.heap[g]? = some (.cells #[.string text] 136)) ∧ Below w.heap.size w w' := by
  go_enter Ybaf.func11, Ybaf.ntmps11
  go_upto_region 1 with (fail)
  have hlt : tb < w.heap.size := World.block_lt_of_cell? _ _ h0
  have p0 : (w.alloc (.cells (#[.string nm, .string tg] ++ pk) 110)).cell? ⟨w.heap.size, 0, none⟩ = some (.string nm) := by rw [World.cell?, heap_alloc_new]; simp [Array.getElem?_append]
  have p1 : (w.alloc (.cells (#[.string nm, .string tg] ++ pk) 110)).cell? ⟨w.heap.size, 1, none⟩ = some (.string tg) := by rw [World.cell?, heap_alloc_new]; simp [Array.getElem?_append]
  have h0' : (w.alloc (.cells (#[.string nm, .string tg] ++ pk) 110)).cell? ⟨tb, 0, none⟩ = some (.string nm) := by rw [World.cell?_of_block (Below.heap_alloc _ _ _ hlt)]; exact h0
  have h4' : (w.alloc (.cells (#[.string nm, .string tg] ++ pk) 110)).cell? ⟨tb, 4, none⟩ = some (.map (some B)) := by rw [World.cell?_of_block (Below.heap_alloc _ _ _ hlt)]; exact h4
  have hm' := hm.kept (Below.heap_alloc w (.cells (#[.string nm, .string tg] ++ pk) 110) _ hm.lt)
  have bel : Below w.heap.size w (w.alloc (.cells (#[.string nm, .string tg] ++ pk) 110)) := (Below.refl _ w).alloc (Nat.le_refl _) _
  have hF' : F.answers (w.alloc (.cells (#[.string nm, .string tg] ++ pk) 110)).tape := hF
  clear h0 h4 hm hF
  generalize w.alloc (.cells (#[.string nm, .string tg] ++ pk) 110) = W at p0 p1 h0' h4' hm' bel hF' ⊢
  have hlook := fun w' (e : w'.heap = W.heap) => (hm'.kept (w' := w') (by rw [e])).look (P := Ybaf.prog) (mty := 57) Ybaf.underlying57 Ybaf.underlying9 (fun _ => trivial) str_inj (zero59 _) tg
  have hl1 := hlook W.drew rfl
  clear hlook
  rw [hf] at hl1
  go_region
  clear hl1
  have p0 : W.drew.cell? ⟨w.heap.size, 0, none⟩ = some (.string nm) := p0
  have p1 : W.drew.cell? ⟨w.heap.size, 1, none⟩ = some (.string tg) := p1
  have h0' : W.drew.cell? ⟨tb, 0, none⟩ = some (.string nm) := h0'
  have bel : Below w.heap.size w W.drew := bel.drew
  have hF' : F.answers W.drew.tape := hF'
  generalize W.drew = W2 at p0 p1 h0' bel hF' ⊢
  have hq := str_eq nm
  go_upto_region 2 with (fail)
  go_quiet (fail)
  have p0 : (W2.drewN nq).cell? ⟨w.heap.size, 0, none⟩ = some (.string nm) := p0
  have h0' : (W2.drewN nq).cell? ⟨tb, 0, none⟩ = some (.string nm) := h0'
  have bel : Below w.heap.size w (W2.drewN nq) := below_drewN bel nq
  have hF' : F.answers (W2.drewN nq).tape := hF'
  have p1 : (W2.drewN nq).cell? ⟨w.heap.size, 1, none⟩ = some (.string tg) := p1
  generalize W2.drewN nq = W3 at p0 p1 h0' bel hF' ⊢
  clear p0 hm'
  go_upto_region 5 with (fail)
  go_region_with ((go_at_call 12; refine (errorf1 F tg nm _ _ (by exact hF') (by simp) (by simp)).mono ?_; rintro r W5 ⟨text, rfl, rfl⟩))
  all_goals (go_wp2_with fail)
  all_goals (go_ret2)
  all_goals (refine ⟨W3.heap.size + 1, rfl, ?_, ⟨text, ?_⟩, ?_⟩)
  all_goals (first
    | exact Nat.le_trans bel.size (Nat.le_succ _)
    | exact alloc_two W3 _ _
    | exact Below.drew (Below.drew (Below.alloc (Below.alloc bel bel.size _) (by have := bel.size; simp; omega) _)))

set_option maxHeartbeats 2000000 in
/-- route finds the connection. -/
theorem route_found (tb B n : Nat) (f : ByteArray → Option Value) (nm tg : ByteArray) (pk : Array Value) (w : World)
    (h0 : w.cell? ⟨tb, 0, none⟩ = some (.string nm)) (h4 : w.cell? ⟨tb, 4, none⟩ = some (.map (some B))) (hm : MapAt Value.string w B f n) (v : Value) (hf : f tg = some v) (c cap s r : Nat) (tm : Bool) (hd : w.cell? ⟨tb, 15, none⟩ = some (.chan (some c))) (hc : w.heap[c]? = some (.chan cap #[] false s r tm)) :
    Calls Ybaf.prog 11 #[.pointer (some ⟨tb, 0, none⟩), .agg (#[.string nm, .string tg] ++ pk)] w fun e w' => e = .returned (.tuple #[v, .nilIface]) ∧ Below w.heap.size w w' := by
  go_enter Ybaf.func11, Ybaf.ntmps11
  go_upto_region 1 with (fail)
  have hlt : tb < w.heap.size := World.block_lt_of_cell? _ _ h0
  have p0 : (w.alloc (.cells (#[.string nm, .string tg] ++ pk) 110)).cell? ⟨w.heap.size, 0, none⟩ = some (.string nm) := by rw [World.cell?, heap_alloc_new]; simp [Array.getElem?_append]
  have p1 : (w.alloc (.cells (#[.string nm, .string tg] ++ pk) 110)).cell? ⟨w.heap.size, 1, none⟩ = some (.string tg) := by rw [World.cell?, heap_alloc_new]; simp [Array.getElem?_append]
  have h0' : (w.alloc (.cells (#[.string nm, .string tg] ++ pk) 110)).cell? ⟨tb, 0, none⟩ = some (.string nm) := by rw [World.cell?_of_block (Below.heap_alloc _ _ _ hlt)]; exact h0
  have h4' : (w.alloc (.cells (#[.string nm, .string tg] ++ pk) 110)).cell? ⟨tb, 4, none⟩ = some (.map (some B)) := by rw [World.cell?_of_block (Below.heap_alloc _ _ _ hlt)]; exact h4
  have hm' := hm.kept (Below.heap_alloc w (.cells (#[.string nm, .string tg] ++ pk) 110) _ hm.lt)
  have bel : Below w.heap.size w (w.alloc (.cells (#[.string nm, .string tg] ++ pk) 110)) := (Below.refl _ w).alloc (Nat.le_refl _) _
  have hclt : c < w.heap.size := (Array.getElem?_eq_some_iff.1 hc).1
  have hc' : (w.alloc (.cells (#[.string nm, .string tg] ++ pk) 110)).heap[c]? = some (.chan cap #[] false s r tm) := (Below.heap_alloc _ _ _ hclt).trans hc
  have hd' : (w.alloc (.cells (#[.string nm, .string tg] ++ pk) 110)).cell? ⟨tb, 15, none⟩ = some (.chan (some c)) := by rw [World.cell?_of_block (Below.heap_alloc _ _ _ hlt)]; exact hd
  clear h0 h4 hm hc hd
  generalize w.alloc (.cells (#[.string nm, .string tg] ++ pk) 110) = W at p0 p1 h0' h4' hm' bel hc' hd' ⊢
  have hlook := fun w' (e : w'.heap = W.heap) => (hm'.kept (w' := w') (by rw [e])).look (P := Ybaf.prog) (mty := 57) Ybaf.underlying57 Ybaf.underlying9 (fun _ => trivial) str_inj (zero59 _) tg
  have hl1 := hlook W.drew rfl
  clear hlook
  rw [hf] at hl1
  go_region
  clear hl1
  have p0 : W.drew.cell? ⟨w.heap.size, 0, none⟩ = some (.string nm) := p0
  have p1 : W.drew.cell? ⟨w.heap.size, 1, none⟩ = some (.string tg) := p1
  have h0' : W.drew.cell? ⟨tb, 0, none⟩ = some (.string nm) := h0'
  have bel : Below w.heap.size w W.drew := bel.drew
  have hc' : W.drew.heap[c]? = some (.chan cap #[] false s r tm) := hc'
  have hd' : W.drew.cell? ⟨tb, 15, none⟩ = some (.chan (some c)) := hd'
  generalize W.drew = W2 at p0 p1 h0' bel hc' hd' ⊢
  have hq := str_eq nm
  go_upto_region 2 with (fail)
  go_quiet (fail)
  have p0 : (W2.drewN nq).cell? ⟨w.heap.size, 0, none⟩ = some (.string nm) := p0
  have h0' : (W2.drewN nq).cell? ⟨tb, 0, none⟩ = some (.string nm) := h0'
  have bel : Below w.heap.size w (W2.drewN nq) := below_drewN bel nq
  have hc' : (W2.drewN nq).heap[c]? = some (.chan cap #[] false s r tm) := hc'
  have hd' : (W2.drewN nq).cell? ⟨tb, 15, none⟩ = some (.chan (some c)) := hd'
  generalize W2.drewN nq = W3 at p0 h0' bel hc' hd' ⊢
  clear p0 p1 hm'
  go_upto_region 6 with (fail)
  go_wp2_with fail
  refine (closed_any tb c cap s r tm false W3 hd' hc').mono ?_
  rintro _ _ ⟨rfl, rfl⟩
  go_wp2_with fail
  go_ret2
  exact ⟨rfl, bel⟩

set_option maxHeartbeats 2000000 in
/-- route of a closed transport. -/
theorem route_shut (tb B n : Nat) (f : ByteArray → Option Value) (nm tg : ByteArray) (pk : Array Value) (w : World)
    (h0 : w.cell? ⟨tb, 0, none⟩ = some (.string nm)) (h4 : w.cell? ⟨tb, 4, none⟩ = some (.map (some B))) (hm : MapAt Value.string w B f n) (v : Value) (hf : f tg = some v) (c cap s r : Nat) (tm : Bool) (hd : w.cell? ⟨tb, 15, none⟩ = some (.chan (some c))) (hc : w.heap[c]? = some (.chan cap #[] true s r tm)) (ev : Value) (hg : w.cell? ⟨0, 0, none⟩ = some ev) :
    Calls Ybaf.prog 11 #[.pointer (some ⟨tb, 0, none⟩), .agg (#[.string nm, .string tg] ++ pk)] w fun e w' => e = .returned (.tuple #[.pointer none, ev]) ∧ Below w.heap.size w w' := by
  go_enter Ybaf.func11, Ybaf.ntmps11
  go_upto_region 1 with (fail)
  have hlt : tb < w.heap.size := World.block_lt_of_cell? _ _ h0
  have p0 : (w.alloc (.cells (#[.string nm, .string tg] ++ pk) 110)).cell? ⟨w.heap.size, 0, none⟩ = some (.string nm) := by rw [World.cell?, heap_alloc_new]; simp [Array.getElem?_append]
  have p1 : (w.alloc (.cells (#[.string nm, .string tg] ++ pk) 110)).cell? ⟨w.heap.size, 1, none⟩ = some (.string tg) := by rw [World.cell?, heap_alloc_new]; simp [Array.getElem?_append]
  have h0' : (w.alloc (.cells (#[.string nm, .string tg] ++ pk) 110)).cell? ⟨tb, 0, none⟩ = some (.string nm) := by rw [World.cell?_of_block (Below.heap_alloc _ _ _ hlt)]; exact h0
  have h4' : (w.alloc (.cells (#[.string nm, .string tg] ++ pk) 110)).cell? ⟨tb, 4, none⟩ = some (.map (some B)) := by rw [World.cell?_of_block (Below.heap_alloc _ _ _ hlt)]; exact h4
  have hm' := hm.kept (Below.heap_alloc w (.cells (#[.string nm, .string tg] ++ pk) 110) _ hm.lt)
  have bel : Below w.heap.size w (w.alloc (.cells (#[.string nm, .string tg] ++ pk) 110)) := (Below.refl _ w).alloc (Nat.le_refl _) _
  have hclt : c < w.heap.size := (Array.getElem?_eq_some_iff.1 hc).1
  have hc' : (w.alloc (.cells (#[.string nm, .string tg] ++ pk) 110)).heap[c]? = some (.chan cap #[] true s r tm) := (Below.heap_alloc _ _ _ hclt).trans hc
  have hd' : (w.alloc (.cells (#[.string nm, .string tg] ++ pk) 110)).cell? ⟨tb, 15, none⟩ = some (.chan (some c)) := by rw [World.cell?_of_block (Below.heap_alloc _ _ _ hlt)]; exact hd
  clear h0 h4 hm hc hd
  generalize w.alloc (.cells (#[.string nm, .string tg] ++ pk) 110) = W at p0 p1 h0' h4' hm' bel hc' hd' ⊢
  have hlook := fun w' (e : w'.heap = W.heap) => (hm'.kept (w' := w') (by rw [e])).look (P := Ybaf.prog) (mty := 57) Ybaf.underlying57 Ybaf.underlying9 (fun _ => trivial) str_inj (zero59 _) tg
  have hl1 := hlook W.drew rfl
  clear hlook
  rw [hf] at hl1
  go_region
  clear hl1
  have p0 : W.drew.cell? ⟨w.heap.size, 0, none⟩ = some (.string nm) := p0
  have p1 : W.drew.cell? ⟨w.heap.size, 1, none⟩ = some (.string tg) := p1
  have h0' : W.drew.cell? ⟨tb, 0, none⟩ = some (.string nm) := h0'
  have bel : Below w.heap.size w W.drew := bel.drew
  have hc' : W.drew.heap[c]? = some (.chan cap #[] true s r tm) := hc'
  have hd' : W.drew.cell? ⟨tb, 15, none⟩ = some (.chan (some c)) := hd'
  generalize W.drew = W2 at p0 p1 h0' bel hc' hd' ⊢
  have hq := str_eq nm
  go_upto_region 2 with (fail)
  go_quiet (fail)
  have p0 : (W2.drewN nq).cell? ⟨w.heap.size, 0, none⟩ = some (.string nm) := p0
  have h0' : (W2.drewN nq).cell? ⟨tb, 0, none⟩ = some (.string nm) := h0'
  have bel : Below w.heap.size w (W2.drewN nq) := below_drewN bel nq
  have hc' : (W2.drewN nq).heap[c]? = some (.chan cap #[] true s r tm) := hc'
  have hd' : (W2.drewN nq).cell? ⟨tb, 15, none⟩ = some (.chan (some c)) := hd'
  have hg' : (W2.drewN nq).cell? ⟨0, 0, none⟩ = some ev := by rw [bel.cell (World.block_lt_of_cell? _ _ hg)]; exact hg
  generalize W2.drewN nq = W3 at hg' p0 h0' bel hc' hd' ⊢
  clear p0 p1 hm'
  go_upto_region 6 with (fail)
  go_wp2_with fail
  refine (closed_any tb c cap s r tm true W3 hd' hc').mono ?_
  rintro _ _ ⟨rfl, rfl⟩
  go_upto_region 7 with (fail)
  go_region
  go_wp2_with fail
  go_ret2
  exact ⟨rfl, bel.drew⟩

end Go.Proofs.YbulkaefaFmt
