/-
  appendString, WALKED ONCE: onto nil or onto a row that the call owns.
-/
import Derived.Test.YbulkaejiRows
import Derived.WalkKit
import Derived.ProofKit
import Derived.OpenShut
import Derived.ShutString
import Derived.ChangeOld
import Derived.Below
import Derived.Deep.AppendLies
import Derived.Lib.AppendStr
import Derived.BigQuiet
namespace Go.Proofs.Ybulkaeji
open Go.RowKit

theorem Yba.info5 : (Yba.prog.info? 5).map (fun i => (i.zero, i.size, i.bytes)) = some (some (.int .u8 0), 1, 1) := by kernel_rfl
def q34 : Value := .int .u8 34
def quoted (s : ByteArray) : List Value := q34 :: (Lib.strCells s ++ [q34])
theorem quoted_length (s : ByteArray) : (quoted s).length = s.size + 2 := by simp [quoted, Lib.strCells_length]

set_option maxHeartbeats 1000000 in
theorem app_ok (B : Nat) (v : Value) (n : Nat) (xs : List Value) (s : ByteArray) (w : World) (hown : w.ownsRow B 5 1 v n xs) (hn : n ≤ 100000) (hs : s.size ≤ 100000) (hB : B ≤ w.heap.size) :
    Calls Yba.prog 5 #[v, .string s] w fun r w' => ∃ g cap, r = .returned (.slice (some ⟨g, 0, none⟩) (n + (s.size + 2)) cap) ∧ w'.ownsRow B 5 1 (.slice (some ⟨g, 0, none⟩) (n + (s.size + 2)) cap) (n + (s.size + 2)) (xs ++ quoted s) ∧ Below B w w' := by
  obtain ⟨t5, e5, z5, s5, y5⟩ := info_parts Yba.info5
  go_enter Yba.func5, Yba.ntmps5
  go_wp2_with (at_builtin; refine wpList_append_lies _ rfl _ _ _ rfl B 5 t5 _ 1 1 Yba.underlying22 e5 z5 s5 y5 rfl (by omega) v n xs rfl (hown.alloc _) _ 1 1 ([q34]) rfl rfl (World.news_of_block (heap_alloc_new w _)) (by simp [q34, Value.oneCell']) (by omega) (by unfold maxLen; omega) (by omega) (by simp; omega) _ rfl ?_)
  intro g cap w1 own gr hg hlt
  have bel1 : Below B w w1 := Below.grown ((Below.refl B w).alloc hB _) gr (by simp; omega) (fun k hk => (hown.lt k hk).1)
  have hB1 : B ≤ w1.heap.size := by have := gr.size; simp at this; omega
  clear gr hg hlt
  go_wp2_with (at_builtin; refine Lib.wpList_append_own_string _ rfl _ _ _ _ rfl B 5 t5 Yba.underlying22 Yba.underlying9 e5 z5 s5 y5 _ _ _ rfl own s rfl (by unfold maxLen; omega) (by omega) hB1 ?_)
  intro v2 w2 own2 gr2 _
  have bel2 : Below B w w2 := Below.grown bel1 gr2 hB1 (fun k hk => (own.lt k hk).1)
  have hB2 : B ≤ w2.heap.size := by have := gr2.size; omega
  obtain ⟨g2, cap2, rfl, _, _⟩ := own2.form (by omega)
  clear gr2 own bel1 hB1 hown
  go_wp2_with (at_builtin; refine wpList_append_lies _ rfl _ _ _ rfl B 5 t5 _ 1 1 Yba.underlying22 e5 z5 s5 y5 rfl (by omega) _ _ _ rfl (own2.alloc _) _ 1 1 ([q34]) rfl rfl (World.news_of_block (heap_alloc_new w2 _)) (by simp [q34, Value.oneCell']) (by omega) (by unfold maxLen; omega) (by omega) (by simp; omega) _ rfl ?_)
  intro g3 cap3 w3 own3 gr3 hg3 hlt3
  have bel3 : Below B w w3 := Below.grown (bel2.alloc hB2 _) gr3 (by simp; omega) (fun k hk => (own2.lt k hk).1)
  have en : n + 1 + s.size + 1 = n + (s.size + 2) := by omega
  rw [en] at own3
  rw [en]
  clear own2 gr3 hg3 hlt3 bel2 hB2
  go_wp2_with fail
  go_ret
  exact ⟨g3, cap3, rfl, own3, bel3⟩
end Go.Proofs.Ybulkaeji
