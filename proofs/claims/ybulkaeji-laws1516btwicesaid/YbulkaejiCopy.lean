/-
  'append([]byte(nil), b...)', b AN ARGUMENT: nil, empty or not: one law.
-/
import Derived.Test.YbulkaejiApp
namespace Go.Proofs.Ybulkaeji
open Go.RowKit

/-- A slice of bytes that came in. -/
def Bytes (w : World) (a : Option Addr) (len cap : Nat) (zs : List Int) : Prop :=
  (a = none ∧ len = 0 ∧ cap = 0 ∧ zs = []) ∨
  ∃ x, a = some x ∧ len ≤ cap ∧ cap ≤ maxLen ∧ zs.length = cap ∧ (∀ i, i < zs.length → w.cell? (x.add i) = some (.int .u8 (zs.getD i 0))) ∧ ∀ n ∈ zs, (Lit.int .u8 n).wf = true

def bcells (zs : List Int) (len : Nat) : List Value := (zs.take len).map (Value.int .u8)

theorem bcells_length {w : World} {a : Option Addr} {len cap : Nat} {zs : List Int} (h : Bytes w a len cap zs) : (bcells zs len).length = len := by
  rcases h with ⟨_, rfl, _, _⟩ | ⟨x, _, h1, _, h2, _⟩
  · simp [bcells]
  · simp [bcells]; omega

theorem wpList_copy {w : World} {ops : Array Oper} {rest : List Oper} {o : Oper} {a : Act} {Q : Exit → Act → World → Prop} (hgd : o.guard = none) (s x : Operand)
    (ho : o.op = .call { callee := .builtin .append, args := #[s, x], argTypes := #[22, 22] }) (hs : a.eval s = .slice none 0 0)
    (a0 : Option Addr) (len cap : Nat) (zs : List Int) (hx : a.eval x = .slice a0 len cap) (hB : Bytes w a0 len cap zs) (hlen : len ≤ 100000)
    (h : ∀ v' w', w'.ownsRow w.heap.size 5 1 v' len (bcells zs len) → Below w.heap.size w w' → wpList Yba.prog ops Q rest (a.put o.dst v') w') : wpList Yba.prog ops Q (o :: rest) a w := by
  obtain ⟨t5, e5, z5, s5, y5⟩ := info_parts Yba.info5
  have hl := bcells_length hB
  rcases hB with ⟨rfl, rfl, rfl, rfl⟩ | ⟨ad, rfl, h1, h2, h3, h4, h5⟩
  · refine wpList_plain hgd fun K hK => ?_
    have hr : (Builtin.append_ #[22, 22] o.type #[.slice none 0 0, .slice none 0 0]).run Yba.prog w = .ok (.slice none 0 0) w := by
      simp [Builtin.append_, run_underlying Yba.underlying22, sizeOf, typeInfo, e5, Builtin.lenOf, Builtin.firstCells]
    unfold Oper.wp execOp
    simp only [ho, resolve, invoke, builtin, Sem.run_bind, Sem.run_pure, Result.andThen_ok, List.map_toArray, List.map_cons, List.map_nil, hs, hx, hr]
    exact hK _ _ (h _ _ (World.ownsRow_nil w _ 5 1) (Below.refl _ _))
  · refine wpList_append_own w hgd s x 22 ho w.heap.size 5 t5 _ 1 1 Yba.underlying22 e5 z5 s5 y5 rfl (by omega) (.slice none 0 0) 0 [] hs (World.ownsRow_nil w _ 5 1) ad len cap (bcells zs len) hx (by omega) ?_ ?_ (by unfold maxLen; omega) (by omega) (Nat.le_refl _) ?_
    · intro j u hu
      have hj : j < len := by have := (List.getElem?_eq_some_iff.1 hu).1; omega
      have := h4 j (by omega)
      rw [this]
      simp only [bcells, List.getElem?_map, List.getElem?_take, if_pos hj] at hu
      rw [List.getElem?_eq_getElem (by omega)] at hu
      simp at hu
      rw [← hu, List.getD_eq_getElem?_getD, List.getElem?_eq_getElem (by omega)]
      rfl
    · intro u hu
      simp only [bcells, List.mem_map] at hu
      obtain ⟨_, _, rfl⟩ := hu
      rfl
    · intro v' w' own gr _
      simp only [Nat.zero_add, List.nil_append] at own
      exact h v' w' own (Below.grown (Below.refl _ _) gr (Nat.le_refl _) (fun k hk => by simp [Value.ownBlock] at hk))

/-- What lies where behind the copy and appendString. -/
theorem row_b {zs : List Int} {len : Nat} (ys : List Value) (hl : len ≤ zs.length) {j : Nat} (hj : j < len) : (bcells zs len ++ ys)[j]? = some (.int .u8 (zs.getD j 0)) := by
  rw [List.getElem?_append_left (by simp [bcells]; omega)]
  simp only [bcells, List.getElem?_map, List.getElem?_take, if_pos hj]
  rw [List.getD_eq_getElem?_getD, List.getElem?_eq_getElem (by omega)]
  rfl
theorem row_q {zs : List Int} {len : Nat} (s : ByteArray) (hl : (bcells zs len).length = len) : (bcells zs len ++ quoted s)[len]? = some (.int .u8 34) := by
  rw [List.getElem?_append_right (by omega), hl]
  simp [quoted, q34]
theorem row_s {zs : List Int} {len : Nat} (s : ByteArray) (hl : (bcells zs len).length = len) {j : Nat} (hj : j < s.size) : (bcells zs len ++ quoted s)[len + 1 + j]? = some (.int .u8 ((s.data[j]'hj).toNat)) := by
  rw [List.getElem?_append_right (by omega), hl, show len + 1 + j - len = j + 1 by omega]
  simp only [quoted, List.getElem?_cons_succ]
  rw [List.getElem?_append_left (by rw [Lib.strCells_length]; exact hj)]
  simp only [Lib.strCells, List.getElem?_map]
  rw [List.getElem?_eq_getElem (by simpa using hj)]
  simp
theorem row_e {zs : List Int} {len : Nat} (s : ByteArray) (hl : (bcells zs len).length = len) : (bcells zs len ++ quoted s)[len + (s.size + 1)]? = some (.int .u8 34) := by
  rw [List.getElem?_append_right (by omega), hl, show len + (s.size + 1) - len = s.size + 1 by omega]
  simp only [quoted, List.getElem?_cons_succ]
  rw [List.getElem?_append_right (by rw [Lib.strCells_length]; exact Nat.le_refl _), Lib.strCells_length]
  simp [q34]
end Go.Proofs.Ybulkaeji
