/-
  slices.Index, slices.Contains; the plain counts of LawS1512CReply.
-/
import Derived.Test.YbulkaeheRead
namespace Go.Proofs.Ybulkaehe
open Go.RowKit Go.MapKept

def Idx (ks : List Int) (v r : Int) : Prop := (r = -1 ∧ v ∉ ks) ∨ ∃ i : Nat, r = (i : Int) ∧ ks[i]? = some v ∧ v ∉ ks.take i
theorem mem_take_of {ks : List Int} {i j : Nat} {v : Int} (h : ks[i]? = some v) (hij : i < j) : v ∈ ks.take j := by
  apply List.mem_of_getElem? (i := i)
  rw [List.getElem?_take, if_pos hij]; exact h
theorem idx_contains {ks : List Int} {v r : Int} (h : Idx ks v r) : decide (0 ≤ r) = ks.contains v := by
  rcases h with ⟨rfl, h⟩ | ⟨i, rfl, h1, h2⟩
  · have : ks.contains v = false := by simpa using h
    rw [this]; rfl
  · have : ks.contains v = true := by simpa using List.mem_of_getElem? h1
    rw [this]
    simp
theorem idx_eq {ks : List Int} {v r : Int} {i : Nat} (h : Idx ks v r) (hi : ks[i]? = some v) : (r == (i : Int)) = !(ks.take i).contains v := by
  rcases h with ⟨rfl, h⟩ | ⟨j, rfl, h1, h2⟩
  · exact (h (List.mem_of_getElem? hi)).elim
  · by_cases c : j = i
    · subst c
      have : (ks.take j).contains v = false := by simpa using h2
      rw [this]; simp
    · have hji : j < i := by
        rcases Nat.lt_or_ge j i with h | h
        · exact h
        · exact (h2 (mem_take_of hi (by omega))).elim
      have : (ks.take i).contains v = true := by simpa using mem_take_of h1 hji
      rw [this]
      have e : ((j : Int) == (i : Int)) = false := by simp; omega
      rw [e]; rfl

set_option maxHeartbeats 1000000 in
set_option maxRecDepth 100000 in
theorem index12 (a : Option Addr) (len cap : Nat) (ks : List Int) (v : Int) (w : World) (h : IsInts .u64 w a len ks) (hlen : len ≤ 1024) :
    Calls Yba.prog 12 #[.slice a len cap, .int .u64 v] w fun e w' => ∃ r : Int, e = .returned (.int .i64 r) ∧ Idx ks v r ∧ w' = w := by
  have HK : Hid (IsInts .u64 w a len ks) := h
  clear h
  go_enter Yba.func12, Yba.ntmps12
  go_upto_region 2 with (fail)
  go_loopw [8] (fun iv wr => ∃ (i : Nat), iv = .int .i64 i ∧ i ≤ len ∧ Hid (v ∉ ks.take i) ∧ wr = w) (fun iv _ => len - (intOfN iv).toNat)
  case atStart => exact ⟨0, rfl, by omega, (by show v ∉ ks.take 0; simp), rfl⟩
  case round =>
    obtain ⟨i, rfl, hi, hv, rfl⟩ := hrel
    by_cases hlt : i < len
    · obtain ⟨k, hk⟩ : ∃ k, ks[i]? = some k := ⟨_, List.getElem?_eq_getElem (by rw [HK.out.1]; exact hlt)⟩
      obtain ⟨ad, ha0, hc⟩ := HK.out.2 i k hk
      subst ha0
      have hk : Hid (ks[i]? = some k) := hk
      have i1 : (0 : Int) ≤ (i : Int) := by omega
      have i2 : (i : Int) < (len : Int) := by omega
      by_cases hvk : v = k
      · have g1 : (v == k) = true := by simpa using hvk
        have hvk : Hid (v = k) := hvk
        go_wp2_with fail
        go_ret
        exact ⟨_, rfl, .inr ⟨i, rfl, by rw [hvk.out]; exact hk.out, hv.out⟩, rfl⟩
      · have g1 : (v == k) = false := by simpa using hvk
        have hvk : Hid (v ≠ k) := hvk
        go_wp2_with fail
        refine ⟨⟨i + 1, by go_num, by omega, ?_, trivial⟩, by simp [intOfN]; omega⟩
        show v ∉ ks.take (i + 1)
        rw [List.take_add_one, hk.out]
        intro hm
        rcases List.mem_append.1 hm with hm | hm
        · exact hv.out hm
        · simp at hm
          exact hvk.out hm
    · have hi' : i = len := by omega
      have hv2 : v ∉ ks := by
        have := hv.out
        rw [hi', ← HK.out.1, List.take_length] at this
        exact this
      have hv2 : Hid (v ∉ ks) := hv2
      go_wp2_with fail
      go_ret
      exact ⟨_, rfl, .inl ⟨rfl, hv2.out⟩, rfl⟩
theorem contains11 (a : Option Addr) (len cap : Nat) (ks : List Int) (v : Int) (w : World) (h : IsInts .u64 w a len ks) (hlen : len ≤ 1024) :
    Calls Yba.prog 11 #[.slice a len cap, .int .u64 v] w fun e w' => e = .returned (.bool (ks.contains v)) ∧ w' = w := by
  have hx := index12 a len cap ks v w h hlen
  clear h
  go_enter Yba.func11, Yba.ntmps11
  go_wp2_with fail
  refine hx.mono ?_
  rintro _ w ⟨r, rfl, hr, rfl⟩
  have hq : Hid (decide (0 ≤ r) = ks.contains v) := idx_contains hr
  clear hx hr
  go_wp2_with fail
  go_ret
  exact ⟨by rw [← hq.out]; rfl, rfl⟩

/-- The first places of a list that fit c. -/
def flB (c : Int → Bool) (l : List Int) : Nat → List Int
  | 0 => []
  | i + 1 => flB c l i ++ (match l[i]? with
    | some p => if !(l.take i).contains p && c p then [p] else []
    | none => [])
theorem flB_mem (c : Int → Bool) (l : List Int) (x : Int) : ∀ i, x ∈ flB c l i ↔ x ∈ l.take i ∧ c x = true
  | 0 => by simp [flB]
  | i + 1 => by
    unfold flB
    rw [List.mem_append, flB_mem c l x i, List.take_add_one]
    cases h : l[i]? with
    | none => simp
    | some p =>
      simp only [Option.toList_some, List.mem_append, List.mem_singleton]
      by_cases h1 : (l.take i).contains p = true
      · simp only [h1, Bool.not_true, Bool.false_and]
        have hm : p ∈ l.take i := by simpa using h1
        constructor
        · rintro (⟨a, b⟩ | h)
          · exact ⟨.inl a, b⟩
          · simp at h
        · rintro ⟨a | a, b⟩
          · exact .inl ⟨a, b⟩
          · subst a; exact .inl ⟨hm, b⟩
      · have h1' : (l.take i).contains p = false := by simpa using h1
        simp only [h1', Bool.not_false, Bool.true_and]
        by_cases h2 : c p = true
        · rw [if_pos h2]
          constructor
          · rintro (⟨a, b⟩ | h)
            · exact ⟨.inl a, b⟩
            · simp at h; subst h; exact ⟨.inr rfl, h2⟩
          · rintro ⟨a | a, b⟩
            · exact .inl ⟨a, b⟩
            · exact .inr (by simp [a])
        · rw [if_neg h2]
          constructor
          · rintro (⟨a, b⟩ | h)
            · exact ⟨.inl a, b⟩
            · simp at h
          · rintro ⟨a | a, b⟩
            · exact .inl ⟨a, b⟩
            · subst a; exact (h2 b).elim
theorem flB_nodup (c : Int → Bool) (l : List Int) : ∀ i, (flB c l i).Nodup
  | 0 => by simp [flB]
  | i + 1 => by
    unfold flB
    cases h : l[i]? with
    | none => simpa using flB_nodup c l i
    | some p =>
      simp only
      split
      · rename_i hc
        simp only [Bool.and_eq_true, Bool.not_eq_true'] at hc
        refine List.nodup_append.2 ⟨flB_nodup c l i, by simp, ?_⟩
        intro a ha b hb
        simp at hb
        subst hb
        have := ((flB_mem c l a i).1 ha).1
        intro e
        subst e
        have hf : (l.take i).contains a = true := by simpa using this
        rw [hf] at hc
        cases hc.1
      · simpa using flB_nodup c l i
theorem flB_add (c : Int → Bool) (l : List Int) : ∀ i, (flB c l i).length + (flB (fun x => !c x) l i).length = (flB (fun _ => true) l i).length
  | 0 => by simp [flB]
  | i + 1 => by
    have ih := flB_add c l i
    unfold flB
    cases h : l[i]? with
    | none => simpa using ih
    | some p =>
      simp only [List.length_append]
      cases h1 : (l.take i).contains p <;> cases h2 : c p <;> simp <;> omega
theorem nodup_le : ∀ (l1 l2 : List Value), l1.Nodup → (∀ x ∈ l1, x ∈ l2) → l1.length ≤ l2.length
  | [], _, _, _ => by simp
  | x :: l1, l2, hn, hs => by
    have hx := hs x (by simp)
    obtain ⟨s, t, rfl⟩ := List.append_of_mem hx
    have hn' := List.nodup_cons.1 hn
    have := nodup_le l1 (s ++ t) hn'.2 (fun y hy => by
      have hy2 := hs y (by simp [hy])
      simp at hy2 ⊢
      rcases hy2 with h | h | h
      · exact .inl h
      · subst h; exact (hn'.1 hy).elim
      · exact .inr h)
    simp at this ⊢
    omega
theorem nodup_keys : ∀ (L : List Int), L.Nodup → (L.map key).Nodup
  | [], _ => by simp
  | x :: t, h => by
    have h' := List.nodup_cons.1 h
    rw [List.map_cons]
    refine List.nodup_cons.2 ⟨fun hm => ?_, nodup_keys t h'.2⟩
    obtain ⟨y, hy, e⟩ := List.mem_map.1 hm
    rw [key_inj _ _ e] at hy
    exact h'.1 hy
/-- A map has as many entries as there are keys. -/
theorem MapAt.count {w : World} {r n : Nat} {f : Int → Option Value} (h : MapAt key w r f n) (L : List Int) (hn : L.Nodup) (hm : ∀ x, x ∈ L ↔ (f x).isSome = true) : n = L.length := by
  obtain ⟨es, c, _, h2, h3, h4, h5⟩ := h
  have hk : (L.map key).Nodup := nodup_keys L hn
  have a1 : (es.toList.map (·.key)).length ≤ (L.map key).length := nodup_le _ _ h3 (fun y hy => by
    obtain ⟨e, he, rfl⟩ := List.mem_map.1 hy
    obtain ⟨k, hk1, hk2⟩ := h4 e he
    exact List.mem_map.2 ⟨k, (hm k).2 (by rw [hk2]; rfl), hk1.symm⟩)
  have a2 : (L.map key).length ≤ (es.toList.map (·.key)).length := nodup_le _ _ hk (fun y hy => by
    obtain ⟨k, hk1, rfl⟩ := List.mem_map.1 hy
    obtain ⟨v, hv⟩ := Option.isSome_iff_exists.1 ((hm k).1 hk1)
    obtain ⟨e, he, e1, _⟩ := h5 k v hv
    exact List.mem_map.2 ⟨e, he, e1⟩)
  simp at a1 a2
  omega
end Go.Proofs.Ybulkaehe
