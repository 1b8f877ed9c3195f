/-
  rand.PCG.Uint64, rand.Rand.Uint64, Uint64N at 50.
-/
import Derived.Test.YbulkaehePcg
namespace Go.Proofs.Ybulkaehe
open Go.RowKit

theorem bits_xor (a b : Nat) (ha : a < 18446744073709551616) (hb : b < 18446744073709551616) : bits .xor .u64 (a : Int) (b : Int) = ((a ^^^ b : Nat) : Int) := by
  have e : (18446744073709551616 : Nat) = 2 ^ 64 := by decide
  have hx : a ^^^ b < 18446744073709551616 := by rw [e]; exact Nat.xor_lt_two_pow (by rw [← e]; exact ha) (by rw [← e]; exact hb)
  have h1 : ((BitVec.ofInt 64 (a : Int)) ^^^ (BitVec.ofInt 64 (b : Int))).toNat = a ^^^ b := by
    rw [BitVec.toNat_xor, BitVec.ofInt_natCast, BitVec.ofInt_natCast, BitVec.toNat_ofNat, BitVec.toNat_ofNat, Nat.mod_eq_of_lt (by rw [← e]; exact ha), Nat.mod_eq_of_lt (by rw [← e]; exact hb)]
  show IntKind.u64.wrap ((((BitVec.ofInt 64 (a : Int)) ^^^ (BitVec.ofInt 64 (b : Int))).toNat : Nat) : Int) = _
  rw [h1, wrapU, Nat.mod_eq_of_lt hx]
theorem xsh_bits (s x p : Nat) (hp : p = 2 ^ s) (hx : x < 18446744073709551616) : bits .xor .u64 (x : Int) ((x : Int) / (p : Int)) = ((xsh s x : Nat) : Int) := by
  have h := bits_xor x (x / p) hx (Nat.lt_of_le_of_lt (Nat.div_le_self _ _) hx)
  rw [Int.natCast_ediv] at h
  rw [h]
  unfold xsh
  rw [hp]
theorem wrap_mul (x c : Nat) : IntKind.u64.wrap ((x : Int) * (c : Int)) = ((x * c % 18446744073709551616 : Nat) : Int) := by
  rw [← Int.natCast_mul, wrapU]

def pcgK (H : Nat) : Nat := xsh 32 H * 15750249268501108917 % 18446744073709551616
def pcgM (y m : Nat) : Nat := y * m % 18446744073709551616
theorem pcgOut_eq (H m : Nat) : pcgOut H m = pcgM (xsh 48 (pcgK H)) m := rfl
theorem pcgK_lt (H : Nat) : pcgK H < 18446744073709551616 := Nat.mod_lt _ (by decide)

set_option maxHeartbeats 1000000 in
set_option maxRecDepth 100000 in
theorem pcgA (g h : Nat) (w : World) (c0 : w.cell? ⟨g, 0, none⟩ = some (.int .u64 (h : Int))) (c1 : w.cell? ⟨g, 1, none⟩ = some (.int .u64 1)) (f0 : w.frozen? ⟨g, 0, none⟩ = false) (f1 : w.frozen? ⟨g, 1, none⟩ = false) :
    Calls Yba.prog 71 #[.pointer (some ⟨g, 0, none⟩)] w fun e w' => e = .returned (.int .u64 (pcgOut (nextH 0 1 h) 6308235636603385749 : Nat)) ∧ Drawn ((w.setCell ⟨g, 1, none⟩ (.int .u64 6308235636603385748)).setCell ⟨g, 0, none⟩ (.int .u64 (nextH 0 1 h : Nat))) w' := by
  have hN := nextA g h w c0 c1 f0 f1
  have hlt : nextH 0 1 h < 18446744073709551616 := Nat.mod_lt _ (by decide)
  generalize nextH 0 1 h = H at hN hlt ⊢
  have b1 : bits .xor .u64 (H : Int) ((H : Int) / 4294967296) = ((xsh 32 H : Nat) : Int) := xsh_bits 32 H 4294967296 (by decide) hlt
  have b2 : IntKind.u64.wrap (((xsh 32 H : Nat) : Int) * 15750249268501108917) = ((pcgK H : Nat) : Int) := wrap_mul _ 15750249268501108917
  have hK := pcgK_lt H
  rw [pcgOut_eq]
  generalize pcgK H = K at b2 hK ⊢
  generalize xsh 32 H = X at b1 b2
  have b3 : bits .xor .u64 (K : Int) ((K : Int) / 281474976710656) = ((xsh 48 K : Nat) : Int) := xsh_bits 48 K 281474976710656 (by decide) hK
  have b4 : bits .or .u64 6308235636603385748 1 = 6308235636603385749 := by decide
  have b5 : IntKind.u64.wrap (((xsh 48 K : Nat) : Int) * 6308235636603385749) = ((pcgM (xsh 48 K) 6308235636603385749 : Nat) : Int) := wrap_mul _ 6308235636603385749
  generalize pcgM (xsh 48 K) 6308235636603385749 = O at b5 ⊢
  generalize xsh 48 K = Y at b3 b5
  clear c0 c1 f0 f1 hlt hK
  go_enter Yba.func71, Yba.ntmps71
  go_wp2_with fail
  refine hN.mono ?_
  rintro _ W ⟨rfl, hD⟩
  go_wp2_with fail
  go_ret
  exact ⟨rfl, hD⟩

set_option maxHeartbeats 1000000 in
set_option maxRecDepth 100000 in
theorem pcgB (g h : Nat) (w : World) (c0 : w.cell? ⟨g, 0, none⟩ = some (.int .u64 (h : Int))) (c1 : w.cell? ⟨g, 1, none⟩ = some (.int .u64 6308235636603385748)) (f0 : w.frozen? ⟨g, 0, none⟩ = false) (f1 : w.frozen? ⟨g, 1, none⟩ = false) :
    Calls Yba.prog 71 #[.pointer (some ⟨g, 0, none⟩)] w fun e w' => e = .returned (.int .u64 (pcgOut (nextH 1663869594253766626 6308235636603385748 h) 18356219113935991859 : Nat)) ∧ Drawn ((w.setCell ⟨g, 1, none⟩ (.int .u64 18356219113935991859)).setCell ⟨g, 0, none⟩ (.int .u64 (nextH 1663869594253766626 6308235636603385748 h : Nat))) w' := by
  have hN := nextB g h w c0 c1 f0 f1
  have hlt : nextH 1663869594253766626 6308235636603385748 h < 18446744073709551616 := Nat.mod_lt _ (by decide)
  generalize nextH 1663869594253766626 6308235636603385748 h = H at hN hlt ⊢
  have b1 : bits .xor .u64 (H : Int) ((H : Int) / 4294967296) = ((xsh 32 H : Nat) : Int) := xsh_bits 32 H 4294967296 (by decide) hlt
  have b2 : IntKind.u64.wrap (((xsh 32 H : Nat) : Int) * 15750249268501108917) = ((pcgK H : Nat) : Int) := wrap_mul _ 15750249268501108917
  have hK := pcgK_lt H
  rw [pcgOut_eq]
  generalize pcgK H = K at b2 hK ⊢
  generalize xsh 32 H = X at b1 b2
  have b3 : bits .xor .u64 (K : Int) ((K : Int) / 281474976710656) = ((xsh 48 K : Nat) : Int) := xsh_bits 48 K 281474976710656 (by decide) hK
  have b4 : bits .or .u64 18356219113935991859 1 = 18356219113935991859 := by decide
  have b5 : IntKind.u64.wrap (((xsh 48 K : Nat) : Int) * 18356219113935991859) = ((pcgM (xsh 48 K) 18356219113935991859 : Nat) : Int) := wrap_mul _ 18356219113935991859
  generalize pcgM (xsh 48 K) 18356219113935991859 = O at b5 ⊢
  generalize xsh 48 K = Y at b3 b5
  clear c0 c1 f0 f1 hlt hK
  go_enter Yba.func71, Yba.ntmps71
  go_wp2_with fail
  refine hN.mono ?_
  rintro _ W ⟨rfl, hD⟩
  go_wp2_with fail
  go_ret
  exact ⟨rfl, hD⟩

/-- Only block g has turned. -/
structure TouchG (g : Nat) (w w' : World) : Prop where
  bel : Below g w w'
  size : w'.heap.size = w.heap.size
  rest : ∀ i, i ≠ g → w'.heap[i]? = w.heap[i]?
theorem TouchG.refl (g : Nat) (w : World) : TouchG g w w := ⟨Below.refl _ _, rfl, fun _ _ => rfl⟩
theorem TouchG.trans {g : Nat} {a b c : World} (h : TouchG g a b) (k : TouchG g b c) : TouchG g a c := ⟨h.bel.trans k.bel, k.size.trans h.size, fun i hi => (k.rest i hi).trans (h.rest i hi)⟩
theorem TouchG.setCell (g k : Nat) (v : Value) (w : World) : TouchG g w (w.setCell ⟨g, k, none⟩ v) := by
  refine ⟨(Below.refl g w).setCell (Nat.le_refl _) v, by simp [World.setCell], fun i hi => Below.heap_setCell _ _ _ _ hi⟩
theorem TouchG.drewN {g : Nat} {a b : World} (h : TouchG g a b) (n : Nat) : TouchG g a (b.drewN n) := ⟨below_drewN h.bel n, h.size, h.rest⟩
theorem touch_of {g : Nat} {w w' : World} {u v : Value} (hD : Drawn ((w.setCell ⟨g, 1, none⟩ u).setCell ⟨g, 0, none⟩ v) w') : TouchG g w w' := by
  obtain ⟨q, rfl⟩ := hD
  exact ((TouchG.setCell g 1 u w).trans (TouchG.setCell g 0 v _)).drewN q

theorem method_u (a : Addr) (w : World) : (method 292 95 (.pointer (some a)) "Uint64").run Yba.prog w = .ok (71, .pointer (some a)) w := by kernel_rfl

theorem sta_gen {g : Nat} {w w' : World} (V0 V1 : Value) {U0 U1 : Value} (hg : w.heap[g]? = some (.cells #[U0, U1] 110 (0, 0))) (hD : Drawn ((w.setCell ⟨g, 1, none⟩ V1).setCell ⟨g, 0, none⟩ V0) w') :
    w'.cell? ⟨g, 0, none⟩ = some V0 ∧ w'.cell? ⟨g, 1, none⟩ = some V1 ∧ w'.frozen? ⟨g, 0, none⟩ = false ∧ w'.frozen? ⟨g, 1, none⟩ = false := by
  obtain ⟨q, rfl⟩ := hD
  have hh := heap_setCell_same _ g 0 _ 110 V0 (heap_setCell_same w g 1 _ 110 V1 hg)
  simp [World.frozen?, World.cell?, hh]

/-- The PCG behind the first draw. -/
structure StA (g H : Nat) (w : World) : Prop where
  c0 : w.cell? ⟨g, 0, none⟩ = some (.int .u64 (H : Int))
  c1 : w.cell? ⟨g, 1, none⟩ = some (.int .u64 6308235636603385748)
  f0 : w.frozen? ⟨g, 0, none⟩ = false
  f1 : w.frozen? ⟨g, 1, none⟩ = false

set_option maxRecDepth 100000 in
theorem randA (r g h : Nat) (w : World) (cr : w.cell? ⟨r, 0, none⟩ = some (.iface 95 (.pointer (some ⟨g, 0, none⟩)))) (hg : w.heap[g]? = some (.cells #[.int .u64 (h : Int), .int .u64 1] 110 (0, 0))) :
    Calls Yba.prog 44 #[.pointer (some ⟨r, 0, none⟩)] w fun e w' => e = .returned (.int .u64 (pcgOut (nextH 0 1 h) 6308235636603385749 : Nat)) ∧ TouchG g w w' ∧ StA g (nextH 0 1 h) w' := by
  have c0 : w.cell? ⟨g, 0, none⟩ = some (.int .u64 (h : Int)) := by simp [World.cell?, hg]
  have c1 : w.cell? ⟨g, 1, none⟩ = some (.int .u64 1) := by simp [World.cell?, hg]
  have f0 : w.frozen? ⟨g, 0, none⟩ = false := by simp [World.frozen?, hg]
  have f1 : w.frozen? ⟨g, 1, none⟩ = false := by simp [World.frozen?, hg]
  have hm := method_u ⟨g, 0, none⟩
  have hP := pcgA g h w c0 c1 f0 f1
  have HS : Hid (∀ V0 V1 w', Drawn ((w.setCell ⟨g, 1, none⟩ V1).setCell ⟨g, 0, none⟩ V0) w' → w'.cell? ⟨g, 0, none⟩ = some V0 ∧ w'.cell? ⟨g, 1, none⟩ = some V1 ∧ w'.frozen? ⟨g, 0, none⟩ = false ∧ w'.frozen? ⟨g, 1, none⟩ = false) := fun V0 V1 w' hD => sta_gen V0 V1 hg hD
  clear hg c0 c1 f0 f1
  generalize pcgOut (nextH 0 1 h) 6308235636603385749 = O at hP ⊢
  generalize nextH 0 1 h = H at hP ⊢
  go_enter Yba.func44, Yba.ntmps44
  go_wp2_with fail
  refine hP.mono ?_
  rintro _ W ⟨rfl, hD⟩
  go_wp2_with fail
  go_ret
  obtain ⟨q1, q2, q3, q4⟩ := HS.out _ _ _ hD
  exact ⟨rfl, touch_of hD, q1, q2, q3, q4⟩
set_option maxRecDepth 100000 in
theorem randB (r g h : Nat) (w : World) (cr : w.cell? ⟨r, 0, none⟩ = some (.iface 95 (.pointer (some ⟨g, 0, none⟩)))) (hS : StA g h w) :
    Calls Yba.prog 44 #[.pointer (some ⟨r, 0, none⟩)] w fun e w' => e = .returned (.int .u64 (pcgOut (nextH 1663869594253766626 6308235636603385748 h) 18356219113935991859 : Nat)) ∧ TouchG g w w' := by
  have hm := method_u ⟨g, 0, none⟩
  have hP := pcgB g h w hS.c0 hS.c1 hS.f0 hS.f1
  clear hS
  generalize pcgOut (nextH 1663869594253766626 6308235636603385748 h) 18356219113935991859 = O at hP ⊢
  generalize nextH 1663869594253766626 6308235636603385748 h = H at hP
  go_enter Yba.func44, Yba.ntmps44
  go_wp2_with fail
  refine hP.mono ?_
  rintro _ W ⟨rfl, hD⟩
  go_wp2_with fail
  go_ret
  exact ⟨rfl, touch_of hD⟩

def phase : Value → Nat
  | .int _ q => if q < 16 then 1 else 0
  | _ => 0
set_option maxHeartbeats 1000000 in
set_option maxRecDepth 100000 in
theorem draw50 (r g h : Nat) (w : World) (cr : w.cell? ⟨r, 0, none⟩ = some (.iface 95 (.pointer (some ⟨g, 0, none⟩)))) (hg : w.heap[g]? = some (.cells #[.int .u64 (h : Int), .int .u64 1] 110 (0, 0))) (hne : r ≠ g) :
    Calls Yba.prog 36 #[.pointer (some ⟨r, 0, none⟩), .int .u64 50] w fun e w' => ∃ v : Int, e = .returned (.int .u64 v) ∧ TouchG g w w' := by
  have hA := randA r g h w cr hg
  have hH : Hid (low (pcgOut (nextH 0 1 h) 6308235636603385749) < 16 → 16 ≤ low (pcgOut (nextH 1663869594253766626 6308235636603385748 (nextH 0 1 h)) 18356219113935991859)) := second _ (Nat.mod_lt _ (by decide))
  have b1 : bits .and .u64 50 49 = 48 := by decide
  have b2 : IntKind.u64.wrap (-50) = 18446744073709551566 := by rw [IntKind.wrap_u64]; rfl
  generalize pcgOut (nextH 0 1 h) 6308235636603385749 = x1 at hA hH
  generalize nextH 0 1 h = H at hA hH
  go_enter Yba.func36, Yba.ntmps36
  go_wp2_with fail
  refine hA.mono ?_
  rintro _ W1 ⟨rfl, T1, S1⟩
  clear hA
  go_wp2_with fail
  refine (mul_x x1 W1).mono ?_
  rintro _ W1 ⟨hi, rfl, rfl⟩
  have T1 : Hid (TouchG g w W1) := T1
  have S1 : Hid (StA g H W1) := S1
  generalize hlo : low x1 = lo at hH ⊢
  clear hlo
  by_cases h50 : lo < 50
  · have g1 : (lo : Int) < 50 := by omega
    go_upto_region 8 with (fail)
    go_loopw [5, 6] (fun hv lv wr => ∃ (hi : Int) (l : Nat), hv = .int .u64 hi ∧ lv = .int .u64 l ∧ Hid (TouchG g w wr) ∧ (16 ≤ l ∨ (l = lo ∧ Hid (StA g H wr)))) (fun _ lv _ => phase lv)
    case atStart => exact ⟨hi, lo, rfl, rfl, T1, .inr ⟨rfl, S1⟩⟩
    case round =>
      clear T1 S1
      obtain ⟨hi, l, rfl, rfl, T, hl⟩ := hrel
      by_cases hlt : l < 16
      · have g2 : (l : Int) < 16 := by omega
        obtain ⟨rfl, S⟩ : l = lo ∧ Hid (StA g H wr) := by
          rcases hl with h | h
          · omega
          · exact h
        have hx := hH.out hlt
        have cr' : wr.cell? ⟨r, 0, none⟩ = some (.iface 95 (.pointer (some ⟨g, 0, none⟩))) := by rw [World.cell?_of_block (T.out.rest _ hne)]; exact cr
        have hB := randB r g H wr cr' S.out
        generalize pcgOut (nextH 1663869594253766626 6308235636603385748 H) 18356219113935991859 = x2 at hB hx
        clear hl hH cr'
        go_wp2_with fail
        refine hB.mono ?_
        rintro _ W2 ⟨rfl, T2⟩
        go_wp2_with fail
        refine (mul_x x2 W2).mono ?_
        rintro _ W2 ⟨hi2, rfl, rfl⟩
        have T2 : Hid (TouchG g w W2) := T.out.trans T2
        generalize low x2 = l2 at hx ⊢
        go_wp2_with fail
        exact ⟨⟨hi2, l2, rfl, rfl, T2, .inl hx⟩, by show (if ((l2 : Nat) : Int) < 16 then 1 else 0) < (if ((l : Nat) : Int) < 16 then 1 else 0); rw [if_neg (by omega), if_pos g2]; decide⟩
      · have g2 : ¬ (l : Int) < 16 := by omega
        go_wp2_with fail
        go_ret
        first
          | exact ⟨_, rfl, T.out⟩
          | exact ⟨⟨_, rfl⟩, T.out⟩
  · have g1 : ¬ (lo : Int) < 50 := by omega
    go_wp2_with fail
    go_ret
    exact ⟨_, rfl, T1.out⟩

theorem draw (r g h : Nat) (w : World) (cr : w.cell? ⟨r, 0, none⟩ = some (.iface 95 (.pointer (some ⟨g, 0, none⟩)))) (hg : w.heap[g]? = some (.cells #[.int .u64 (h : Int), .int .u64 1] 110 (0, 0))) (hne : r ≠ g) :
    Calls Yba.prog 23 #[.pointer (some ⟨r, 0, none⟩), .int .u64 50] w fun e w' => ∃ v : Int, e = .returned (.int .u64 v) ∧ TouchG g w w' := by
  go_enter Yba.func23, Yba.ntmps23
  go_wp2_with fail
  refine (draw50 r g h w cr hg hne).mono ?_
  rintro _ W ⟨v, rfl, T⟩
  go_wp2_with fail
  go_ret
  exact ⟨_, rfl, T⟩
end Go.Proofs.Ybulkaehe
