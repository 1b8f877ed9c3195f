/-
  THE PLAIN LAW OF THE DRAW BELOW 50: the first or the second word that the PCG of seed (h, 1) gives is taken.
-/
import Derived.Test.YbulkaeheNewA
namespace Go.Proofs.Ybulkaehe
open Go.RowKit

def xsh (s x : Nat) : Nat := x ^^^ (x / 2 ^ s)
theorem xsh_lt (s x : Nat) (hx : x < 2 ^ 64) : xsh s x < 2 ^ 64 := Nat.xor_lt_two_pow hx (Nat.lt_of_le_of_lt (Nat.div_le_self _ _) hx)
theorem xsh_inv (s x : Nat) (hs : 32 ≤ s) (hx : x < 2 ^ 64) : xsh s (xsh s x) = x := by
  unfold xsh
  simp only [← Nat.shiftRight_eq_div_pow]
  rw [Nat.shiftRight_xor_distrib, ← Nat.shiftRight_add]
  have h0 : x >>> (s + s) = 0 := by
    rw [Nat.shiftRight_eq_div_pow]
    refine Nat.div_eq_of_lt (Nat.lt_of_lt_of_le hx (Nat.pow_le_pow_right (by omega) (by omega)))
  rw [h0, Nat.xor_zero, Nat.xor_assoc, Nat.xor_self, Nat.xor_zero]
theorem mul_inv (x m mi N : Nat) (hx : x < N) (h : m * mi % N = 1) : (x * m % N) * mi % N = x := by
  have h1 : (x * m % N) * mi % N = x * (m * mi) % N := by rw [Nat.mod_mul_mod, Nat.mul_assoc]
  rw [h1, ← Nat.mul_mod_mod, h, Nat.mul_one]
  exact Nat.mod_eq_of_lt hx

/-- The word that the state (h, l) gives, m = l or 1. -/
def pcgOut (h m : Nat) : Nat := xsh 48 (xsh 32 h * 15750249268501108917 % 18446744073709551616) * m % 18446744073709551616
def pcgBack (o mi : Nat) : Nat := xsh 32 (xsh 48 (o * mi % 18446744073709551616) * 10053033838670173597 % 18446744073709551616)
theorem pcg_back (h m mi : Nat) (hh : h < 18446744073709551616) (hm : m * mi % 18446744073709551616 = 1) : pcgBack (pcgOut h m) mi = h := by
  unfold pcgBack pcgOut
  have e : (18446744073709551616 : Nat) = 2 ^ 64 := by decide
  have l1 : xsh 32 h < 18446744073709551616 := by rw [e]; exact xsh_lt _ _ (by rw [← e]; exact hh)
  have l2 : xsh 32 h * 15750249268501108917 % 18446744073709551616 < 18446744073709551616 := Nat.mod_lt _ (by decide)
  have l3 : xsh 48 (xsh 32 h * 15750249268501108917 % 18446744073709551616) < 18446744073709551616 := by rw [e]; exact xsh_lt _ _ (by rw [← e]; exact l2)
  rw [mul_inv _ m mi _ l3 hm, xsh_inv 48 _ (by decide) (by rw [← e]; exact l2), mul_inv _ _ _ _ l1 (by decide), xsh_inv 32 _ (by decide) (by rw [← e]; exact hh)]

/-- The next high word: hm, l: of the product of the low word; c the carry. -/
def nextH (hm l h : Nat) : Nat := ((hm + (h * 4865540595714422341 + l * 2549297995355413924)) + 6364136223846793005) % 18446744073709551616

def low (x : Nat) : Nat := x * 50 % 18446744073709551616
theorem second_all : ∀ q < 50, ∀ r < 16, (q * 18446744073709551616 + r) % 50 = 0 → 16 ≤ low (pcgOut (nextH 1663869594253766626 6308235636603385748 (pcgBack ((q * 18446744073709551616 + r) / 50) 7920272093093764029)) 18356219113935991859) := by decide +kernel
theorem second (h : Nat) (hh : h < 18446744073709551616) (hbad : low (pcgOut h 6308235636603385749) < 16) : 16 ≤ low (pcgOut (nextH 1663869594253766626 6308235636603385748 h) 18356219113935991859) := by
  generalize ho : pcgOut h 6308235636603385749 = o at hbad
  have hb : pcgBack o 7920272093093764029 = h := by rw [← ho]; exact pcg_back h _ _ hh (by decide)
  have hol : o < 18446744073709551616 := by rw [← ho]; exact Nat.mod_lt _ (by decide)
  unfold low at hbad
  have hq : o * 50 / 18446744073709551616 < 50 := Nat.div_lt_of_lt_mul (by omega)
  have hd : o * 50 = (o * 50 / 18446744073709551616) * 18446744073709551616 + o * 50 % 18446744073709551616 := by
    have := Nat.div_add_mod (o * 50) 18446744073709551616
    omega
  have hx := second_all _ hq _ hbad (by rw [← hd]; omega)
  rw [← hd, Nat.mul_div_cancel _ (by decide), hb] at hx
  exact hx
end Go.Proofs.Ybulkaehe
