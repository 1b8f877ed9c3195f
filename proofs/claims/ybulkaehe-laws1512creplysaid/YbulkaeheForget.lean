/-
  zzs1512blen, weigh, forgetAccepted.
-/
import Derived.Test.YbulkaeheMap
import Derived.IntWalk
namespace Go.Proofs.Ybulkaehe
open Go.RowKit Go.MapKept

/-- The length that the law draws for place i. -/
def lenAt (ls : List Nat) (i : Nat) : Nat := ls.getD i 0

/-- What the walk is told of the lengths. -/
def IsLens (w : World) (a : Option Addr) (len : Nat) (ls : List Nat) : Prop :=
  ls.length = len ∧ len ≤ 9223372036854775807 ∧ ∀ (i n : Nat), ls[i]? = some n → n < 256 ∧ ∃ x, a = some x ∧ w.cell? (x.add i) = some (.int .u8 (n : Int))

theorem zlen (a : Option Addr) (len cap : Nat) (ls : List Nat) (i : Nat) (w : World) (h : IsLens w a len ls) :
    Calls Yba.prog 5 #[.slice a len cap, .int .i64 (i : Int)] w fun e w' => e = .returned (.int .i64 (lenAt ls i : Nat)) ∧ w' = w := by
  obtain ⟨h1, h2, h3⟩ := h
  by_cases hi : i < len
  · obtain ⟨n, hn⟩ : ∃ n, ls[i]? = some n := ⟨_, List.getElem?_eq_getElem (by omega)⟩
    obtain ⟨hn1, x, rfl, hc⟩ := h3 i n hn
    have e : lenAt ls i = n := by unfold lenAt; rw [List.getD_eq_getElem?_getD, hn]; rfl
    rw [e]
    clear h1 h3 hn e
    have i1 : (0 : Int) ≤ (i : Int) := by omega
    have i2 : (i : Int) < (len : Int) := by omega
    go_enter Yba.func5, Yba.ntmps5
    go_wp2_with fail
    go_ret
    exact ⟨rfl, rfl⟩
  · have e : lenAt ls i = 0 := by unfold lenAt; rw [List.getD_eq_getElem?_getD, List.getElem?_eq_none (by omega)]; rfl
    rw [e]
    clear h1 h3 e
    have i2 : ¬ (i : Int) < (len : Int) := by omega
    go_enter Yba.func5, Yba.ntmps5
    go_wp2_with fail
    go_ret
    exact ⟨rfl, rfl⟩

theorem weigh (a : Option Addr) (len cap : Nat) (w : World) (h : len < 256) :
    Calls Yba.prog 13 #[.slice a len cap] w fun e w' => e = .returned (.int .i64 (32 + (len : Int))) ∧ w' = w := by
  go_enter Yba.func13, Yba.ntmps13
  go_wp2_with fail
  go_ret
  exact ⟨rfl, rfl⟩

/-- An acceptance. -/
def acc (k : Int) (n : Nat) (b : Option Addr) : Value := .agg #[.int .u64 k, .int .i64 0, .slice b n n]
def key (k : Int) : Value := .int .u64 k
theorem key_is (k : Int) : IsKey (.int .u64) (key k) := rfl
theorem key_inj (a b : Int) (h : key a = key b) : a = b := by unfold key at h; injection h
theorem zero30 (w : World) : (zeroValue 30).run Yba.prog w = .ok (.agg #[.int .u64 0, .int .i64 0, .slice none 0 0]) w := by kernel_rfl

set_option maxHeartbeats 1000000 in
/-- forgetAccepted of a slot that is not held. -/
theorem forget_none (nb B n : Nat) (f : Int → Option Value) (s : Int) (w : World) (hc : w.cell? ⟨nb, 25, none⟩ = some (.map (some B))) (hm : MapAt key w B f n) (hf : f s = none) :
    Calls Yba.prog 6 #[.pointer (some ⟨nb, 0, none⟩), .int .u64 s] w fun e w' => e = .returned (.tuple #[]) ∧ ∃ o, w' = w.alloc o := by
  have hl := hm.look (P := Yba.prog) (mty := 25) Yba.underlying25 Yba.underlying24 key_is key_inj (zero30 w) s
  rw [hf] at hl
  unfold key at hl
  go_enter Yba.func6, Yba.ntmps6
  go_wp2_with fail
  go_end0
  exact ⟨rfl, _, rfl⟩

set_option maxHeartbeats 1000000 in
/-- forgetAccepted of a slot that is held. -/
theorem forget_some (nb B n m : Nat) (b : Option Addr) (x : Int) (f : Int → Option Value) (s : Int) (w : World) (hc : w.cell? ⟨nb, 25, none⟩ = some (.map (some B))) (hx : w.cell? ⟨nb, 26, none⟩ = some (.int .i64 x)) (hfz : w.frozen? ⟨nb, 26, none⟩ = false)
    (hm : MapAt key w B f n) (hf : f s = some (acc s m b)) (hlt : m < 256) (hne : nb ≠ B) (base : Nat) (hb1 : base ≤ nb) (hb2 : base ≤ B) :
    Calls Yba.prog 6 #[.pointer (some ⟨nb, 0, none⟩), .int .u64 s] w fun e w' => e = .returned (.tuple #[]) ∧ w'.cell? ⟨nb, 25, none⟩ = some (.map (some B)) ∧
      w'.cell? ⟨nb, 26, none⟩ = some (.int .i64 (IntKind.i64.wrap (x - (32 + (m : Int))))) ∧ MapAt key w' B (fun y => if y = s then none else f y) (n - 1) ∧ Below base w w' := by
  have hl := hm.look (P := Yba.prog) (mty := 25) Yba.underlying25 Yba.underlying24 key_is key_inj (zero30 w) s
  rw [hf] at hl
  unfold key acc at hl
  go_enter Yba.func6, Yba.ntmps6
  go_upto_region 2 with (fail)
  have hnb : nb < w.heap.size := World.block_lt_of_cell? _ _ hc
  have c25 : ∀ o, (w.alloc o).cell? ⟨nb, 25, none⟩ = some (.map (some B)) := fun o => by rw [World.cell?_of_block (Below.heap_alloc _ _ _ hnb)]; exact hc
  have c26 : ∀ o, (w.alloc o).cell? ⟨nb, 26, none⟩ = some (.int .i64 x) := fun o => by rw [World.cell?_of_block (Below.heap_alloc _ _ _ hnb)]; exact hx
  have cfz : ∀ o, (w.alloc o).frozen? ⟨nb, 26, none⟩ = false := fun o => by rw [World.frozen?_of_block (Below.heap_alloc _ _ _ hnb)]; exact hfz
  have cm : ∀ o, MapAt key (w.alloc o) B f n := fun o => hm.kept (Below.heap_alloc _ _ _ hm.lt)
  have bel : ∀ o, Below base w (w.alloc o) := fun o => (Below.refl _ w).alloc (by omega) o
  have cA : (w.alloc (.cells #[.int .u64 s, .int .i64 0, .slice b m m] 30)).cell? ⟨w.heap.size, 2, none⟩ = some (.slice b m m) := by rw [World.cell?, heap_alloc_new]; simp
  have nA : w.heap.size ≠ B := by have := hm.lt; omega
  have nA2 : w.heap.size ≠ nb := by omega
  replace c25 := c25 (.cells #[.int .u64 s, .int .i64 0, .slice b m m] 30)
  replace c26 := c26 (.cells #[.int .u64 s, .int .i64 0, .slice b m m] 30)
  replace cfz := cfz (.cells #[.int .u64 s, .int .i64 0, .slice b m m] 30)
  replace cm := cm (.cells #[.int .u64 s, .int .i64 0, .slice b m m] 30)
  replace bel := bel (.cells #[.int .u64 s, .int .i64 0, .slice b m m] 30)
  clear hl hc hx hfz hm hnb
  generalize w.alloc (.cells #[.int .u64 s, .int .i64 0, .slice b m m] 30) = W1 at c25 c26 cfz cm bel cA ⊢
  generalize w.heap.size = A at cA nA nA2 ⊢
  obtain ⟨W2, hrun, m1, m2, m3, m4⟩ := cm.drop (P := Yba.prog) (mty := 25) Yba.underlying25 Yba.underlying24 key_is key_inj s 0
  rw [hf] at m1
  unfold key at hrun
  go_upto_region 3 with (fail)
  have d25 : W2.cell? ⟨nb, 25, none⟩ = some (.map (some B)) := by rw [World.cell?_of_block (m4 _ hne)]; exact c25
  have d26 : W2.cell? ⟨nb, 26, none⟩ = some (.int .i64 x) := by rw [World.cell?_of_block (m4 _ hne)]; exact c26
  have dfz : W2.frozen? ⟨nb, 26, none⟩ = false := by rw [World.frozen?_of_block (m4 _ hne)]; exact cfz
  have dA : W2.cell? ⟨A, 2, none⟩ = some (.slice b m m) := by rw [World.cell?_of_block (m4 _ nA)]; exact cA
  have bel2 : Below base w W2 := bel.trans (m2.mono hb2)
  have HM : Hid (MapAt key W2 B (fun y => if y = s then none else f y) (n - 1)) := m1
  have HA : Hid (A ≠ nb) := nA2
  clear hrun c25 c26 cfz cA m1 m2 m3 m4 cm bel nA nA2 hf
  have hfin : (W2.setCell ⟨nb, 26, none⟩ (.int .i64 (IntKind.i64.wrap (x - (32 + (m : Int)))))).drew.cell? ⟨nb, 25, none⟩ = some (.map (some B)) ∧ (W2.setCell ⟨nb, 26, none⟩ (.int .i64 (IntKind.i64.wrap (x - (32 + (m : Int)))))).drew.cell? ⟨nb, 26, none⟩ = some (.int .i64 (IntKind.i64.wrap (x - (32 + (m : Int))))) ∧
      MapAt key (W2.setCell ⟨nb, 26, none⟩ (.int .i64 (IntKind.i64.wrap (x - (32 + (m : Int)))))).drew B (fun y => if y = s then none else f y) (n - 1) ∧ Below base w (W2.setCell ⟨nb, 26, none⟩ (.int .i64 (IntKind.i64.wrap (x - (32 + (m : Int)))))).drew := by
    refine ⟨?_, ?_, HM.out.kept (Below.heap_setCell _ _ _ _ (Ne.symm hne)), (bel2.setCell hb1 _).drew⟩
    · show (W2.setCell _ _).cell? _ = _
      rw [World.cell?_setCell_other (h := by simp)]; exact d25
    · exact World.cell?_setCell_same W2 ⟨nb, 26, none⟩ _ d26
  have hfin : Hid _ := hfin
  go_region_with ((go_at_call 13; refine (weigh b m m _ hlt).mono ?_; rintro _ _ ⟨rfl, rfl⟩))
  all_goals
    go_wp2_with fail
    go_end0
    exact ⟨rfl, hfin.out⟩
end Go.Proofs.Ybulkaehe
