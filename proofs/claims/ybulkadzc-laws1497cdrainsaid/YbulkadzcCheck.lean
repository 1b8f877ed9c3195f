import Derived.Test.YbulkadzcRel
import Derived.Test.YbulkadzcPush
namespace Go.Proofs.Ybulkadzc
open Go.RowKit

theorem Ext.get {w w' : World} (h : Ext w w') {a : Addr} {v : Value} (hc : w.cell? a = some v) : w'.cell? a = some v := by
  rw [World.cell?_of_block (h.blk (World.block_lt_of_cell? w a hc))]; exact hc

/-- What check has gathered ahead of handle k. -/
def Seen (M : Mdl) (k c : Nat) (mn : Int) : Prop :=
  c = (M.live.take k).countP id ∧ (∀ (j : Nat) (d : Int), j < k → M.live[j]? = some true → M.dl[j]? = some d → mn ≤ d ∧ 0 < c) ∧ (0 < c → ∃ j : Nat, j < k ∧ M.live[j]? = some true ∧ M.dl[j]? = some mn)

theorem countP_take (l : List Bool) (k : Nat) (b : Bool) (h : l[k]? = some b) : (l.take (k + 1)).countP id = (l.take k).countP id + (if b then 1 else 0) := by
  obtain ⟨hk, e⟩ := List.getElem?_eq_some_iff.1 h
  rw [List.take_succ_eq_append_getElem hk, List.countP_append, e]
  cases b <;> simp

theorem Seen.skip {M : Mdl} {k c : Nat} {mn : Int} (h : Seen M k c mn) (hk : M.live[k]? = some false) : Seen M (k + 1) c mn := by
  obtain ⟨h1, h2, h3⟩ := h
  refine ⟨by rw [countP_take _ _ _ hk, h1]; simp, fun j d hj hl hd => ?_, fun hc => ?_⟩
  · by_cases e : j = k
    · subst e; rw [hk] at hl; cases hl
    · exact h2 j d (by omega) hl hd
  · obtain ⟨j, a, b, e⟩ := h3 hc
    exact ⟨j, by omega, b, e⟩
theorem Seen.lower {M : Mdl} {k c : Nat} {mn d : Int} (h : Seen M k c mn) (hk : M.live[k]? = some true) (hd : M.dl[k]? = some d) (hlt : c = 0 ∨ d < mn) : Seen M (k + 1) (c + 1) d := by
  obtain ⟨h1, h2, h3⟩ := h
  refine ⟨by rw [countP_take _ _ _ hk, h1]; simp, fun j d' hj hl hd' => ?_, fun _ => ⟨k, by omega, hk, hd⟩⟩
  by_cases e : j = k
  · subst e; rw [hd] at hd'; injection hd' with hd'; omega
  · have := h2 j d' (by omega) hl hd'; omega
theorem Seen.stay {M : Mdl} {k c : Nat} {mn d : Int} (h : Seen M k c mn) (hk : M.live[k]? = some true) (hd : M.dl[k]? = some d) (hc : c ≠ 0) (hlt : mn ≤ d) : Seen M (k + 1) (c + 1) mn := by
  obtain ⟨h1, h2, h3⟩ := h
  refine ⟨by rw [countP_take _ _ _ hk, h1]; simp, fun j d' hj hl hd' => ?_, fun _ => ?_⟩
  · by_cases e : j = k
    · subst e; rw [hd] at hd'; injection hd' with hd'; omega
    · have := h2 j d' (by omega) hl hd'; omega
  · obtain ⟨j, a, b, e⟩ := h3 (by omega)
    exact ⟨j, by omega, b, e⟩

theorem Seen.all {S : HSt} {M : Mdl} {L P : List Nat} {c : Nat} {mn : Int} (hI : HInv S L P) (hR : Rl S M) (h : Seen M M.hs.length c mn) : c = S.ents.length ∧ ∀ x0, S.ents[0]? = some x0 → mn = x0.d := by
  obtain ⟨h1, h2, h3⟩ := h
  have hc : c = S.ents.length := by
    rw [h1, ← hR.cnt, List.take_of_length_le (by rw [hR.l4]; exact Nat.le_refl _)]
  refine ⟨hc, fun x0 hx0 => ?_⟩
  have hl := (List.getElem?_eq_some_iff.1 hx0).1
  have hm0 : x0 ∈ S.ents := List.mem_iff_getElem?.2 ⟨0, hx0⟩
  have low : ∀ x ∈ S.ents, x0.d ≤ x.d := by
    intro x hx
    obtain ⟨k, hk⟩ := List.mem_iff_getElem?.1 hx
    have := root_min hI.ord hx0 k k x (Nat.le_refl _) hk
    rw [bef_not] at this
    omega
  obtain ⟨k, hh, e1, e2, e3⟩ := hR.cov x0 hm0
  obtain ⟨_, x, hx, xl, xd, _⟩ := hR.live k hh e1 e2
  have : x = x0 := hI.linj hx hm0 (by rw [xl, e3])
  subst this
  have a1 := h2 k x.d (List.getElem?_eq_some_iff.1 e1).1 e2 xd
  obtain ⟨j, b1, b2, b3⟩ := h3 (by omega)
  obtain ⟨h', e4⟩ : ∃ h', M.hs[j]? = some h' := ⟨_, List.getElem?_eq_getElem b1⟩
  obtain ⟨_, z, hz, _, zd, _⟩ := hR.live j h' e4 b2
  rw [b3] at zd; injection zd with zd
  have := low z hz
  omega

/-- A live handle's slot and entry. -/
theorem Rl.found {S : HSt} {M : Mdl} {L P : List Nat} (hI : HInv S L P) (hR : Rl S M) {k : Nat} {h : Hd} (hk : M.hs[k]? = some h) (hl : M.live[k]? = some true) :
    ∃ (s p : Nat) (y : Slt) (x : Ent), h.s = (s : Int) ∧ S.slots[s]? = some y ∧ y.gen = h.g ∧ y.pos = (p : Int) ∧ S.ents[p]? = some x ∧ x.l = (s : Int) ∧ M.dl[k]? = some x.d ∧ M.sq[k]? = some x.s ∧ M.vals[k]? = some y.v := by
  obtain ⟨a0, x, hx, xl, xd, xs, y, hy, yg, yv⟩ := hR.live k h hk hl
  obtain ⟨p, hp⟩ := List.mem_iff_getElem?.1 hx
  obtain ⟨_, y', hy', py⟩ := hI.pos p x hp
  rw [xl] at hy'
  rw [hy] at hy'; injection hy' with hy'; subst hy'
  exact ⟨h.s.toNat, p, y, x, by omega, hy, yg, py, hp, by rw [xl]; omega, xd, xs, yv⟩
theorem Rl.lost {S : HSt} {M : Mdl} (hR : Rl S M) {k : Nat} {h : Hd} (hk : M.hs[k]? = some h) (hl : M.live[k]? = some false) :
    ∃ s : Nat, h.s = (s : Int) ∧ pendB S s h.g = false := by
  obtain ⟨a0, y, hy, yg⟩ := hR.dead k h hk hl
  refine ⟨h.s.toNat, by omega, ?_⟩
  simp only [pendB, Int.toNat_natCast]
  rw [hy]
  simp; omega

set_option maxHeartbeats 4000000 in
set_option maxRecDepth 100000 in
theorem check_ok (F FM : Nat → Prop) (hb mb : Nat) (S : HSt) (M : Mdl) (L P : List Nat) (w : World) (hS : HP w F hb S) (hM : MP w FM mb M) (hI : HInv S L P) (hR : Rl S M) (bn : S.ents.length ≤ 100000) (bs : S.slots.length ≤ 100000) (bm : M.hs.length ≤ 100000) :
    Calls Yba.prog 11 #[.pointer (some ⟨hb, 0, none⟩), .pointer (some ⟨mb, 0, none⟩)] w fun r w' => r = .returned (.bool true) ∧ Ext w w' := by
  obtain ⟨v, HM⟩ := hM
  have HR : Hid (Rl S M) := hR
  have HI : Hid (HInv S L P) := hI
  have l1 := hR.l1
  have l4 := hR.l4
  have HL : Hid (M.dl.length = M.hs.length ∧ M.live.length = M.hs.length) := ⟨l1, l4⟩
  obtain ⟨n, hn⟩ : ∃ n, n = M.hs.length := ⟨_, rfl⟩
  have Hn : Hid (n = M.hs.length) := hn
  have bn' : n ≤ 100000 := by omega
  clear l1 l4 hn hR hI bm
  go_enter Yba.func11, Yba.ntmps11
  go_wp2_with fail
  go_loopw [5, 6, 7] (fun cv mv kv wr => ∃ (c k : Nat) (mn : Int), cv = .int .i64 c ∧ mv = .int .i64 mn ∧ kv = .int .i64 k ∧ k ≤ n ∧ c ≤ k ∧ Ext w wr ∧ Hid (Seen M k c mn)) (fun _ _ kv _ => n - (intOf kv).toNat)
  case atStart => exact ⟨0, 0, 0, rfl, rfl, rfl, by omega, by omega, Ext.refl w, ⟨by simp, fun j d h => by omega, fun h => by omega⟩⟩
  case round =>
    obtain ⟨c, k, mn, rfl, rfl, rfl, hk, hck, hE, HS⟩ := hrel
    have HM1 := HM.ext hE
    have hS1 := hS.ext hE
    obtain ⟨va, vc, hv⟩ := HM1.shape 0 (by omega)
    obtain ⟨q0, q1, q2, q3, q4, q5⟩ := HM1.cells
    rw [hv, show M.len 0 = n from Hn.out.symm] at q0
    by_cases hlt : k < n
    · obtain ⟨h, hh⟩ : ∃ h, M.hs[k]? = some h := ⟨_, List.getElem?_eq_getElem (by rw [← Hn.out]; exact hlt)⟩
      obtain ⟨b, hb'⟩ : ∃ b, M.live[k]? = some b := ⟨_, List.getElem?_eq_getElem (by rw [HL.out.2, ← Hn.out]; exact hlt)⟩
      obtain ⟨g0, k0, hv0, _, _, _, _⟩ := HM1.form 0 (by omega) (by show 0 < M.hs.length; have := Hn.out; omega)
      obtain ⟨g4, k4, hv4, _, _, _, _⟩ := HM1.form 4 (by omega) (by show 0 < M.live.length; have := HL.out.2; have := Hn.out; omega)
      obtain ⟨a0, a1⟩ := hflat_get M.hs k h hh
      have r0 := HM1.at (by omega) hv0 (k := k * 2) a0
      have r1 := HM1.at (by omega) hv0 (k := k * 2 + 1) a1
      have r4 := HM1.at (by omega) hv4 (k := k) (u := .bool b) (by simp [Mdl.row, hb'])
      rw [hv4, show M.len 4 = n from HL.out.2.trans Hn.out.symm] at q4
      rw [hv0, show M.len 0 = n from Hn.out.symm] at hv
      injection hv with hv1 hv2 hv3
      subst hv1; subst hv3
      have j1 : (0 : Int) ≤ (k : Int) := by omega
      have j2 : (k : Int) < (n : Int) := by omega
      have Hb : Hid (M.hs[k]? = some h ∧ M.live[k]? = some b) := ⟨hh, hb'⟩
      clear hh hb' a0 a1 hv0 hv4
      cases b with
      | false =>
        obtain ⟨s, hs, hpend⟩ := HR.out.lost Hb.out.1 Hb.out.2
        rw [hs] at r0
        go_wp2_with fail
        refine (Deadline_dead F hb S s h.g _ hS1 (by omega) hpend).mono ?_
        rintro r W1 ⟨rfl, e1⟩
        have p4 := e1.get q4
        have t4 := e1.get r4
        have HN : Hid (Seen M (k + 1) c mn) := HS.out.skip Hb.out.2
        have hE1 := hE.trans e1
        clear q0 q1 q2 q3 q4 q5 r0 r1 r4 HM1 hS1 e1 hE
        go_wp2_with fail
        exact ⟨⟨c, k + 1, mn, rfl, rfl, by go_num, by omega, by omega, hE1, HN⟩, by simp [intOf]; omega⟩
      | true =>
        obtain ⟨s, p, y, x, hs, hy, hg, hp, hx, hxl, xd, _, _⟩ := HR.out.found HI.out Hb.out.1 Hb.out.2
        rw [hs] at r0
        obtain ⟨g1, k1, hv1, _, _, _, _⟩ := HM1.form 1 (by omega) (by show 0 < M.dl.length; have := HL.out.1; have := Hn.out; omega)
        have r2 := HM1.at (by omega) hv1 (k := k) (u := .int .i64 x.d) (by simp [Mdl.row, xd])
        rw [hv1, show M.len 1 = n from HL.out.1.trans Hn.out.symm] at q1
        clear hv1
        go_wp2_with fail
        refine (Deadline_live F hb S s p h.g y x _ hS1 (by omega) (by omega) hy hg hp hx).mono ?_
        rintro r W1 ⟨rfl, e1⟩
        have p4 := e1.get q4
        have t4 := e1.get r4
        have p1 := e1.get q1
        have t1 := e1.get r2
        have hE1 := hE.trans e1
        have Hd' : Hid (M.dl[k]? = some x.d) := xd
        clear q0 q1 q2 q3 q4 q5 r0 r1 r4 r2 HM1 hS1 e1 hE hy hg hp hx hxl xd
        by_cases hc0 : c = 0
        · have HN : Hid (Seen M (k + 1) (c + 1) x.d) := HS.out.lower Hb.out.2 Hd'.out (.inl hc0)
          have n0 : ((c : Int) == 0) = true := by simp [hc0]
          clear hc0
          go_wp2_with fail
          exact ⟨⟨c + 1, k + 1, x.d, by go_num, rfl, by go_num, by omega, by omega, hE1, HN⟩, by simp [intOf]; omega⟩
        · have n0 : ((c : Int) == 0) = false := beq_eq_false_iff_ne.2 (by omega)
          by_cases hm : x.d < mn
          · have HN : Hid (Seen M (k + 1) (c + 1) x.d) := HS.out.lower Hb.out.2 Hd'.out (.inr hm)
            go_wp2_with fail
            exact ⟨⟨c + 1, k + 1, x.d, by go_num, rfl, by go_num, by omega, by omega, hE1, HN⟩, by simp [intOf]; omega⟩
          · have HN : Hid (Seen M (k + 1) (c + 1) mn) := HS.out.stay Hb.out.2 Hd'.out hc0 (by omega)
            go_wp2_with fail
            exact ⟨⟨c + 1, k + 1, mn, by go_num, rfl, by go_num, by omega, by omega, hE1, HN⟩, by simp [intOf]; omega⟩
    · have hkn : k = M.hs.length := by have := Hn.out; omega
      have hA := HS.out
      rw [hkn] at hA
      obtain ⟨hc, hroot⟩ := hA.all HI.out HR.out
      go_wp2_with fail
      refine (Len_any F hb S _ hS1).mono ?_
      rintro r W1 ⟨rfl, rfl⟩
      rw [← hc]
      have HC : Hid (c = S.ents.length) := hc
      clear hc
      go_wp2_with fail
      by_cases h0 : S.ents.length = 0
      · refine (Next_none F hb S _ hS1 h0).mono ?_
        rintro r W2 ⟨rfl, rfl⟩
        have c0 : c = 0 := by have := HC.out; omega
        have d0 : decide (0 < c) = false := by simp [c0]
        clear c0 h0
        go_wp2_with fail
        go_ret
        exact ⟨rfl, hE⟩
      · obtain ⟨x0, hx0⟩ : ∃ x, S.ents[0]? = some x := ⟨_, List.getElem?_eq_getElem (by omega)⟩
        refine (Next_some F hb S x0 _ hS1 hx0).mono ?_
        rintro r W2 ⟨rfl, rfl⟩
        have c0 : 0 < c := by have := HC.out; omega
        have hmn := hroot x0 hx0
        subst hmn
        clear hroot hx0 h0
        go_wp2_with fail
        go_ret
        exact ⟨rfl, hE⟩
end Go.Proofs.Ybulkadzc
