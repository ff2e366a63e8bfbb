/-
  SEAT b6000450a: the walk of the law 'FnE164AddressConcatenatesEvenPrefix' (7).
-/
import Derived.Test.Qxb6000450aWalkE
import Derived.Test.Qxb6000450aCat
namespace Go.Proofs.Qxb6000450a.fnE164AddressConcatenatesEvenPrefix
open Go.RowKit
open Pl

/-! ### STEP 1: THE WALK -/
theorem zz_yes (t u : ByteArray) (q : Int) (w : World) (h : t.size + u.size ≤ 1048576) :
    Calls Try.prog 19 #[.string t, .string u, .int .u8 q] w fun e w' => e = .returned (.bool true) ∧ w = w' := by
  go_enter Try.func19, Try.ntmps19
  go_wp2
  go_ret
  exact ⟨rfl, rfl⟩

theorem zz_no (t u : ByteArray) (q : Int) (w : World) (ht : t.size ≤ maxLen) (hu : u.size ≤ maxLen) (h : 1048576 < t.size + u.size) :
    Calls Try.prog 19 #[.string t, .string u, .int .u8 q] w fun e w' => e = .returned (.bool false) ∧ w = w' := by
  unfold maxLen at ht hu
  by_cases h1 : 1048576 < t.size
  · go_enter Try.func19, Try.ntmps19
    go_wp2
    go_ret
    exact ⟨rfl, rfl⟩
  · by_cases h2 : 1048576 < u.size
    · go_enter Try.func19, Try.ntmps19
      go_wp2
      go_ret
      exact ⟨rfl, rfl⟩
    · go_enter Try.func19, Try.ntmps19
      go_wp2
      go_ret
      exact ⟨rfl, rfl⟩

theorem bel_drewN {B : Nat} {a w : World} (h : Below B a w) (n : Nat) : Below B a (w.drewN n) := by
  induction n with
  | zero => exact h
  | succ n ih => exact ih.drew

/-- The address, in the words that the law wants. -/
theorem e164_at (s : ByteArray) (q : Int) (w : World) (hs : s.size ≤ 1048576) (n : Nat) (hn : 5 + (s.size + 1) / 2 = n) :
    Calls Try.prog 17 #[.string s, .int .u8 q] w fun e w' => ∃ g cap : Nat, e = .returned (.slice (some ⟨g, 0, none⟩) n cap) ∧ n ≤ cap ∧ g < w'.heap.size ∧ Hid (∀ j, j < n → w'.cell? ⟨g, j, none⟩ = some (.int .u8 (adAt s q j))) ∧ Hid (Below w.heap.size w w') := by
  refine (e164_calls s q w hs).mono ?_
  rintro e w1 ⟨v, rfl, hown, hb⟩
  have hl : (ad s q).length = n := by rw [ad_length, hn]
  unfold Own at hown
  rw [hl] at hown
  obtain ⟨g, cap, rfl, hbg, hgl⟩ := hown.form (by omega)
  refine ⟨g, cap, rfl, ?_, hgl, fun j hj => ?_, hb⟩
  · rcases hown.2 with ⟨hq, _⟩ | ⟨g', cap', cur, hq, _, _, hnc, _⟩
    · simp at hq
    · simp at hq; omega
  · rw [hown.cellAt j (by omega), List.getElem?_map, ad_get s q j (by omega)]; rfl

theorem eq_quiet (a b : Option Addr) (n n' c d : Nat) (w : World) (x0 : Nat) (hn : n ≤ 4194304) (hnn : n' = n)
    (h : 0 < n → ∃ b1 o1 b2 o2 : Nat, ∃ x : Nat → Int, a = some ⟨b1, o1, none⟩ ∧ b = some ⟨b2, o2, none⟩ ∧ (∀ j, j < n → w.cell? ⟨b1, o1 + j, none⟩ = some (.int .u8 (x j))) ∧ ∀ j, j < n → w.cell? ⟨b2, o2 + j, none⟩ = some (.int .u8 (x j))) :
    Calls Try.prog 11 #[.slice a n c, .slice b n' d] (w.drewN x0) fun e w'' => e = .returned (.bool true) ∧ ∃ m, w'' = w.drewN m := by
  refine Calls.quiet_of (eq_calls a b n n' c d _ hn hnn (fun h0 => ?_))
  obtain ⟨b1, o1, b2, o2, x, e1, e2, h1, h2⟩ := h h0
  exact ⟨b1, o1, b2, o2, x, e1, e2, fun j hj => by rw [cell_drewN]; exact h1 j hj, fun j hj => by rw [cell_drewN]; exact h2 j hj⟩

theorem eq_quiet2 (a b : Option Addr) (n n' c d : Nat) (w : World) (x0 x1 : Nat) (hn : n' ≤ 4194304) (hnn : n = n')
    (h : 0 < n' → ∃ b1 o1 b2 o2 : Nat, ∃ x : Nat → Int, a = some ⟨b1, o1, none⟩ ∧ b = some ⟨b2, o2, none⟩ ∧ (∀ j, j < n' → w.cell? ⟨b1, o1 + j, none⟩ = some (.int .u8 (x j))) ∧ ∀ j, j < n' → w.cell? ⟨b2, o2 + j, none⟩ = some (.int .u8 (x j))) :
    Calls Try.prog 11 #[.slice a n c, .slice b n' d] (w.drewN (x0 + x1)) fun e w'' => e = .returned (.bool true) ∧ ∃ m, w'' = w.drewN (x0 + m) := by
  subst hnn
  refine (eq_calls a b n n c d _ hn rfl (fun h0 => ?_)).mono ?_
  · obtain ⟨b1, o1, b2, o2, x, e1, e2, h1, h2⟩ := h h0
    exact ⟨b1, o1, b2, o2, x, e1, e2, fun j hj => by rw [cell_drewN]; exact h1 j hj, fun j hj => by rw [cell_drewN]; exact h2 j hj⟩
  · rintro e w' ⟨rfl, m, rfl⟩
    exact ⟨rfl, x1 + m, by rw [World.drewN_drewN, Nat.add_assoc]⟩

theorem eq_none2 (a b : Option Addr) (c d : Nat) (w : World) (x0 x1 : Nat) :
    Calls Try.prog 11 #[.slice a 0 c, .slice b 0 d] (w.drewN (x0 + x1)) fun e w'' => e = .returned (.bool true) ∧ ∃ m, w'' = w.drewN (x0 + m) :=
  eq_quiet2 a b 0 0 c d w x0 x1 (by decide) rfl (fun h => absurd h (by decide))

theorem at_head {t u : ByteArray} {k : Nat} (hk : t.size = 2 * k) (q : Int) (j : Nat) (hj : j < 5) : adAt (t ++ u) q j = adAt u q j := by
  unfold adAt; rw [if_pos hj, if_pos hj, hd_app hk]
theorem at_mid {t u : ByteArray} {k : Nat} (hk : t.size = 2 * k) (q : Int) (j : Nat) (hj : j < k) : adAt (t ++ u) q (5 + j) = adAt t q (5 + j) := by
  unfold adAt; rw [if_neg (by omega), if_neg (by omega), Nat.add_sub_cancel_left, oct_head hk hj]
theorem at_tail {t u : ByteArray} {k : Nat} (hk : t.size = 2 * k) (q : Int) (j : Nat) : adAt (t ++ u) q (5 + k + j) = adAt u q (5 + j) := by
  unfold adAt; rw [if_neg (by omega), if_neg (by omega), Nat.add_sub_cancel_left, show 5 + k + j - 5 = k + j from by omega, oct_tail hk]

set_option maxHeartbeats 2000000 in
theorem walk (a0 : ByteArray) (a1 : ByteArray) (a2 : Int) (w0 : a0.size ≤ maxLen) (w1 : a1.size ≤ maxLen) (_w2 : (Lit.int .u8 a2).wf = true) (w : World) :
    Calls Try.prog 7 #[.string a0, .string a1, .int .u8 a2] w fun e w' => e = .returned (.bool true) ∧ Below w.heap.size w w' := by
  clear _w2
  by_cases h : a0.size + a1.size ≤ 1048576
  · by_cases hx : 65536 < a0.size
    · go_enter Try.func7, Try.ntmps7
      go_wp2_with fail
      refine (zz_yes a0 a1 _ _ h).mono ?_
      rintro e w' ⟨rfl, rfl⟩
      go_wp2
      go_ret
      exact ⟨rfl, Below.refl _ _⟩
    · by_cases hy : 65536 < a1.size
      · go_enter Try.func7, Try.ntmps7
        go_wp2_with fail
        refine (zz_yes a0 a1 _ _ h).mono ?_
        rintro e w' ⟨rfl, rfl⟩
        go_wp2
        go_ret
        exact ⟨rfl, Below.refl _ _⟩
      · by_cases hp : a0.size % 2 = 0
        · have hp' : ((a0.size : Int) % 2 != 0) = false := by rw [bne_eq_false_iff_eq]; omega
          obtain ⟨k, hk⟩ : ∃ k, a0.size = 2 * k := ⟨a0.size / 2, by omega⟩
          obtain ⟨t, ht⟩ : ∃ t, (a1.size + 1) / 2 = t := ⟨_, rfl⟩
          have K : Hid (a0.size = 2 * k) := hk
          have k1 : a0.size ≤ 2 * k := by omega
          have k2 : 2 * k ≤ a0.size := by omega
          have t1 : a1.size ≤ 2 * t := by omega
          have t2 : 2 * t ≤ a1.size + 1 := by omega
          have hs1 : Hid ((a0 ++ a1).size ≤ 1048576) := by unfold Hid; rw [size_app]; exact h
          have n1 : Hid (5 + ((a0 ++ a1).size + 1) / 2 = 5 + (k + t)) := by unfold Hid; rw [size_app]; omega
          have n2 : Hid (5 + (a0.size + 1) / 2 = 5 + k) := by unfold Hid; omega
          have n3 : Hid (5 + (a1.size + 1) / 2 = 5 + t) := by unfold Hid; omega
          clear hk ht hp
          go_enter Try.func7, Try.ntmps7
          go_wp2_with fail
          refine (zz_yes a0 a1 _ _ h).mono ?_
          rintro e w' ⟨rfl, rfl⟩
          go_wp2_with fail
          refine (e164_at (a0 ++ a1) a2 _ hs1.out _ n1.out).mono ?_
          rintro e wa ⟨g1, cap1, rfl, m1, l1, C1, B1⟩
          go_wp2_with fail
          refine (e164_at a0 a2 _ (by omega) _ n2.out).mono ?_
          rintro e wb ⟨g2, cap2, rfl, m2, l2, C2, B2⟩
          go_wp2_with fail
          refine (e164_at a1 a2 _ (by omega) _ n3.out).mono ?_
          rintro e wc ⟨g3, cap3, rfl, m3, l3, C3, B3⟩
          have Bz : Hid (Below w.heap.size w wc) := (B1.out.trans (B2.out.mono B1.out.size)).trans (B3.out.mono (Nat.le_trans B1.out.size B2.out.size))
          have D1 : Hid (∀ j, j < 5 + (k + t) → wc.cell? ⟨g1, j, none⟩ = some (.int .u8 (adAt (a0 ++ a1) a2 j))) := fun j hj =>
            (B3.out.cell (p := ⟨g1, j, none⟩) (Nat.lt_of_lt_of_le l1 B2.out.size)).trans ((B2.out.cell (p := ⟨g1, j, none⟩) l1).trans (C1.out j hj))
          have D2 : Hid (∀ j, j < 5 + k → wc.cell? ⟨g2, j, none⟩ = some (.int .u8 (adAt a0 a2 j))) := fun j hj =>
            (B3.out.cell (p := ⟨g2, j, none⟩) l2).trans (C2.out j hj)
          clear B1 B2 B3 C1 C2 l1 l2 l3
          have f1 : decide ((5 : Int) + (k : Int) < 5) = false := by simp; omega
          have f2 : decide ((5 : Int) + (t : Int) < 5) = false := by simp; omega
          have f3 : ((5 : Int) + ((k : Int) + (t : Int)) != 5 + (k : Int) + (5 + (t : Int)) - 5) = false := by rw [bne_eq_false_iff_eq]; omega
          go_wp2
          have Q1 : Hid (0 < 5 → ∃ b1 o1 b2 o2 : Nat, ∃ x : Nat → Int, some (⟨g1, 0, none⟩ : Addr) = some ⟨b1, o1, none⟩ ∧ some (⟨g3, 0, none⟩ : Addr) = some ⟨b2, o2, none⟩ ∧ (∀ j, j < 5 → wc.cell? ⟨b1, o1 + j, none⟩ = some (.int .u8 (x j))) ∧ ∀ j, j < 5 → wc.cell? ⟨b2, o2 + j, none⟩ = some (.int .u8 (x j))) := fun _ =>
            ⟨g1, 0, g3, 0, adAt a1 a2, rfl, rfl, fun j hj => by rw [Nat.zero_add, ← at_head K.out a2 j hj]; exact D1.out j (by omega), fun j hj => by rw [Nat.zero_add]; exact C3.out j (by omega)⟩
          have Q2 : Hid (0 < k → ∃ b1 o1 b2 o2 : Nat, ∃ x : Nat → Int, some (⟨g1, 5, none⟩ : Addr) = some ⟨b1, o1, none⟩ ∧ some (⟨g2, 5, none⟩ : Addr) = some ⟨b2, o2, none⟩ ∧ (∀ j, j < k → wc.cell? ⟨b1, o1 + j, none⟩ = some (.int .u8 (x j))) ∧ ∀ j, j < k → wc.cell? ⟨b2, o2 + j, none⟩ = some (.int .u8 (x j))) := fun _ =>
            ⟨g1, 5, g2, 5, fun j => adAt a0 a2 (5 + j), rfl, rfl, fun j hj => by show _ = some (Value.int .u8 (adAt a0 a2 (5 + j))); rw [← at_mid (u := a1) K.out a2 j hj]; exact D1.out (5 + j) (by omega), fun j hj => D2.out (5 + j) (by omega)⟩
          have Q3 : Hid (0 < t → ∃ b1 o1 b2 o2 : Nat, ∃ x : Nat → Int, some (⟨g1, 5 + k, none⟩ : Addr) = some ⟨b1, o1, none⟩ ∧ some (⟨g3, 5, none⟩ : Addr) = some ⟨b2, o2, none⟩ ∧ (∀ j, j < t → wc.cell? ⟨b1, o1 + j, none⟩ = some (.int .u8 (x j))) ∧ ∀ j, j < t → wc.cell? ⟨b2, o2 + j, none⟩ = some (.int .u8 (x j))) := fun _ =>
            ⟨g1, 5 + k, g3, 5, fun j => adAt a1 a2 (5 + j), rfl, rfl, fun j hj => by show _ = some (Value.int .u8 (adAt a1 a2 (5 + j))); rw [← at_tail K.out a2 j]; exact D1.out (5 + k + j) (by omega), fun j hj => C3.out (5 + j) (by omega)⟩
          go_quiet ((go_at_call 11; exact eq_quiet _ _ 5 5 _ _ wc _ (by decide) rfl Q1.out))
          go_wp2
          rcases Nat.lt_or_ge 5 cap1 with h15 | h15
          · rcases Nat.lt_or_ge 5 cap2 with h25 | h25
            · go_quiet ((go_at_call 11; exact eq_quiet2 _ _ k k _ _ wc _ _ (by omega) rfl Q2.out))
              go_wp2
              rcases Nat.lt_or_ge (5 + k) cap1 with h1k | h1k
              · rcases Nat.lt_or_ge 5 cap3 with h35 | h35
                · go_quiet ((go_at_call 11; exact eq_quiet2 _ _ (5 + (k + t) - (5 + k)) t _ _ wc _ _ (by omega) (by omega) Q3.out))
                  go_wp2
                  go_ret
                  exact ⟨rfl, bel_drewN (bel_drewN (bel_drewN Bz.out _) _) _⟩
                · obtain rfl : cap3 = 5 := by omega
                  obtain rfl : t = 0 := by omega
                  go_quiet ((go_at_call 11; exact eq_none2 _ _ _ _ wc _ _))
                  go_wp2
                  go_ret
                  exact ⟨rfl, bel_drewN (bel_drewN (bel_drewN Bz.out _) _) _⟩
              · obtain rfl : cap1 = 5 + k := by omega
                obtain rfl : t = 0 := by omega
                rcases Nat.lt_or_ge 5 cap3 with h35 | h35
                · go_quiet ((go_at_call 11; exact eq_none2 _ _ _ _ wc _ _))
                  go_wp2
                  go_ret
                  exact ⟨rfl, bel_drewN (bel_drewN (bel_drewN Bz.out _) _) _⟩
                · obtain rfl : cap3 = 5 := by omega
                  go_quiet ((go_at_call 11; exact eq_none2 _ _ _ _ wc _ _))
                  go_wp2
                  go_ret
                  exact ⟨rfl, bel_drewN (bel_drewN (bel_drewN Bz.out _) _) _⟩
            · obtain rfl : cap2 = 5 := by omega
              obtain rfl : k = 0 := by omega
              go_quiet ((go_at_call 11; exact eq_none2 _ _ _ _ wc _ _))
              go_wp2
              rcases Nat.lt_or_ge 5 cap3 with h35 | h35
              · go_quiet ((go_at_call 11; exact eq_quiet2 _ _ t t _ _ wc _ _ (by omega) rfl Q3.out))
                go_wp2
                go_ret
                exact ⟨rfl, bel_drewN (bel_drewN (bel_drewN Bz.out _) _) _⟩
              · obtain rfl : cap3 = 5 := by omega
                obtain rfl : t = 0 := by omega
                go_quiet ((go_at_call 11; exact eq_none2 _ _ _ _ wc _ _))
                go_wp2
                go_ret
                exact ⟨rfl, bel_drewN (bel_drewN (bel_drewN Bz.out _) _) _⟩
          · obtain rfl : cap1 = 5 := by omega
            obtain rfl : k = 0 := by omega
            obtain rfl : t = 0 := by omega
            rcases Nat.lt_or_ge 5 cap2 with h25 | h25
            · go_quiet ((go_at_call 11; exact eq_none2 _ _ _ _ wc _ _))
              go_wp2
              rcases Nat.lt_or_ge 5 cap3 with h35 | h35
              · go_quiet ((go_at_call 11; exact eq_none2 _ _ _ _ wc _ _))
                go_wp2
                go_ret
                exact ⟨rfl, bel_drewN (bel_drewN (bel_drewN Bz.out _) _) _⟩
              · obtain rfl : cap3 = 5 := by omega
                go_quiet ((go_at_call 11; exact eq_none2 _ _ _ _ wc _ _))
                go_wp2
                go_ret
                exact ⟨rfl, bel_drewN (bel_drewN (bel_drewN Bz.out _) _) _⟩
            · obtain rfl : cap2 = 5 := by omega
              go_quiet ((go_at_call 11; exact eq_none2 _ _ _ _ wc _ _))
              go_wp2
              rcases Nat.lt_or_ge 5 cap3 with h35 | h35
              · go_quiet ((go_at_call 11; exact eq_none2 _ _ _ _ wc _ _))
                go_wp2
                go_ret
                exact ⟨rfl, bel_drewN (bel_drewN (bel_drewN Bz.out _) _) _⟩
              · obtain rfl : cap3 = 5 := by omega
                go_quiet ((go_at_call 11; exact eq_none2 _ _ _ _ wc _ _))
                go_wp2
                go_ret
                exact ⟨rfl, bel_drewN (bel_drewN (bel_drewN Bz.out _) _) _⟩
        · have hp' : ((a0.size : Int) % 2 != 0) = true := by rw [bne_iff_ne]; omega
          go_enter Try.func7, Try.ntmps7
          go_wp2_with fail
          refine (zz_yes a0 a1 _ _ h).mono ?_
          rintro e w' ⟨rfl, rfl⟩
          go_wp2
          go_ret
          exact ⟨rfl, Below.refl _ _⟩
  · go_enter Try.func7, Try.ntmps7
    go_wp2_with fail
    refine (zz_no a0 a1 _ _ w0 w1 (by omega)).mono ?_
    rintro e w' ⟨rfl, rfl⟩
    go_wp2
    go_ret
    exact ⟨rfl, Below.refl _ _⟩

end Go.Proofs.Qxb6000450a.fnE164AddressConcatenatesEvenPrefix
