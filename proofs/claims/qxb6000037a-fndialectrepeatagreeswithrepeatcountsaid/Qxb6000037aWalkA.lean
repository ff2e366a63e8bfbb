/-
  SEAT b6000037a: the walks of 'isDigit' (19), of repeatCount's closure 'digits' (18).
-/
import Derived.Test.Qxb6000037aProg
import Derived.Test.Qxb6000037aPlain
import Derived.WalkKit
import Derived.WalkSpells
namespace Go.Proofs.Qxb6000037a
open Go.RowKit
open Pl

theorem ret_bool {a b : Bool} (h : a = b) : Ending.returned (.bool a) = .returned (.bool b) := by rw [h]
theorem ret_int {k : IntKind} {a b : Int} (h : a = b) : Ending.returned (.int k a) = .returned (.int k b) := by rw [h]

theorem isDigit_calls (n : Nat) (w : World) :
    Calls Try.prog 19 #[.int .u8 (n : Int)] w fun e w' => e = .returned (.bool (isD n)) ∧ w' = w := by
  by_cases h1 : 48 ≤ n
  · by_cases h2 : n ≤ 57
    · have hd : isD n = true := (isD_iff n).2 ⟨h1, h2⟩
      rw [hd]
      clear hd
      go_enter Try.func19, Try.ntmps19
      go_wp2
      go_ret
      exact ⟨ret_bool (by simp; omega), rfl⟩
    · have hd : isD n = false := (isD_not n).2 (by omega)
      rw [hd]
      clear hd
      go_enter Try.func19, Try.ntmps19
      go_wp2
      go_ret
      exact ⟨ret_bool (by simp; omega), rfl⟩
  · have hd : isD n = false := (isD_not n).2 (by omega)
    rw [hd]
    clear hd
    go_enter Try.func19, Try.ntmps19
    go_wp2
    go_ret
    exact ⟨rfl, rfl⟩

/-- The world behind a call of 'digits': the captured flag is written where the run has a leading zero. -/
def flagged (w : World) (b2 : Nat) (b : Bool) : World := match b with
  | true => w.setCell ⟨b2, 0, none⟩ (.bool true)
  | false => w

set_option maxHeartbeats 400000 in
theorem digits_calls (t : ByteArray) (f b1 b2 : Nat) (l0 : Bool) (w : World) (ht : t.size ≤ 4194304) (hf : f ≤ t.size + 1)
    (c1 : w.cell? ⟨b1, 0, none⟩ = some (.string t)) (c2 : w.cell? ⟨b2, 0, none⟩ = some (.bool l0)) (z2 : w.frozen? ⟨b2, 0, none⟩ = false) :
    Calls Try.prog 18 #[.int .i64 (f : Int), .pointer (some ⟨b1, 0, none⟩), .pointer (some ⟨b2, 0, none⟩)] w fun e w' =>
      e = .returned (.int .i64 (dEnd t f : Int)) ∧ w' = flagged w b2 (lz t f (dEnd t f)) := by
  go_enter Try.func18, Try.ntmps18
  go_wp2
  go_loop [5] (fun i => ∃ k : Nat, i = .int .i64 (k : Int) ∧ f ≤ k ∧ k ≤ t.size + 1 ∧ Hid (∀ j, f ≤ j → j < k → j < t.size ∧ isD (bt t j) = true)) (fun i => t.size + 1 - (intOf i).toNat)
  case atStart => exact ⟨f, rfl, Nat.le_refl _, hf, fun j h1 h2 => absurd h2 (by omega)⟩
  case round =>
    obtain ⟨k, rfl, hfk, hk, H⟩ := hrel
    by_cases hlt : k < t.size
    · have he := bt_eq t k hlt
      by_cases hd : isD t[k].toNat = true
      · have H' : Hid (∀ j, f ≤ j → j < k + 1 → j < t.size ∧ isD (bt t j) = true) := by
          intro j h1 h2
          by_cases hj : j = k
          · subst hj; exact ⟨hlt, by rw [← he]; exact hd⟩
          · exact H.out j h1 (by omega)
        clear he H
        go_wp2_with (go_at_call 19; refine (isDigit_calls _ _).mono ?_; rintro e w' ⟨rfl, rfl⟩)
        go_round
        case rel => exact ⟨k + 1, by go_num, by omega, by omega, H'⟩
        case measure => simp [intOf]; omega
      · have E : Hid (dEnd t f = k) := dEnd_of ⟨hfk, H.out, fun h => hd (by rw [he]; exact h.2)⟩
        have hd' : isD t[k].toNat = false := by simpa using hd
        by_cases h1 : f + 1 < k
        · have hfs : f < t.size := (H.out f (by omega) (by omega)).1
          have hef := bt_eq t f hfs
          by_cases h0 : bt t f = 48
          · have L : Hid (lz t f k = true) := by simp [Hid, lz, h0]; omega
            have h0' : ((t[f].toNat : Int) == 48) = true := by rw [hef, h0]; rfl
            clear he H hd hef h0
            go_wp2_with (first | (go_at_call 19; refine (isDigit_calls _ _).mono ?_; rintro e w' ⟨rfl, rfl⟩))
            go_ret
            exact ⟨ret_int (by rw [E.out]), by rw [E.out, L.out]; rfl⟩
          · have L : Hid (lz t f k = false) := by simp [Hid, lz, h0]
            have h0' : ((t[f].toNat : Int) == 48) = false := by rw [hef]; simp; omega
            clear he H hd hef h0
            go_wp2_with (first | (go_at_call 19; refine (isDigit_calls _ _).mono ?_; rintro e w' ⟨rfl, rfl⟩))
            go_ret
            exact ⟨ret_int (by rw [E.out]), by rw [E.out, L.out]; rfl⟩
        · have L : Hid (lz t f k = false) := by simp [Hid, lz]; omega
          clear he H hd
          go_wp2_with (first | (go_at_call 19; refine (isDigit_calls _ _).mono ?_; rintro e w' ⟨rfl, rfl⟩))
          go_ret
          exact ⟨ret_int (by rw [E.out]), by rw [E.out, L.out]; rfl⟩
    · have E : Hid (dEnd t f = k) := dEnd_of ⟨hfk, H.out, fun h => hlt h.1⟩
      by_cases h1 : f + 1 < k
      · have hfs : f < t.size := (H.out f (by omega) (by omega)).1
        have hef := bt_eq t f hfs
        by_cases h0 : bt t f = 48
        · have L : Hid (lz t f k = true) := by simp [Hid, lz, h0]; omega
          have h0' : ((t[f].toNat : Int) == 48) = true := by rw [hef, h0]; rfl
          clear H hef h0
          go_wp2
          go_ret
          exact ⟨ret_int (by rw [E.out]), by rw [E.out, L.out]; rfl⟩
        · have L : Hid (lz t f k = false) := by simp [Hid, lz, h0]
          have h0' : ((t[f].toNat : Int) == 48) = false := by rw [hef]; simp; omega
          clear H hef h0
          go_wp2
          go_ret
          exact ⟨ret_int (by rw [E.out]), by rw [E.out, L.out]; rfl⟩
      · have L : Hid (lz t f k = false) := by simp [Hid, lz]; omega
        clear H
        go_wp2
        go_ret
        exact ⟨ret_int (by rw [E.out]), by rw [E.out, L.out]; rfl⟩

end Go.Proofs.Qxb6000037a
