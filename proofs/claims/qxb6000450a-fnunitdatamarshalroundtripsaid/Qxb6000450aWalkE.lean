/-
  SEAT b6000450a: the walk of 'eqBytes' (11): two slices that read alike.
-/
import Derived.Test.Qxb6000450aWalkA
namespace Go.Proofs.Qxb6000450a
open Go.RowKit
open Pl

theorem cell_drewN (w : World) (n : Nat) (a : Addr) : (w.drewN n).cell? a = w.cell? a := by
  induction n with
  | zero => rfl
  | succ n ih => exact ih

set_option maxHeartbeats 400000 in
theorem eq_none (a b : Option Addr) (c d : Nat) (w : World) :
    Calls Try.prog 11 #[.slice a 0 c, .slice b 0 d] w fun e w' => e = .returned (.bool true) ∧ ∃ m, w' = w.drewN m := by
  go_enter Try.func11, Try.ntmps11
  go_wp2
  go_loop [5] (fun i => i = .int .i64 0) (fun _ => 0)
  case atStart => rfl
  case round =>
    obtain rfl := hrel
    go_wp2
    go_ret
    exact ⟨rfl, 0, rfl⟩

set_option maxHeartbeats 400000 in
theorem eq_some (b1 o1 b2 o2 n c d : Nat) (x : Nat → Int) (w : World) (hn : n ≤ 4194304)
    (h1 : Hid (∀ j, j < n → w.cell? ⟨b1, o1 + j, none⟩ = some (.int .u8 (x j)))) (h2 : Hid (∀ j, j < n → w.cell? ⟨b2, o2 + j, none⟩ = some (.int .u8 (x j)))) :
    Calls Try.prog 11 #[.slice (some ⟨b1, o1, none⟩) n c, .slice (some ⟨b2, o2, none⟩) n d] w fun e w' => e = .returned (.bool true) ∧ ∃ m, w' = w.drewN m := by
  go_enter Try.func11, Try.ntmps11
  go_wp2
  go_loopw [5] (fun i wr => ∃ k : Nat, k ≤ n ∧ i = .int .i64 (k : Int) ∧ Hid (∃ m, wr = w.drewN m)) (fun i _ => n - (intOf i).toNat)
  case atStart => exact ⟨0, Nat.zero_le _, rfl, 0, rfl⟩
  case round =>
    obtain ⟨k, hk, rfl, hm⟩ := hrel
    by_cases hlt : k < n
    · have c1 : wr.cell? ⟨b1, o1 + k, none⟩ = some (.int .u8 (x k)) := by
        obtain ⟨m, rfl⟩ := hm.out; rw [cell_drewN]; exact h1.out k hlt
      have c2 : wr.cell? ⟨b2, o2 + k, none⟩ = some (.int .u8 (x k)) := by
        obtain ⟨m, rfl⟩ := hm.out; rw [cell_drewN]; exact h2.out k hlt
      have hlt' : (k : Int) < (n : Int) := by omega
      have hk0 : (0 : Int) ≤ (k : Int) := by omega
      go_wp2
      go_quiet (fail)
      go_wp2
      go_roundw
      case rel => exact ⟨k + 1, by omega, by go_num, by obtain ⟨m, rfl⟩ := hm.out; exact ⟨m + nq, World.drewN_drewN _ _ _⟩⟩
      case measure => simp [intOf]; omega
    · go_wp2
      go_ret
      exact ⟨rfl, hm.out⟩

/-- Two slices that read alike. -/
theorem eq_calls (a b : Option Addr) (n n' c d : Nat) (w : World) (hn : n ≤ 4194304) (hnn : n' = n)
    (h : 0 < n → ∃ b1 o1 b2 o2 : Nat, ∃ x : Nat → Int, a = some ⟨b1, o1, none⟩ ∧ b = some ⟨b2, o2, none⟩ ∧ (∀ j, j < n → w.cell? ⟨b1, o1 + j, none⟩ = some (.int .u8 (x j))) ∧ ∀ j, j < n → w.cell? ⟨b2, o2 + j, none⟩ = some (.int .u8 (x j))) :
    Calls Try.prog 11 #[.slice a n c, .slice b n' d] w fun e w' => e = .returned (.bool true) ∧ ∃ m, w' = w.drewN m := by
  subst hnn
  by_cases h0 : n' = 0
  · subst h0; exact eq_none a b c d w
  · obtain ⟨b1, o1, b2, o2, x, rfl, rfl, h1, h2⟩ := h (by omega)
    exact eq_some b1 o1 b2 o2 n' c d x w hn h1 h2

end Go.Proofs.Qxb6000450a
