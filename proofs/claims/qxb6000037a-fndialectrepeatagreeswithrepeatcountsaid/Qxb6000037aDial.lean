/-
  SEAT b6000037a: the plain side of '(*dialectScan).repeat'; no Go in sight.
-/
import Derived.Test.Qxb6000037aBytes
namespace Go.Proofs.Qxb6000037a.Pl

/-- Behind a quantifier that ends at n: the lazy '?' is taken too. -/
def lzEnd (s : ByteArray) (n : Nat) : Nat := if n < s.size ∧ bt s n = 63 then n + 1 else n

theorem lzEnd_yes {s : ByteArray} {n : Nat} (h : n < s.size) (k : bt s n = 63) : lzEnd s n = n + 1 := if_pos ⟨h, k⟩
theorem lzEnd_no {s : ByteArray} {n : Nat} (h : ¬ (n < s.size ∧ bt s n = 63)) : lzEnd s n = n := if_neg h

/-- What 'repeat' at s[i] answers: (n, p). -/
def Dr (s : ByteArray) (i n : Nat) (p : ByteArray) : Prop :=
  (bt s i ≠ 123 ∧ n = lzEnd s (i + 1) ∧ p = ⟨#[]⟩) ∨
  (bt s i = 123 ∧ rc (s.extract i s.size) = (-1, false) ∧ n = 0 ∧ p = ⟨#[123]⟩) ∨
  (∃ m : Nat, bt s i = 123 ∧ rc (s.extract i s.size) = ((m : Int), true) ∧ n = 0 ∧ p = s.extract i (i + m)) ∨
  (∃ m : Nat, bt s i = 123 ∧ rc (s.extract i s.size) = ((m : Int), false) ∧ n = lzEnd s (i + m) ∧ p = ⟨#[]⟩)

/-- A count at s[i]: where it ends. -/
theorem rc_at {s : ByteArray} {i m : Nat} {b : Bool} (hi : i ≤ s.size) (h : rc (s.extract i s.size) = ((m : Int), b)) : 3 ≤ m ∧ i + m ≤ s.size ∧ bt s (i + m - 1) = 125 := by
  have hz := size_ext s i s.size hi (Nat.le_refl _)
  rcases rc_cases (s.extract i s.size) with hc | ⟨n, hn, h3, hs, hb⟩
  · rw [h] at hc; injection hc with x y; omega
  · obtain rfl : m = n := by rw [h] at hn; simp at hn; omega
    rw [hz] at hs
    rw [bt_ext _ _ _ _ (by omega)] at hb
    exact ⟨h3, by omega, by rw [show i + m - 1 = i + (m - 1) from by omega]; exact hb⟩

/-- The same count is read off the cut that ends behind it, or later. -/
theorem rc_again {s : ByteArray} {i m e : Nat} {b : Bool} (hi : i ≤ s.size) (h : rc (s.extract i s.size) = ((m : Int), b)) (he : i + m ≤ e) (hes : e ≤ s.size) : rc (s.extract i e) = ((m : Int), b) := by
  have hz := size_ext s i s.size hi (Nat.le_refl _)
  have hz' := size_ext s i e (by omega) hes
  obtain ⟨h3, hm, _⟩ := rc_at hi h
  refine (rc_agree (t := s.extract i s.size) (n := m) (by rw [h]) (by omega) (by omega) (fun j hj => ?_)).trans h
  rw [bt_ext _ _ _ _ (by omega), bt_ext _ _ _ _ (by omega)]

end Go.Proofs.Qxb6000037a.Pl
