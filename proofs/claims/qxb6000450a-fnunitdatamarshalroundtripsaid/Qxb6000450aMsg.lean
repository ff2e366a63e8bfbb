/-
  SEAT b6000450a: the plain side of 'marshal': the message, round by round.
-/
import Derived.Test.Qxb6000450aPlain
namespace Go.Proofs.Qxb6000450a.Pl

/-- The message behind k rounds of marshal's loop. -/
def MM (H : List Int) (n : Nat) (P : Nat → List Int) : Nat → List Int
  | 0 => H ++ List.replicate n 0
  | k + 1 => ((MM H n P k).set (H.length + k) (((MM H n P k).length : Int) - ((H.length : Int) + (k : Int))) ++ [((P k).length : Int)]) ++ P k

def ML (H : List Int) (n : Nat) (P : Nat → List Int) (k : Nat) : Nat := (MM H n P k).length

theorem ML_zero (H : List Int) (n : Nat) (P : Nat → List Int) : ML H n P 0 = H.length + n := by
  unfold ML MM; simp
theorem ML_succ (H : List Int) (n : Nat) (P : Nat → List Int) (k : Nat) : ML H n P (k + 1) = ML H n P k + 1 + (P k).length := by
  unfold ML; rw [MM]; simp; omega
theorem ML_ge (H : List Int) (n : Nat) (P : Nat → List Int) (k : Nat) : H.length + n ≤ ML H n P k := by
  induction k with
  | zero => rw [ML_zero]; exact Nat.le_refl _
  | succ k ih => rw [ML_succ]; omega

/-- The whole message. -/
def msg (H : List Int) (n : Nat) (P : Nat → List Int) (O : List Int) : List Int :=
  if n = 4 ∧ 0 < O.length then (MM H n P 3).set (H.length + 3) ((ML H n P 3 : Int) - ((H.length : Int) + 3)) ++ O else MM H n P 3

end Go.Proofs.Qxb6000450a.Pl
