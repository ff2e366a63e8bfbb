/-
  SEAT b6000450a: the plain side of 'decodeE164' over an address of digits.
-/
import Derived.Test.Qxb6000450aPlain
namespace Go.Proofs.Qxb6000450a.Pl

/-- The first k bytes of s, as numbers. -/
def sb (s : ByteArray) (k : Nat) : List Int := (List.range k).map (fun i => (bt s i : Int))

theorem sb_succ (s : ByteArray) (k : Nat) : sb s (k + 1) = sb s k ++ [(bt s k : Int)] := by
  unfold sb; rw [List.range_succ]; simp

theorem sb_length (s : ByteArray) (k : Nat) : (sb s k).length = k := by unfold sb; simp

theorem sb_get (s : ByteArray) (k j : Nat) (h : j < k) : (sb s k)[j]? = some (bt s j : Int) := by
  unfold sb; rw [List.getElem?_map, List.getElem?_range h]; rfl

/-- Behind k rounds of the decoder. -/
def dgs (s : ByteArray) (k : Nat) : List Int := sb s (min (2 * k) s.size)

theorem dgs_length (s : ByteArray) (k : Nat) : (dgs s k).length ≤ 2 * k := by unfold dgs; rw [sb_length]; omega
theorem dgs_two {s : ByteArray} {k : Nat} (h : 2 * k + 1 < s.size) : dgs s (k + 1) = (dgs s k ++ [(bt s (2 * k) : Int)]) ++ [(bt s (2 * k + 1) : Int)] := by
  unfold dgs
  rw [show min (2 * (k + 1)) s.size = 2 * k + 1 + 1 from by omega, show min (2 * k) s.size = 2 * k from by omega, sb_succ, sb_succ]
theorem dgs_one {s : ByteArray} {k : Nat} (h : 2 * k + 1 = s.size) : dgs s (k + 1) = dgs s k ++ [(bt s (2 * k) : Int)] := by
  unfold dgs
  rw [show min (2 * (k + 1)) s.size = 2 * k + 1 from by omega, show min (2 * k) s.size = 2 * k from by omega, sb_succ]
theorem dgs_zero (s : ByteArray) : dgs s 0 = [] := by
  unfold dgs; rw [show min (2 * 0) s.size = 0 from by omega]; rfl
theorem dgs_all {s : ByteArray} {m : Nat} (h : s.size ≤ 2 * m) : dgs s m = sb s s.size := by
  unfold dgs; rw [show min (2 * m) s.size = s.size from by omega]

theorem or_fin : ∀ a b : Fin 10, bits BinOp.or IntKind.u8 (a.val : Int) ((b.val : Int) * 16 % 256) = (a.val : Int) + 16 * (b.val : Int) := by decide +kernel
theorem and_fin : ∀ a b : Fin 10, bits BinOp.and IntKind.u8 ((a.val : Int) + 16 * (b.val : Int)) 15 = (a.val : Int) := by decide +kernel

theorem or_dig {a b : Nat} (ha : a ≤ 9) (hb : b ≤ 9) : bits BinOp.or IntKind.u8 (a : Int) ((b : Int) * 16 % 256) = (a : Int) + 16 * (b : Int) := or_fin ⟨a, by omega⟩ ⟨b, by omega⟩
theorem and_dig {a b : Nat} (ha : a ≤ 9) (hb : b ≤ 9) : bits BinOp.and IntKind.u8 ((a : Int) + 16 * (b : Int)) 15 = (a : Int) := and_fin ⟨a, by omega⟩ ⟨b, by omega⟩

/-- The octet of two digits, or of one. -/
theorem oct_two {s : ByteArray} {k : Nat} (h : 2 * k + 1 < s.size) (hd : ∀ j, j < s.size → 48 ≤ bt s j ∧ bt s j ≤ 57) :
    ∃ a b : Nat, a ≤ 9 ∧ b ≤ 9 ∧ 48 + a = bt s (2 * k) ∧ 48 + b = bt s (2 * k + 1) ∧ oct s k = (a : Int) + 16 * (b : Int) := by
  obtain ⟨h1, h2⟩ := hd (2 * k) (by omega)
  obtain ⟨h3, h4⟩ := hd (2 * k + 1) h
  refine ⟨bt s (2 * k) - 48, bt s (2 * k + 1) - 48, by omega, by omega, by omega, by omega, ?_⟩
  rw [← or_dig (by omega) (by omega)]
  unfold oct o2
  rw [if_pos h, show (((bt s (2 * k) : Nat) : Int) - 48) % 256 = ((bt s (2 * k) - 48 : Nat) : Int) from by omega, show (((bt s (2 * k + 1) : Nat) : Int) - 48) % 256 = ((bt s (2 * k + 1) - 48 : Nat) : Int) from by omega]

theorem oct_one {s : ByteArray} {k : Nat} (h : 2 * k + 1 = s.size) (hd : ∀ j, j < s.size → 48 ≤ bt s j ∧ bt s j ≤ 57) :
    ∃ a : Nat, a ≤ 9 ∧ 48 + a = bt s (2 * k) ∧ oct s k = (a : Int) := by
  obtain ⟨h1, h2⟩ := hd (2 * k) (by omega)
  refine ⟨bt s (2 * k) - 48, by omega, by omega, ?_⟩
  unfold oct o1
  rw [if_neg (by omega)]
  omega

end Go.Proofs.Qxb6000450a.Pl
