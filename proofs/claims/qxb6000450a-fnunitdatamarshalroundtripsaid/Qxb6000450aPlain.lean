/-
  SEAT b6000450a: the plain side: what 'E164Address' lays, as a list of numbers.
-/
import Derived.WalkKit
namespace Go.Proofs.Qxb6000450a.Pl

/-- The byte at i, as a number; 0 beyond the end. -/
def bt (t : ByteArray) (i : Nat) : Nat := (t.data.toList[i]?.getD 0).toNat

theorem bt_eq (t : ByteArray) (i : Nat) (h : i < t.size) : t[i].toNat = bt t i := by
  have h' : i < t.data.toList.length := by simpa using h
  unfold bt
  rw [List.getElem?_eq_getElem h']
  rfl

theorem bt_lt (t : ByteArray) (i : Nat) : bt t i < 256 := by
  unfold bt; exact UInt8.toNat_lt _

/-- A digit's low nibble; and two digits in one octet: as Go's uint8 reckons it. -/
def o1 (a : Nat) : Int := ((a : Int) - 48) % 256
def o2 (a b : Nat) : Int := bits BinOp.or IntKind.u8 (((a : Int) - 48) % 256) (((b : Int) - 48) % 256 * 16 % 256)

/-- The k-th octet of the digits of s. -/
def oct (s : ByteArray) (k : Nat) : Int := if 2 * k + 1 < s.size then o2 (bt s (2 * k)) (bt s (2 * k + 1)) else o1 (bt s (2 * k))

def octs (s : ByteArray) (k : Nat) : List Int := (List.range k).map (oct s)

theorem octs_succ (s : ByteArray) (k : Nat) : octs s (k + 1) = octs s k ++ [oct s k] := by
  unfold octs; rw [List.range_succ]; simp

theorem octs_length (s : ByteArray) (k : Nat) : (octs s k).length = k := by unfold octs; simp

/-- The octet of the numbering plan and the scheme, by the number of digits. -/
def sch (n : Nat) : Int := if n % 2 = 1 then 17 else 18

def hd (q : Int) (n : Nat) : List Int := [18, q, 0, sch n, 4]

/-- What 'E164Address' lays. -/
def ad (s : ByteArray) (q : Int) : List Int := hd q s.size ++ octs s ((s.size + 1) / 2)

theorem ad_length (s : ByteArray) (q : Int) : (ad s q).length = 5 + (s.size + 1) / 2 := by
  unfold ad hd; rw [List.length_append, octs_length]; rfl

end Go.Proofs.Qxb6000450a.Pl
