/-
  SEAT b6000037a: bytes of a cut and of a sum of two strings; no Go in sight.
-/
import Derived.Test.Qxb6000037aPlain
namespace Go.Proofs.Qxb6000037a.Pl
theorem size_ext (t : ByteArray) (a b : Nat) (h : a ≤ b) (hb : b ≤ t.size) : (t.extract a b).size = b - a := by
  rw [ByteArray.size_extract]; omega
theorem data_ext (t : ByteArray) (a b : Nat) : (t.extract a b).data.toList = (t.data.toList.drop a).take (b - a) := by
  simp [ByteArray.data_extract]
theorem bt_ext (t : ByteArray) (a b j : Nat) (h : j < b - a) : bt (t.extract a b) j = bt t (a + j) := by
  unfold bt
  rw [data_ext, List.getElem?_take_of_lt h, List.getElem?_drop]
theorem bt_app (t u : ByteArray) (j : Nat) (h : j < t.size) : bt (t ++ u) j = bt t j := by
  unfold bt
  have h' : j < t.data.toList.length := by simpa using h
  have e : (t ++ u).data.toList = t.data.toList ++ u.data.toList := by simp
  rw [e, List.getElem?_append_left h']
theorem size_app (t u : ByteArray) : (t ++ u).size = t.size + u.size := by simp
end Go.Proofs.Qxb6000037a.Pl
