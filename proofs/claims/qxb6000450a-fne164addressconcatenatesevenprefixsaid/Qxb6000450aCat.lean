/-
  SEAT b6000450a: the plain side of the address of a concatenation whose head has an even length.
-/
import Derived.Test.Qxb6000450aPlain
namespace Go.Proofs.Qxb6000450a.Pl

theorem bt_app1 (t u : ByteArray) (j : Nat) (h : j < t.size) : bt (t ++ u) j = bt t j := by
  unfold bt
  have h' : j < t.data.toList.length := by simpa using h
  have e : (t ++ u).data.toList = t.data.toList ++ u.data.toList := by simp
  rw [e, List.getElem?_append_left h']

theorem bt_app2 (t u : ByteArray) (j : Nat) : bt (t ++ u) (t.size + j) = bt u j := by
  unfold bt
  have e : (t ++ u).data.toList = t.data.toList ++ u.data.toList := by simp
  have hl : t.data.toList.length = t.size := by simp
  rw [e, List.getElem?_append_right (by omega), hl, Nat.add_sub_cancel_left]

theorem size_app (t u : ByteArray) : (t ++ u).size = t.size + u.size := by simp

theorem oct_head {t u : ByteArray} {k j : Nat} (hk : t.size = 2 * k) (hj : j < k) : oct (t ++ u) j = oct t j := by
  unfold oct
  rw [size_app, if_pos (by omega), if_pos (by omega), bt_app1 _ _ _ (by omega), bt_app1 _ _ _ (by omega)]

theorem oct_tail {t u : ByteArray} {k : Nat} (hk : t.size = 2 * k) (j : Nat) : oct (t ++ u) (k + j) = oct u j := by
  unfold oct
  rw [size_app, show 2 * (k + j) + 1 = t.size + (2 * j + 1) from by omega, show 2 * (k + j) = t.size + 2 * j from by omega, bt_app2, bt_app2]
  by_cases h : 2 * j + 1 < u.size
  · rw [if_pos (by omega), if_pos h]
  · rw [if_neg (by omega), if_neg h]

theorem sch_app {t u : ByteArray} {k : Nat} (hk : t.size = 2 * k) : sch (t ++ u).size = sch u.size := by
  unfold sch
  rw [size_app, show (t.size + u.size) % 2 = u.size % 2 from by omega]

theorem hd_app {t u : ByteArray} {k : Nat} (hk : t.size = 2 * k) (q : Int) : hd q (t ++ u).size = hd q u.size := by
  unfold hd; rw [sch_app hk]

/-- The address as a function of the index. -/
def adAt (s : ByteArray) (q : Int) (j : Nat) : Int := if j < 5 then (hd q s.size).getD j 0 else oct s (j - 5)

theorem ad_get (s : ByteArray) (q : Int) (j : Nat) (h : j < 5 + (s.size + 1) / 2) : (ad s q)[j]? = some (adAt s q j) := by
  unfold ad adAt
  by_cases hj : j < 5
  · rw [List.getElem?_append_left (by unfold hd; simpa using hj), if_pos hj]
    rw [List.getElem?_eq_getElem (by unfold hd; simpa using hj), List.getD_eq_getElem?_getD, List.getElem?_eq_getElem (by unfold hd; simpa using hj)]
    rfl
  · rw [List.getElem?_append_right (by unfold hd; simp; omega), if_neg hj]
    unfold octs
    rw [List.getElem?_map, List.getElem?_range (by unfold hd; simp; omega)]
    unfold hd
    simp

end Go.Proofs.Qxb6000450a.Pl
