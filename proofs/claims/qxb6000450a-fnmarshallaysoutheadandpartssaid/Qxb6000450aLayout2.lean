/-
  SEAT b6000450a: the walk of the law 'FnMarshalLaysOutHeadAndParts' (3), the ways that its own tests let by.
-/
import Derived.Test.Qxb6000450aLayout
namespace Go.Proofs.Qxb6000450a.fnMarshalLaysOutHeadAndParts
open Go.RowKit
open Pl

set_option maxRecDepth 100000 in
theorem over_total (x : Bool) (a1 a2 a3 a4 a5 : Option Addr) (l1 l2 l3 l4 l5 c1 c2 c3 c4 c5 : Nat) (w : World) (h : 1048576 < l1 + l2 + l3 + l4 + l5)
    (m1 : l1 ≤ 9223372036854775807) (m2 : l2 ≤ 9223372036854775807) (m3 : l3 ≤ 9223372036854775807) (m4 : l4 ≤ 9223372036854775807) (m5 : l5 ≤ 9223372036854775807) :
    Calls Try.prog 3 #[.bool x, .slice a1 l1 c1, .slice a2 l2 c2, .slice a3 l3 c3, .slice a4 l4 c4, .slice a5 l5 c5] w fun e w' => e = .returned (.bool true) ∧ Below w.heap.size w w' := by
  go_enter Try.func3, Try.ntmps3
  go_wp2_with fail
  refine (zz_no _ _ _ _ _ _ _ _ _ _ _ _ _ _ _ _ _ h m1 m2 m3 m4 m5).mono ?_
  rintro e w' ⟨rfl, rfl⟩
  go_wp2
  go_ret
  exact ⟨rfl, Below.refl _ _⟩

set_option maxHeartbeats 1000000 in
set_option maxRecDepth 100000 in
theorem over_len (x : Bool) (a1 a2 a3 a4 a5 : Option Addr) (l1 l2 l3 l4 l5 c1 c2 c3 c4 c5 : Nat) (w : World) (h : l1 + l2 + l3 + l4 + l5 ≤ 1048576)
    (hb : 65536 < l1 ∨ 65536 < l2 ∨ 65536 < l3 ∨ 65536 < l4 ∨ 65536 < l5) :
    Calls Try.prog 3 #[.bool x, .slice a1 l1 c1, .slice a2 l2 c2, .slice a3 l3 c3, .slice a4 l4 c4, .slice a5 l5 c5] w fun e w' => e = .returned (.bool true) ∧ Below w.heap.size w w' := by
  go_enter Try.func3, Try.ntmps3
  go_wp2_with fail
  refine (zz_yes _ _ _ _ _ _ _ _ _ _ _ _ _ _ _ _ _ h).mono ?_
  rintro e w' ⟨rfl, rfl⟩
  go_wp2_with fail
  all_goals (first | (exfalso; omega) | (go_ret; exact ⟨rfl, Below.refl _ _⟩))

set_option maxHeartbeats 1000000 in
set_option maxRecDepth 100000 in
theorem over_plain (a1 a2 a3 a4 a5 : Option Addr) (l1 l2 l3 l4 l5 c1 c2 c3 c4 c5 : Nat) (w : World) (h : l1 + l2 + l3 + l4 + l5 ≤ 1048576)
    (g1 : l1 ≤ 65536) (g2 : l2 ≤ 65536) (g3 : l3 ≤ 65536) (g4 : l4 ≤ 65536) (g5 : l5 ≤ 65536) (hb : 255 < l4 ∨ 255 < 3 + l2 + l3) :
    Calls Try.prog 3 #[.bool false, .slice a1 l1 c1, .slice a2 l2 c2, .slice a3 l3 c3, .slice a4 l4 c4, .slice a5 l5 c5] w fun e w' => e = .returned (.bool true) ∧ Below w.heap.size w w' := by
  go_enter Try.func3, Try.ntmps3
  go_wp2_with fail
  refine (zz_yes _ _ _ _ _ _ _ _ _ _ _ _ _ _ _ _ _ h).mono ?_
  rintro e w' ⟨rfl, rfl⟩
  go_wp2_with fail
  all_goals (first | (exfalso; omega) | (go_ret; exact ⟨rfl, Below.refl _ _⟩))

set_option maxHeartbeats 1000000 in
set_option maxRecDepth 100000 in
theorem over_ext (a1 a2 a3 a4 a5 : Option Addr) (l1 l2 l3 l4 l5 c1 c2 c3 c4 c5 : Nat) (w : World) (h : l1 + l2 + l3 + l4 + l5 ≤ 1048576)
    (g1 : l1 ≤ 65536) (g2 : l2 ≤ 65536) (g3 : l3 ≤ 65536) (g4 : l4 ≤ 65536) (g5 : l5 ≤ 65536) (hb : 255 < l4 ∨ 255 < 4 + l2 + l3 ∨ (0 < l5 ∧ 255 < 4 + l2 + l3 + l4)) :
    Calls Try.prog 3 #[.bool true, .slice a1 l1 c1, .slice a2 l2 c2, .slice a3 l3 c3, .slice a4 l4 c4, .slice a5 l5 c5] w fun e w' => e = .returned (.bool true) ∧ Below w.heap.size w w' := by
  go_enter Try.func3, Try.ntmps3
  go_wp2_with fail
  refine (zz_yes _ _ _ _ _ _ _ _ _ _ _ _ _ _ _ _ _ h).mono ?_
  rintro e w' ⟨rfl, rfl⟩
  go_wp2_with fail
  all_goals (first | (exfalso; omega) | (go_ret; exact ⟨rfl, Below.refl _ _⟩))

theorem walk_in (x : Bool) (a1 a2 a3 a4 a5 : Option Addr) (n1 n2 n3 n4 n5 c1 c2 c3 c4 c5 : Nat) (L1 L2 L3 L4 L5 : List Int) (w : World)
    (e1 : L1.length = n1) (e2 : L2.length = n2) (e3 : L3.length = n3) (e4 : L4.length = n4) (e5 : L5.length = n5)
    (i1 : In w a1 L1 c1) (i2 : In w a2 L2 c2) (i3 : In w a3 L3 c3) (i4 : In w a4 L4 c4) (i5 : In w a5 L5 c5)
    (m1 : n1 ≤ maxLen) (m2 : n2 ≤ maxLen) (m3 : n3 ≤ maxLen) (m4 : n4 ≤ maxLen) (m5 : n5 ≤ maxLen) :
    Calls Try.prog 3 #[.bool x, .slice a1 n1 c1, .slice a2 n2 c2, .slice a3 n3 c3, .slice a4 n4 c4, .slice a5 n5 c5] w fun e w' => e = .returned (.bool true) ∧ Below w.heap.size w w' := by
  unfold maxLen at m1 m2 m3 m4 m5
  by_cases ht : 1048576 < n1 + n2 + n3 + n4 + n5
  · exact over_total x a1 a2 a3 a4 a5 n1 n2 n3 n4 n5 c1 c2 c3 c4 c5 w ht (by omega) (by omega) (by omega) (by omega) (by omega)
  · by_cases hl : 65536 < n1 ∨ 65536 < n2 ∨ 65536 < n3 ∨ 65536 < n4 ∨ 65536 < n5
    · exact over_len x a1 a2 a3 a4 a5 n1 n2 n3 n4 n5 c1 c2 c3 c4 c5 w (by omega) hl
    · cases x
      · by_cases hb : 255 < n4 ∨ 255 < 3 + n2 + n3
        · exact over_plain a1 a2 a3 a4 a5 n1 n2 n3 n4 n5 c1 c2 c3 c4 c5 w (by omega) (by omega) (by omega) (by omega) (by omega) (by omega) hb
        · exact good_plain a1 a2 a3 a4 a5 n1 n2 n3 n4 n5 c1 c2 c3 c4 c5 L1 L2 L3 L4 L5 w e1 e2 e3 e4 e5 i1 i2 i3 i4 i5 (by omega) (by omega) (by omega) (by omega)
      · by_cases hb : 255 < n4 ∨ 255 < 4 + n2 + n3 ∨ (0 < n5 ∧ 255 < 4 + n2 + n3 + n4)
        · exact over_ext a1 a2 a3 a4 a5 n1 n2 n3 n4 n5 c1 c2 c3 c4 c5 w (by omega) (by omega) (by omega) (by omega) (by omega) (by omega) hb
        · exact good_ext a1 a2 a3 a4 a5 n1 n2 n3 n4 n5 c1 c2 c3 c4 c5 L1 L2 L3 L4 L5 w e1 e2 e3 e4 e5 i1 i2 i3 i4 i5 (by omega) (by omega) (by omega) (by omega) (by omega)

end Go.Proofs.Qxb6000450a.fnMarshalLaysOutHeadAndParts
