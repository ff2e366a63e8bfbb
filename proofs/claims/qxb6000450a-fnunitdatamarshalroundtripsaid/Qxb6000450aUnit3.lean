/-
  SEAT b6000450a: the walk of the law 'FnUnitdataMarshalRoundTrip' (4), the ways that its own tests let by.
-/
import Derived.Test.Qxb6000450aUnit2
namespace Go.Proofs.Qxb6000450a.fnUnitdataMarshalRoundTrip
open Go.RowKit
open Pl

set_option maxRecDepth 100000 in
theorem over_total (x : Bool) (cl : Int) (ro : Bool) (hp : Int) (a2 a3 a4 a5 : Option Addr) (l2 l3 l4 l5 c2 c3 c4 c5 : Nat) (w : World) (h : 1048576 < l2 + l3 + l4 + l5)
    (m2 : l2 ≤ 9223372036854775807) (m3 : l3 ≤ 9223372036854775807) (m4 : l4 ≤ 9223372036854775807) (m5 : l5 ≤ 9223372036854775807) :
    Calls Try.prog 4 #[.bool x, .int .u8 cl, .bool ro, .int .u8 hp, .slice a2 l2 c2, .slice a3 l3 c3, .slice a4 l4 c4, .slice a5 l5 c5] w fun e w' => e = .returned (.bool true) ∧ Below w.heap.size w w' := by
  go_enter Try.func4, Try.ntmps4
  go_wp2_with fail
  refine (zz_no _ _ _ _ _ _ _ _ _ _ _ _ _ _ _ _ _ h m2 m3 m4 m5).mono ?_
  rintro e w' ⟨rfl, rfl⟩
  go_wp2
  go_ret
  exact ⟨rfl, Below.refl _ _⟩

set_option maxHeartbeats 1000000 in
set_option maxRecDepth 100000 in
theorem over_len (x : Bool) (cl : Int) (ro : Bool) (hp : Int) (a2 a3 a4 a5 : Option Addr) (l2 l3 l4 l5 c2 c3 c4 c5 : Nat) (w : World) (h : l2 + l3 + l4 + l5 ≤ 1048576)
    (hb : 65536 < l2 ∨ 65536 < l3 ∨ 65536 < l4 ∨ 65536 < l5) :
    Calls Try.prog 4 #[.bool x, .int .u8 cl, .bool ro, .int .u8 hp, .slice a2 l2 c2, .slice a3 l3 c3, .slice a4 l4 c4, .slice a5 l5 c5] w fun e w' => e = .returned (.bool true) ∧ Below w.heap.size w w' := by
  go_enter Try.func4, Try.ntmps4
  go_wp2_with fail
  refine (zz_yes _ _ _ _ _ _ _ _ _ _ _ _ _ _ _ _ _ h).mono ?_
  rintro e w' ⟨rfl, rfl⟩
  go_wp2_with fail
  all_goals (first | (exfalso; omega) | (go_ret; exact ⟨rfl, Below.refl _ _⟩))

set_option maxHeartbeats 1000000 in
set_option maxRecDepth 100000 in
theorem over_plain (cl : Int) (ro : Bool) (hp : Int) (a2 a3 a4 a5 : Option Addr) (l2 l3 l4 l5 c2 c3 c4 c5 : Nat) (w : World) (h : l2 + l3 + l4 + l5 ≤ 1048576)
    (g2 : l2 ≤ 65536) (g3 : l3 ≤ 65536) (g4 : l4 ≤ 65536) (g5 : l5 ≤ 65536) (hb : 255 < l4 ∨ 255 < 3 + l2 + l3) :
    Calls Try.prog 4 #[.bool false, .int .u8 cl, .bool ro, .int .u8 hp, .slice a2 l2 c2, .slice a3 l3 c3, .slice a4 l4 c4, .slice a5 l5 c5] w fun e w' => e = .returned (.bool true) ∧ Below w.heap.size w w' := by
  go_enter Try.func4, Try.ntmps4
  go_wp2_with fail
  refine (zz_yes _ _ _ _ _ _ _ _ _ _ _ _ _ _ _ _ _ h).mono ?_
  rintro e w' ⟨rfl, rfl⟩
  go_wp2_with fail
  all_goals (first | (exfalso; omega) | (go_ret; exact ⟨rfl, Below.refl _ _⟩))

set_option maxHeartbeats 1000000 in
set_option maxRecDepth 100000 in
theorem over_ext (cl : Int) (ro : Bool) (hp : Int) (a2 a3 a4 a5 : Option Addr) (l2 l3 l4 l5 c2 c3 c4 c5 : Nat) (w : World) (h : l2 + l3 + l4 + l5 ≤ 1048576)
    (g2 : l2 ≤ 65536) (g3 : l3 ≤ 65536) (g4 : l4 ≤ 65536) (g5 : l5 ≤ 65536) (hb : 255 < l4 ∨ 255 < 4 + l2 + l3 ∨ (0 < l5 ∧ 255 < 4 + l2 + l3 + l4)) :
    Calls Try.prog 4 #[.bool true, .int .u8 cl, .bool ro, .int .u8 hp, .slice a2 l2 c2, .slice a3 l3 c3, .slice a4 l4 c4, .slice a5 l5 c5] w fun e w' => e = .returned (.bool true) ∧ Below w.heap.size w w' := by
  go_enter Try.func4, Try.ntmps4
  go_wp2_with fail
  refine (zz_yes _ _ _ _ _ _ _ _ _ _ _ _ _ _ _ _ _ h).mono ?_
  rintro e w' ⟨rfl, rfl⟩
  go_wp2_with fail
  all_goals (first | (exfalso; omega) | (go_ret; exact ⟨rfl, Below.refl _ _⟩))

set_option maxHeartbeats 1000000 in
set_option maxRecDepth 100000 in
theorem over_cl (x : Bool) (cl : Int) (ro : Bool) (hp : Int) (a2 a3 a4 a5 : Option Addr) (l2 l3 l4 l5 c2 c3 c4 c5 : Nat) (w : World) (h : l2 + l3 + l4 + l5 ≤ 1048576)
    (g2 : l2 ≤ 65536) (g3 : l3 ≤ 65536) (g4 : l4 ≤ 65536) (g5 : l5 ≤ 65536) (hc : (bits BinOp.and IntKind.u8 cl 128 != 0) = true) :
    Calls Try.prog 4 #[.bool x, .int .u8 cl, .bool ro, .int .u8 hp, .slice a2 l2 c2, .slice a3 l3 c3, .slice a4 l4 c4, .slice a5 l5 c5] w fun e w' => e = .returned (.bool true) ∧ Below w.heap.size w w' := by
  cases x
  all_goals
    go_enter Try.func4, Try.ntmps4
    go_wp2_with fail
    refine (zz_yes _ _ _ _ _ _ _ _ _ _ _ _ _ _ _ _ _ h).mono ?_
    rintro e w' ⟨rfl, rfl⟩
    go_wp2_with fail
    all_goals (go_ret; exact ⟨rfl, Below.refl _ _⟩)

theorem walk_in (x : Bool) (cl : Int) (ro : Bool) (hp : Int) (a2 a3 a4 a5 : Option Addr) (n2 n3 n4 n5 c2 c3 c4 c5 : Nat) (L2 L3 L4 L5 : List Int) (w : World) (hc0 : 0 ≤ cl) (hc1 : cl ≤ 255)
    (e2 : L2.length = n2) (e3 : L3.length = n3) (e4 : L4.length = n4) (e5 : L5.length = n5)
    (i2 : In w a2 L2 c2) (i3 : In w a3 L3 c3) (i4 : In w a4 L4 c4) (i5 : In w a5 L5 c5)
    (m2 : n2 ≤ maxLen) (m3 : n3 ≤ maxLen) (m4 : n4 ≤ maxLen) (m5 : n5 ≤ maxLen) :
    Calls Try.prog 4 #[.bool x, .int .u8 cl, .bool ro, .int .u8 hp, .slice a2 n2 c2, .slice a3 n3 c3, .slice a4 n4 c4, .slice a5 n5 c5] w fun e w' => e = .returned (.bool true) ∧ Below w.heap.size w w' := by
  unfold maxLen at m2 m3 m4 m5
  by_cases ht : 1048576 < n2 + n3 + n4 + n5
  · exact over_total x cl ro hp a2 a3 a4 a5 n2 n3 n4 n5 c2 c3 c4 c5 w ht (by omega) (by omega) (by omega) (by omega)
  · by_cases hl : 65536 < n2 ∨ 65536 < n3 ∨ 65536 < n4 ∨ 65536 < n5
    · exact over_len x cl ro hp a2 a3 a4 a5 n2 n3 n4 n5 c2 c3 c4 c5 w (by omega) hl
    · by_cases hc : cl < 128
      · cases x
        · by_cases hb : 255 < n4 ∨ 255 < 3 + n2 + n3
          · exact over_plain cl ro hp a2 a3 a4 a5 n2 n3 n4 n5 c2 c3 c4 c5 w (by omega) (by omega) (by omega) (by omega) (by omega) hb
          · exact good_plain cl ro hp a2 a3 a4 a5 n2 n3 n4 n5 c2 c3 c4 c5 L2 L3 L4 L5 w e2 e3 e4 e5 i2 i3 i4 i5 (by omega) (by omega) (by omega) hc0 hc
        · by_cases hb : 255 < n4 ∨ 255 < 4 + n2 + n3 ∨ (0 < n5 ∧ 255 < 4 + n2 + n3 + n4)
          · exact over_ext cl ro hp a2 a3 a4 a5 n2 n3 n4 n5 c2 c3 c4 c5 w (by omega) (by omega) (by omega) (by omega) (by omega) hb
          · exact good_ext cl ro hp a2 a3 a4 a5 n2 n3 n4 n5 c2 c3 c4 c5 L2 L3 L4 L5 w e2 e3 e4 e5 i2 i3 i4 i5 (by omega) (by omega) (by omega) (by omega) hc0 hc
      · exact over_cl x cl ro hp a2 a3 a4 a5 n2 n3 n4 n5 c2 c3 c4 c5 w (by omega) (by omega) (by omega) (by omega) (by omega) (high_cl (by omega) hc1)

end Go.Proofs.Qxb6000450a.fnUnitdataMarshalRoundTrip
