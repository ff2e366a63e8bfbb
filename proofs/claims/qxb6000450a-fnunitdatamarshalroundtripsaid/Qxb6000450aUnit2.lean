/-
  SEAT b6000450a: the walk of the law 'FnUnitdataMarshalRoundTrip' (4), the main ways.
-/
import Derived.Test.Qxb6000450aUnit
namespace Go.Proofs.Qxb6000450a.fnUnitdataMarshalRoundTrip
open Go.RowKit
open Pl

set_option maxHeartbeats 4000000 in
set_option maxRecDepth 100000 in
theorem good_plain (cl : Int) (ro : Bool) (hp : Int) (a2 a3 a4 a5 : Option Addr) (n2 n3 n4 n5 c2 c3 c4 c5 : Nat) (L2 L3 L4 L5 : List Int) (w : World)
    (e2 : Hid (L2.length = n2)) (e3 : Hid (L3.length = n3)) (e4 : Hid (L4.length = n4)) (e5 : Hid (L5.length = n5))
    (i2 : Hid (In w a2 L2 c2)) (i3 : Hid (In w a3 L3 c3)) (i4 : Hid (In w a4 L4 c4)) (i5 : Hid (In w a5 L5 c5))
    (b2 : 3 + n2 + n3 ≤ 255) (b4 : n4 ≤ 255) (b5 : n5 ≤ 65536)  (hc0 : 0 ≤ cl) (hc1 : cl < 128) :
    Calls Try.prog 4 #[.bool false, .int .u8 cl, .bool ro, .int .u8 hp, .slice a2 n2 c2, .slice a3 n3 c3, .slice a4 n4 c4, .slice a5 n5 c5] w fun e w' => e = .returned (.bool true) ∧ Below w.heap.size w w' := by
  have hz : n2 + n3 + n4 + n5 ≤ 1048576 := by omega
  obtain ⟨o1, o2, o3⟩ := oc_facts ro hc0 hc1
  go_enter Try.func4, Try.ntmps4
  go_wp2_with fail
  refine (zz_yes _ _ _ _ _ _ _ _ _ _ _ _ _ _ _ _ _ hz).mono ?_
  rintro e w' ⟨rfl, rfl⟩
  go_wp2_with fail
  refine (clone_calls a2 n2 c2 L2 _ e2.out (by omega) i2.out).mono ?_
  rintro e u2 ⟨A2, k2, rfl, R22, Q2⟩
  have T2 : Hid (Below w.heap.size w u2) := Q2
  have R22' : Hid (Rd u2 A2 L2 k2) := R22
  clear R22 Q2
  have R22 := R22'
  clear R22'
  go_wp2_with fail
  refine (clone_calls a3 n3 c3 L3 _ e3.out (by omega) (in_below i3.out T2.out (Nat.le_refl _))).mono ?_
  rintro e u3 ⟨A3, k3, rfl, R33, Q3⟩
  have T3 : Hid (Below w.heap.size w u3) := T2.out.trans (Q3.mono T2.out.size)
  have R23 : Hid (Rd u3 A2 L2 k2) := rd_below R22.out Q3 (Nat.le_refl _)
  have R33' : Hid (Rd u3 A3 L3 k3) := R33
  clear R33 Q3
  have R33 := R33'
  clear R33'
  clear R22
  clear T2
  go_wp2_with fail
  refine (clone_calls a4 n4 c4 L4 _ e4.out (by omega) (in_below i4.out T3.out (Nat.le_refl _))).mono ?_
  rintro e u4 ⟨A4, k4, rfl, R44, Q4⟩
  have T4 : Hid (Below w.heap.size w u4) := T3.out.trans (Q4.mono T3.out.size)
  have R24 : Hid (Rd u4 A2 L2 k2) := rd_below R23.out Q4 (Nat.le_refl _)
  have R34 : Hid (Rd u4 A3 L3 k3) := rd_below R33.out Q4 (Nat.le_refl _)
  have R44' : Hid (Rd u4 A4 L4 k4) := R44
  clear R44 Q4
  have R44 := R44'
  clear R44'
  clear R23
  clear R33
  clear T3
  go_wp2_with fail
  refine (clone_calls a5 n5 c5 L5 _ e5.out (by omega) (in_below i5.out T4.out (Nat.le_refl _))).mono ?_
  rintro e u5 ⟨A5, k5, rfl, R55, Q5⟩
  have T5 : Hid (Below w.heap.size w u5) := T4.out.trans (Q5.mono T4.out.size)
  have R25 : Hid (Rd u5 A2 L2 k2) := rd_below R24.out Q5 (Nat.le_refl _)
  have R35 : Hid (Rd u5 A3 L3 k3) := rd_below R34.out Q5 (Nat.le_refl _)
  have R45 : Hid (Rd u5 A4 L4 k4) := rd_below R44.out Q5 (Nat.le_refl _)
  have R55' : Hid (Rd u5 A5 L5 k5) := R55
  clear R55 Q5
  have R55 := R55'
  clear R55'
  clear R24
  clear R34
  clear R44
  clear T4
  clear i2 i3 i4 i5
  go_wp2_with fail
  refine (ump ro cl hp A2 A3 A4 A5 n2 n3 n4 n5 k2 k3 k4 k5 L2 L3 L4 L5 u5 e2.out e3.out e4.out e5.out b2 b4 b5 R25.out R35.out R45.out R55.out).mono ?_
  rintro e W ⟨v, rfl, hown, hB, q2, q3, q4, q5⟩
  obtain ⟨N, hN⟩ : ∃ N, (msg [9, Oc cl ro] 3 (pk L2 L3 L4) L5).length = N := ⟨_, rfl⟩
  obtain ⟨hN1, hN2⟩ := msg_len (n := 3) (H := [9, Oc cl ro]) rfl e2.out e3.out e4.out e5.out hN
  have hN3 : 2 + 3 ≤ N := hN1
  have hN4 : N ≤ 2 + 3 + 3 + n2 + n3 + n4 + n5 := hN2
  clear hN1 hN2
  obtain ⟨g, cap, hv, hcap, hbg, hgl⟩ := own_form hown hN (by omega)
  subst hv
  have O1 : Hid (Own W 0 (.slice (some ⟨g, 0, none⟩) N cap) (msg [9, Oc cl ro] 3 (pk L2 L3 L4) L5)) := hown
  have TW : Hid (Below w.heap.size w W) := T5.out.trans (hB.mono T5.out.size)
  have Z2 : Hid (Rdz W A2 L2) := rd_z q2
  have Z3 : Hid (Rdz W A3 L3) := rd_z q3
  have Z4 : Hid (Rdz W A4 L4) := rd_z q4
  have Z5 : Hid (Rdz W A5 L5) := rd_z q5
  have HN : Hid ((msg [9, Oc cl ro] 3 (pk L2 L3 L4) L5).length = N) := hN
  have z0 : W.cell? ⟨g, 0, none⟩ = some (.int .u8 9) := head_cell (H := [9, Oc cl ro]) (h1 := 2) (by decide) rfl e2.out e3.out e4.out hN (by omega) hown 0 (by decide)
  have z1 : W.cell? ⟨g, 1, none⟩ = some (.int .u8 (Oc cl ro)) := head_cell (H := [9, Oc cl ro]) (h1 := 2) (by decide) rfl e2.out e3.out e4.out hN (by omega) hown 1 (by decide)
  have KD : Hid (Calls Try.prog 12 #[.slice (some ⟨g, 0, none⟩) N cap, .int .i64 2, .bool false] W fun e w' =>
      ∃ (A2 A3 A4 A5 : Option Addr) (k2 k3 k4 k5 m5 : Nat), e = .returned (.tuple #[.bool true, .slice A2 n2 k2, .slice A3 n3 k3, .slice A4 n4 k4, .slice A5 m5 k5]) ∧ Hid (Rdz W A2 L2) ∧ Hid (Rdz W A3 L3) ∧ Hid (Rdz W A4 L4) ∧ Hid (false = true → m5 = n5 ∧ Rdz W A5 L5) ∧ Hid (false = false → m5 = 0) ∧ W = w') :=
    decode_msg false 3 2 n2 n3 n4 n5 0 g cap N [9, Oc cl ro] L2 L3 L4 L5 W W (Or.inr ⟨rfl, rfl⟩) rfl e2.out e3.out e4.out e5.out (by decide) b2 b4 b5 (fun hx => absurd hx (by decide)) hown hN hcap (fun _ => rfl)
  clear hown hB R25 R35 R45 R55 T5 hN hbg hgl q2 q3 q4 q5
  go_wp2_with fail
  refine KD.out.mono ?_
  rintro e u7 ⟨D2, D3, D4, D5, j2, j3, j4, j5, m5, rfl, Y2, Y3, Y4, Y5, Y6, rfl⟩
  clear KD
  go_wp2_with fail
  refine (eq_at W W w w.heap.size D2 A2 n2 _ _ L2 (fun _ => rfl) TW e2.out (by omega) Y2.out Z2.out).mono ?_
  rintro e u8 ⟨rfl, H8, T8⟩
  go_wp2_with fail
  refine (eq_at W u8 w w.heap.size D3 A3 n3 _ _ L3 H8 T8 e3.out (by omega) Y3.out Z3.out).mono ?_
  rintro e u9 ⟨rfl, H9, T9⟩
  clear H8 T8
  go_wp2_with fail
  refine (eq_at W u9 w w.heap.size D4 A4 n4 _ _ L4 H9 T9 e4.out (by omega) Y4.out Z4.out).mono ?_
  rintro e ua ⟨rfl, Ha, Ta⟩
  clear H9 T9
  obtain rfl := Y6.out (by trivial)
  clear Y5 Y6
  go_wp2
  go_ret
  exact ⟨rfl, Ta.out⟩

set_option maxHeartbeats 4000000 in
set_option maxRecDepth 100000 in
theorem good_ext (cl : Int) (ro : Bool) (hp : Int) (a2 a3 a4 a5 : Option Addr) (n2 n3 n4 n5 c2 c3 c4 c5 : Nat) (L2 L3 L4 L5 : List Int) (w : World)
    (e2 : Hid (L2.length = n2)) (e3 : Hid (L3.length = n3)) (e4 : Hid (L4.length = n4)) (e5 : Hid (L5.length = n5))
    (i2 : Hid (In w a2 L2 c2)) (i3 : Hid (In w a3 L3 c3)) (i4 : Hid (In w a4 L4 c4)) (i5 : Hid (In w a5 L5 c5))
    (b2 : 4 + n2 + n3 ≤ 255) (b4 : n4 ≤ 255) (b5 : n5 ≤ 65536) (b6 : 0 < n5 → 4 + n2 + n3 + n4 ≤ 255) (hc0 : 0 ≤ cl) (hc1 : cl < 128) :
    Calls Try.prog 4 #[.bool true, .int .u8 cl, .bool ro, .int .u8 hp, .slice a2 n2 c2, .slice a3 n3 c3, .slice a4 n4 c4, .slice a5 n5 c5] w fun e w' => e = .returned (.bool true) ∧ Below w.heap.size w w' := by
  have hz : n2 + n3 + n4 + n5 ≤ 1048576 := by omega
  obtain ⟨o1, o2, o3⟩ := oc_facts ro hc0 hc1
  by_cases h50 : 0 < n5
  · have b6' := b6 h50
    clear b6
    go_enter Try.func4, Try.ntmps4
    go_wp2_with fail
    refine (zz_yes _ _ _ _ _ _ _ _ _ _ _ _ _ _ _ _ _ hz).mono ?_
    rintro e w' ⟨rfl, rfl⟩
    go_wp2_with fail
    refine (clone_calls a2 n2 c2 L2 _ e2.out (by omega) i2.out).mono ?_
    rintro e u2 ⟨A2, k2, rfl, R22, Q2⟩
    have T2 : Hid (Below w.heap.size w u2) := Q2
    have R22' : Hid (Rd u2 A2 L2 k2) := R22
    clear R22 Q2
    have R22 := R22'
    clear R22'
    go_wp2_with fail
    refine (clone_calls a3 n3 c3 L3 _ e3.out (by omega) (in_below i3.out T2.out (Nat.le_refl _))).mono ?_
    rintro e u3 ⟨A3, k3, rfl, R33, Q3⟩
    have T3 : Hid (Below w.heap.size w u3) := T2.out.trans (Q3.mono T2.out.size)
    have R23 : Hid (Rd u3 A2 L2 k2) := rd_below R22.out Q3 (Nat.le_refl _)
    have R33' : Hid (Rd u3 A3 L3 k3) := R33
    clear R33 Q3
    have R33 := R33'
    clear R33'
    clear R22
    clear T2
    go_wp2_with fail
    refine (clone_calls a4 n4 c4 L4 _ e4.out (by omega) (in_below i4.out T3.out (Nat.le_refl _))).mono ?_
    rintro e u4 ⟨A4, k4, rfl, R44, Q4⟩
    have T4 : Hid (Below w.heap.size w u4) := T3.out.trans (Q4.mono T3.out.size)
    have R24 : Hid (Rd u4 A2 L2 k2) := rd_below R23.out Q4 (Nat.le_refl _)
    have R34 : Hid (Rd u4 A3 L3 k3) := rd_below R33.out Q4 (Nat.le_refl _)
    have R44' : Hid (Rd u4 A4 L4 k4) := R44
    clear R44 Q4
    have R44 := R44'
    clear R44'
    clear R23
    clear R33
    clear T3
    go_wp2_with fail
    refine (clone_calls a5 n5 c5 L5 _ e5.out (by omega) (in_below i5.out T4.out (Nat.le_refl _))).mono ?_
    rintro e u5 ⟨A5, k5, rfl, R55, Q5⟩
    have T5 : Hid (Below w.heap.size w u5) := T4.out.trans (Q5.mono T4.out.size)
    have R25 : Hid (Rd u5 A2 L2 k2) := rd_below R24.out Q5 (Nat.le_refl _)
    have R35 : Hid (Rd u5 A3 L3 k3) := rd_below R34.out Q5 (Nat.le_refl _)
    have R45 : Hid (Rd u5 A4 L4 k4) := rd_below R44.out Q5 (Nat.le_refl _)
    have R55' : Hid (Rd u5 A5 L5 k5) := R55
    clear R55 Q5
    have R55 := R55'
    clear R55'
    clear R24
    clear R34
    clear R44
    clear T4
    clear i2 i3 i4 i5
    go_wp2_with fail
    refine (ume ro cl hp A2 A3 A4 A5 n2 n3 n4 n5 k2 k3 k4 k5 L2 L3 L4 L5 u5 e2.out e3.out e4.out e5.out b2 b4 b5 (fun _ => by omega) R25.out R35.out R45.out R55.out).mono ?_
    rintro e W ⟨v, rfl, hown, hB, q2, q3, q4, q5⟩
    obtain ⟨N, hN⟩ : ∃ N, (msg [17, Oc cl ro, hp] 4 (pk L2 L3 L4) L5).length = N := ⟨_, rfl⟩
    obtain ⟨hN1, hN2⟩ := msg_len (n := 4) (H := [17, Oc cl ro, hp]) rfl e2.out e3.out e4.out e5.out hN
    have hN3 : 3 + 4 ≤ N := hN1
    have hN4 : N ≤ 3 + 4 + 3 + n2 + n3 + n4 + n5 := hN2
    clear hN1 hN2
    obtain ⟨g, cap, hv, hcap, hbg, hgl⟩ := own_form hown hN (by omega)
    subst hv
    have O1 : Hid (Own W 0 (.slice (some ⟨g, 0, none⟩) N cap) (msg [17, Oc cl ro, hp] 4 (pk L2 L3 L4) L5)) := hown
    have TW : Hid (Below w.heap.size w W) := T5.out.trans (hB.mono T5.out.size)
    have Z2 : Hid (Rdz W A2 L2) := rd_z q2
    have Z3 : Hid (Rdz W A3 L3) := rd_z q3
    have Z4 : Hid (Rdz W A4 L4) := rd_z q4
    have Z5 : Hid (Rdz W A5 L5) := rd_z q5
    have HN : Hid ((msg [17, Oc cl ro, hp] 4 (pk L2 L3 L4) L5).length = N) := hN
    have z0 : W.cell? ⟨g, 0, none⟩ = some (.int .u8 17) := head_cell (H := [17, Oc cl ro, hp]) (h1 := 3) (by decide) rfl e2.out e3.out e4.out hN (by omega) hown 0 (by decide)
    have z1 : W.cell? ⟨g, 1, none⟩ = some (.int .u8 (Oc cl ro)) := head_cell (H := [17, Oc cl ro, hp]) (h1 := 3) (by decide) rfl e2.out e3.out e4.out hN (by omega) hown 1 (by decide)
    have z2 : W.cell? ⟨g, 2, none⟩ = some (.int .u8 hp) := head_cell (H := [17, Oc cl ro, hp]) (h1 := 3) (by decide) rfl e2.out e3.out e4.out hN (by omega) hown 2 (by decide)
    have KD : Hid (Calls Try.prog 12 #[.slice (some ⟨g, 0, none⟩) N cap, .int .i64 3, .bool true] W fun e w' =>
        ∃ (A2 A3 A4 A5 : Option Addr) (k2 k3 k4 k5 m5 : Nat), e = .returned (.tuple #[.bool true, .slice A2 n2 k2, .slice A3 n3 k3, .slice A4 n4 k4, .slice A5 m5 k5]) ∧ Hid (Rdz W A2 L2) ∧ Hid (Rdz W A3 L3) ∧ Hid (Rdz W A4 L4) ∧ Hid (true = true → m5 = n5 ∧ Rdz W A5 L5) ∧ Hid (true = false → m5 = 0) ∧ W = w') :=
      decode_msg true 4 3 n2 n3 n4 n5 0 g cap N [17, Oc cl ro, hp] L2 L3 L4 L5 W W (Or.inl ⟨rfl, rfl⟩) rfl e2.out e3.out e4.out e5.out (by decide) b2 b4 b5 (fun _ _ => by omega) hown hN hcap (fun _ => rfl)
    clear hown hB R25 R35 R45 R55 T5 hN hbg hgl q2 q3 q4 q5
    go_wp2_with fail
    refine KD.out.mono ?_
    rintro e u7 ⟨D2, D3, D4, D5, j2, j3, j4, j5, m5, rfl, Y2, Y3, Y4, Y5, Y6, rfl⟩
    clear KD
    go_wp2_with fail
    refine (eq_at W W w w.heap.size D2 A2 n2 _ _ L2 (fun _ => rfl) TW e2.out (by omega) Y2.out Z2.out).mono ?_
    rintro e u8 ⟨rfl, H8, T8⟩
    go_wp2_with fail
    refine (eq_at W u8 w w.heap.size D3 A3 n3 _ _ L3 H8 T8 e3.out (by omega) Y3.out Z3.out).mono ?_
    rintro e u9 ⟨rfl, H9, T9⟩
    clear H8 T8
    go_wp2_with fail
    refine (eq_at W u9 w w.heap.size D4 A4 n4 _ _ L4 H9 T9 e4.out (by omega) Y4.out Z4.out).mono ?_
    rintro e ua ⟨rfl, Ha, Ta⟩
    clear H9 T9
    obtain ⟨hm5, Y7⟩ := Y5.out (by trivial)
    subst hm5
    have Y7' : Hid (Rdz W D5 L5) := Y7
    clear Y7 Y5 Y6
    go_wp2_with fail
    refine (eq_at W ua w w.heap.size D5 A5 _ _ _ L5 Ha Ta e5.out (by omega) Y7'.out Z5.out).mono ?_
    rintro e ub ⟨rfl, Hb, Tb⟩
    go_wp2
    go_ret
    exact ⟨rfl, Tb.out⟩
  · clear b6
    go_enter Try.func4, Try.ntmps4
    go_wp2_with fail
    refine (zz_yes _ _ _ _ _ _ _ _ _ _ _ _ _ _ _ _ _ hz).mono ?_
    rintro e w' ⟨rfl, rfl⟩
    go_wp2_with fail
    refine (clone_calls a2 n2 c2 L2 _ e2.out (by omega) i2.out).mono ?_
    rintro e u2 ⟨A2, k2, rfl, R22, Q2⟩
    have T2 : Hid (Below w.heap.size w u2) := Q2
    have R22' : Hid (Rd u2 A2 L2 k2) := R22
    clear R22 Q2
    have R22 := R22'
    clear R22'
    go_wp2_with fail
    refine (clone_calls a3 n3 c3 L3 _ e3.out (by omega) (in_below i3.out T2.out (Nat.le_refl _))).mono ?_
    rintro e u3 ⟨A3, k3, rfl, R33, Q3⟩
    have T3 : Hid (Below w.heap.size w u3) := T2.out.trans (Q3.mono T2.out.size)
    have R23 : Hid (Rd u3 A2 L2 k2) := rd_below R22.out Q3 (Nat.le_refl _)
    have R33' : Hid (Rd u3 A3 L3 k3) := R33
    clear R33 Q3
    have R33 := R33'
    clear R33'
    clear R22
    clear T2
    go_wp2_with fail
    refine (clone_calls a4 n4 c4 L4 _ e4.out (by omega) (in_below i4.out T3.out (Nat.le_refl _))).mono ?_
    rintro e u4 ⟨A4, k4, rfl, R44, Q4⟩
    have T4 : Hid (Below w.heap.size w u4) := T3.out.trans (Q4.mono T3.out.size)
    have R24 : Hid (Rd u4 A2 L2 k2) := rd_below R23.out Q4 (Nat.le_refl _)
    have R34 : Hid (Rd u4 A3 L3 k3) := rd_below R33.out Q4 (Nat.le_refl _)
    have R44' : Hid (Rd u4 A4 L4 k4) := R44
    clear R44 Q4
    have R44 := R44'
    clear R44'
    clear R23
    clear R33
    clear T3
    go_wp2_with fail
    refine (clone_calls a5 n5 c5 L5 _ e5.out (by omega) (in_below i5.out T4.out (Nat.le_refl _))).mono ?_
    rintro e u5 ⟨A5, k5, rfl, R55, Q5⟩
    have T5 : Hid (Below w.heap.size w u5) := T4.out.trans (Q5.mono T4.out.size)
    have R25 : Hid (Rd u5 A2 L2 k2) := rd_below R24.out Q5 (Nat.le_refl _)
    have R35 : Hid (Rd u5 A3 L3 k3) := rd_below R34.out Q5 (Nat.le_refl _)
    have R45 : Hid (Rd u5 A4 L4 k4) := rd_below R44.out Q5 (Nat.le_refl _)
    have R55' : Hid (Rd u5 A5 L5 k5) := R55
    clear R55 Q5
    have R55 := R55'
    clear R55'
    clear R24
    clear R34
    clear R44
    clear T4
    clear i2 i3 i4 i5
    go_wp2_with fail
    refine (ume ro cl hp A2 A3 A4 A5 n2 n3 n4 n5 k2 k3 k4 k5 L2 L3 L4 L5 u5 e2.out e3.out e4.out e5.out b2 b4 b5 (fun _ => by omega) R25.out R35.out R45.out R55.out).mono ?_
    rintro e W ⟨v, rfl, hown, hB, q2, q3, q4, q5⟩
    obtain ⟨N, hN⟩ : ∃ N, (msg [17, Oc cl ro, hp] 4 (pk L2 L3 L4) L5).length = N := ⟨_, rfl⟩
    obtain ⟨hN1, hN2⟩ := msg_len (n := 4) (H := [17, Oc cl ro, hp]) rfl e2.out e3.out e4.out e5.out hN
    have hN3 : 3 + 4 ≤ N := hN1
    have hN4 : N ≤ 3 + 4 + 3 + n2 + n3 + n4 + n5 := hN2
    clear hN1 hN2
    obtain ⟨g, cap, hv, hcap, hbg, hgl⟩ := own_form hown hN (by omega)
    subst hv
    have O1 : Hid (Own W 0 (.slice (some ⟨g, 0, none⟩) N cap) (msg [17, Oc cl ro, hp] 4 (pk L2 L3 L4) L5)) := hown
    have TW : Hid (Below w.heap.size w W) := T5.out.trans (hB.mono T5.out.size)
    have Z2 : Hid (Rdz W A2 L2) := rd_z q2
    have Z3 : Hid (Rdz W A3 L3) := rd_z q3
    have Z4 : Hid (Rdz W A4 L4) := rd_z q4
    have Z5 : Hid (Rdz W A5 L5) := rd_z q5
    have HN : Hid ((msg [17, Oc cl ro, hp] 4 (pk L2 L3 L4) L5).length = N) := hN
    have z0 : W.cell? ⟨g, 0, none⟩ = some (.int .u8 17) := head_cell (H := [17, Oc cl ro, hp]) (h1 := 3) (by decide) rfl e2.out e3.out e4.out hN (by omega) hown 0 (by decide)
    have z1 : W.cell? ⟨g, 1, none⟩ = some (.int .u8 (Oc cl ro)) := head_cell (H := [17, Oc cl ro, hp]) (h1 := 3) (by decide) rfl e2.out e3.out e4.out hN (by omega) hown 1 (by decide)
    have z2 : W.cell? ⟨g, 2, none⟩ = some (.int .u8 hp) := head_cell (H := [17, Oc cl ro, hp]) (h1 := 3) (by decide) rfl e2.out e3.out e4.out hN (by omega) hown 2 (by decide)
    have KD : Hid (Calls Try.prog 12 #[.slice (some ⟨g, 0, none⟩) N cap, .int .i64 3, .bool true] W fun e w' =>
        ∃ (A2 A3 A4 A5 : Option Addr) (k2 k3 k4 k5 m5 : Nat), e = .returned (.tuple #[.bool true, .slice A2 n2 k2, .slice A3 n3 k3, .slice A4 n4 k4, .slice A5 m5 k5]) ∧ Hid (Rdz W A2 L2) ∧ Hid (Rdz W A3 L3) ∧ Hid (Rdz W A4 L4) ∧ Hid (true = true → m5 = n5 ∧ Rdz W A5 L5) ∧ Hid (true = false → m5 = 0) ∧ W = w') :=
      decode_msg true 4 3 n2 n3 n4 n5 0 g cap N [17, Oc cl ro, hp] L2 L3 L4 L5 W W (Or.inl ⟨rfl, rfl⟩) rfl e2.out e3.out e4.out e5.out (by decide) b2 b4 b5 (fun _ _ => by omega) hown hN hcap (fun _ => rfl)
    clear hown hB R25 R35 R45 R55 T5 hN hbg hgl q2 q3 q4 q5
    go_wp2_with fail
    refine KD.out.mono ?_
    rintro e u7 ⟨D2, D3, D4, D5, j2, j3, j4, j5, m5, rfl, Y2, Y3, Y4, Y5, Y6, rfl⟩
    clear KD
    go_wp2_with fail
    refine (eq_at W W w w.heap.size D2 A2 n2 _ _ L2 (fun _ => rfl) TW e2.out (by omega) Y2.out Z2.out).mono ?_
    rintro e u8 ⟨rfl, H8, T8⟩
    go_wp2_with fail
    refine (eq_at W u8 w w.heap.size D3 A3 n3 _ _ L3 H8 T8 e3.out (by omega) Y3.out Z3.out).mono ?_
    rintro e u9 ⟨rfl, H9, T9⟩
    clear H8 T8
    go_wp2_with fail
    refine (eq_at W u9 w w.heap.size D4 A4 n4 _ _ L4 H9 T9 e4.out (by omega) Y4.out Z4.out).mono ?_
    rintro e ua ⟨rfl, Ha, Ta⟩
    clear H9 T9
    obtain ⟨hm5, Y7⟩ := Y5.out (by trivial)
    subst hm5
    have Y7' : Hid (Rdz W D5 L5) := Y7
    clear Y7 Y5 Y6
    go_wp2_with fail
    refine (eq_at W ua w w.heap.size D5 A5 _ _ _ L5 Ha Ta e5.out (by omega) Y7'.out Z5.out).mono ?_
    rintro e ub ⟨rfl, Hb, Tb⟩
    go_wp2
    go_ret
    exact ⟨rfl, Tb.out⟩

end Go.Proofs.Qxb6000450a.fnUnitdataMarshalRoundTrip
