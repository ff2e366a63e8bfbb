/-
  SEAT b6000450a: the walk of the law 'FnMarshalLaysOutHeadAndParts' (3).
-/
import Derived.Test.Qxb6000450aWalkF
namespace Go.Proofs.Qxb6000450a.fnMarshalLaysOutHeadAndParts
open Go.RowKit
open Pl

theorem zz_yes (x : Bool) (a1 a2 a3 a4 a5 : Option Addr) (l1 l2 l3 l4 l5 c1 c2 c3 c4 c5 : Nat) (w : World) (h : l1 + l2 + l3 + l4 + l5 ≤ 1048576) :
    Calls Try.prog 8 #[.bool x, .slice a1 l1 c1, .slice a2 l2 c2, .slice a3 l3 c3, .slice a4 l4 c4, .slice a5 l5 c5] w fun e w' => e = .returned (.bool true) ∧ w = w' := by
  go_enter Try.func8, Try.ntmps8
  go_wp2
  go_ret
  exact ⟨rfl, rfl⟩

theorem zz_no (x : Bool) (a1 a2 a3 a4 a5 : Option Addr) (l1 l2 l3 l4 l5 c1 c2 c3 c4 c5 : Nat) (w : World) (h : 1048576 < l1 + l2 + l3 + l4 + l5)
    (m1 : l1 ≤ 9223372036854775807) (m2 : l2 ≤ 9223372036854775807) (m3 : l3 ≤ 9223372036854775807) (m4 : l4 ≤ 9223372036854775807) (m5 : l5 ≤ 9223372036854775807) :
    Calls Try.prog 8 #[.bool x, .slice a1 l1 c1, .slice a2 l2 c2, .slice a3 l3 c3, .slice a4 l4 c4, .slice a5 l5 c5] w fun e w' => e = .returned (.bool false) ∧ w = w' := by
  go_enter Try.func8, Try.ntmps8
  go_wp2
  all_goals (go_ret; exact ⟨rfl, rfl⟩)

theorem zzmarshal_calls (ext : Bool) (a1 a2 a3 a4 a5 : Option Addr) (n h1 p2 p3 p4 h5 c1 c2 c3 c4 c5 : Nat) (H C G D O : List Int) (w : World)
    (hext : (ext = true ∧ n = 4) ∨ (ext = false ∧ n = 3)) (l1 : Hid (H.length = h1)) (l2 : Hid (C.length = p2)) (l3 : Hid (G.length = p3)) (l4 : Hid (D.length = p4)) (l5 : Hid (O.length = h5))
    (b1 : h1 ≤ 65536) (b2 : n + p2 + p3 ≤ 255) (b4 : p4 ≤ 255) (b5 : h5 ≤ 65536) (b6 : ext = true → 0 < h5 → n + p2 + p3 + p4 ≤ 255)
    (r1 : Hid (Rd w a1 H c1)) (r2 : Hid (Rd w a2 C c2)) (r3 : Hid (Rd w a3 G c3)) (r4 : Hid (Rd w a4 D c4)) (r5 : Hid (Rd w a5 O c5)) :
    Calls Try.prog 10 #[.bool ext, .slice a1 h1 c1, .slice a2 p2 c2, .slice a3 p3 c3, .slice a4 p4 c4, .slice a5 h5 c5] w fun e w' =>
      ∃ v : Value, e = .returned v ∧ Own w' (w.heap.size + 1) v (msg H n (pk C G D) O) ∧ Below w.heap.size w w' := by
  have K : Hid (Calls Try.prog 20 #[.bool ext, .slice a1 h1 c1, .slice a2 p2 c2, .slice a3 p3 c3, .slice a4 p4 c4, .slice a5 h5 c5] w fun e w' =>
      ∃ v : Value, e = .returned v ∧ Own w' (w.heap.size + 1) v (msg H n (pk C G D) O) ∧ Below w.heap.size w w') :=
    marshal_calls ext a1 a2 a3 a4 a5 n h1 p2 p3 p4 h5 c1 c2 c3 c4 c5 H C G D O w hext l1 l2 l3 l4 l5 b1 b2 b4 b5 b6 r1 r2 r3 r4 r5
  clear hext b2 b4 b5 b6 r1 r2 r3 r4 r5 l1 l2 l3 l4 l5
  go_enter Try.func10, Try.ntmps10
  go_wp2_with fail
  refine K.out.mono ?_
  rintro e w' ⟨v, rfl, h1, h2⟩
  have h1' : Hid (Own w' (w.heap.size + 1) v (msg H n (pk C G D) O)) := h1
  have h2' : Hid (Below w.heap.size w w') := h2
  clear h1 h2
  go_wp2
  go_ret
  exact ⟨_, rfl, h1'.out, h2'.out⟩

theorem msg_len {H C G D O : List Int} {n h1 p2 p3 p4 h5 N : Nat} (hn : 3 ≤ n) (_hn4 : n ≤ 4) (l1 : H.length = h1) (l2 : C.length = p2) (l3 : G.length = p3) (l4 : D.length = p4) (l5 : O.length = h5) (hN : (msg H n (pk C G D) O).length = N) :
    h1 + 3 ≤ N ∧ N ≤ h1 + n + 3 + p2 + p3 + p4 + h5 := by
  obtain ⟨_, _, _, e3⟩ := ml_of (n := n) l1 l2 l3 l4
  by_cases ho : n = 4 ∧ 0 < O.length
  · have t := (lay_opt (H := H) (P := pk C G D) (O := O) ho.1 ho.2 l1 l2 l3 l4 rfl rfl rfl).2.2.2
    omega
  · rw [msg_plain ho] at hN
    have : (MM H n (pk C G D) 3).length = ML H n (pk C G D) 3 := rfl
    omega

theorem head_rd {W : World} {base g cap : Nat} {H C G D O : List Int} {n h1 p2 p3 p4 N : Nat} (hn : 3 ≤ n) (_hn4 : n ≤ 4) (l1 : H.length = h1) (l2 : C.length = p2) (l3 : G.length = p3) (l4 : D.length = p4) (hN : (msg H n (pk C G D) O).length = N) (hle : h1 ≤ N)
    (hown : Own W base (.slice (some ⟨g, 0, none⟩) N cap) (msg H n (pk C G D) O)) : Rdz W (some ⟨g, 0, none⟩) H := by
  intro _
  refine ⟨g, 0, rfl, fun j hj => ?_⟩
  rw [Nat.zero_add, own_cell hN hown j (by omega)]
  have : (msg H n (pk C G D) O).getD j 0 = H.getD j 0 := by
    by_cases ho : n = 4 ∧ 0 < O.length
    · exact (lay_opt (H := H) (P := pk C G D) (O := O) ho.1 ho.2 l1 l2 l3 l4 rfl rfl rfl).1.head j (by omega)
    · rw [msg_plain ho]
      exact (lay_MM (H := H) (n := n) (P := pk C G D) hn l1 l2 l3 l4 rfl rfl).head j (by omega)
  rw [this]

set_option maxHeartbeats 4000000 in
set_option maxRecDepth 100000 in
theorem good_ext (a1 a2 a3 a4 a5 : Option Addr) (n1 n2 n3 n4 n5 c1 c2 c3 c4 c5 : Nat) (L1 L2 L3 L4 L5 : List Int) (w : World)
    (e1 : Hid (L1.length = n1)) (e2 : Hid (L2.length = n2)) (e3 : Hid (L3.length = n3)) (e4 : Hid (L4.length = n4)) (e5 : Hid (L5.length = n5))
    (i1 : Hid (In w a1 L1 c1)) (i2 : Hid (In w a2 L2 c2)) (i3 : Hid (In w a3 L3 c3)) (i4 : Hid (In w a4 L4 c4)) (i5 : Hid (In w a5 L5 c5))
    (b1 : n1 ≤ 65536) (b2 : 4 + n2 + n3 ≤ 255) (b4 : n4 ≤ 255) (b5 : n5 ≤ 65536) (b6 : 0 < n5 → 4 + n2 + n3 + n4 ≤ 255) :
    Calls Try.prog 3 #[.bool true, .slice a1 n1 c1, .slice a2 n2 c2, .slice a3 n3 c3, .slice a4 n4 c4, .slice a5 n5 c5] w fun e w' => e = .returned (.bool true) ∧ Below w.heap.size w w' := by
  have hz : n1 + n2 + n3 + n4 + n5 ≤ 1048576 := by omega
  by_cases h50 : 0 < n5
  · have b6' := b6 h50
    clear b6
    go_enter Try.func3, Try.ntmps3
    go_wp2_with fail
    refine (zz_yes _ _ _ _ _ _ _ _ _ _ _ _ _ _ _ _ _ hz).mono ?_
    rintro e w' ⟨rfl, rfl⟩
    go_wp2_with fail
    refine (clone_calls a1 n1 c1 L1 _ e1.out (by omega) i1.out).mono ?_
    rintro e u1 ⟨A1, k1, rfl, R11, Q1⟩
    have T1 : Hid (Below w.heap.size w u1) := Q1
    have R11' : Hid (Rd u1 A1 L1 k1) := R11
    clear R11 Q1
    have R11 := R11'
    clear R11'
    go_wp2_with fail
    refine (clone_calls a2 n2 c2 L2 _ e2.out (by omega) (in_below i2.out T1.out (Nat.le_refl _))).mono ?_
    rintro e u2 ⟨A2, k2, rfl, R22, Q2⟩
    have T2 : Hid (Below w.heap.size w u2) := T1.out.trans (Q2.mono T1.out.size)
    have R12 : Hid (Rd u2 A1 L1 k1) := rd_below R11.out Q2 (Nat.le_refl _)
    have R22' : Hid (Rd u2 A2 L2 k2) := R22
    clear R22 Q2
    have R22 := R22'
    clear R22'
    clear R11
    clear T1
    go_wp2_with fail
    refine (clone_calls a3 n3 c3 L3 _ e3.out (by omega) (in_below i3.out T2.out (Nat.le_refl _))).mono ?_
    rintro e u3 ⟨A3, k3, rfl, R33, Q3⟩
    have T3 : Hid (Below w.heap.size w u3) := T2.out.trans (Q3.mono T2.out.size)
    have R13 : Hid (Rd u3 A1 L1 k1) := rd_below R12.out Q3 (Nat.le_refl _)
    have R23 : Hid (Rd u3 A2 L2 k2) := rd_below R22.out Q3 (Nat.le_refl _)
    have R33' : Hid (Rd u3 A3 L3 k3) := R33
    clear R33 Q3
    have R33 := R33'
    clear R33'
    clear R12
    clear R22
    clear T2
    go_wp2_with fail
    refine (clone_calls a4 n4 c4 L4 _ e4.out (by omega) (in_below i4.out T3.out (Nat.le_refl _))).mono ?_
    rintro e u4 ⟨A4, k4, rfl, R44, Q4⟩
    have T4 : Hid (Below w.heap.size w u4) := T3.out.trans (Q4.mono T3.out.size)
    have R14 : Hid (Rd u4 A1 L1 k1) := rd_below R13.out Q4 (Nat.le_refl _)
    have R24 : Hid (Rd u4 A2 L2 k2) := rd_below R23.out Q4 (Nat.le_refl _)
    have R34 : Hid (Rd u4 A3 L3 k3) := rd_below R33.out Q4 (Nat.le_refl _)
    have R44' : Hid (Rd u4 A4 L4 k4) := R44
    clear R44 Q4
    have R44 := R44'
    clear R44'
    clear R13
    clear R23
    clear R33
    clear T3
    go_wp2_with fail
    refine (clone_calls a5 n5 c5 L5 _ e5.out (by omega) (in_below i5.out T4.out (Nat.le_refl _))).mono ?_
    rintro e u5 ⟨A5, k5, rfl, R55, Q5⟩
    have T5 : Hid (Below w.heap.size w u5) := T4.out.trans (Q5.mono T4.out.size)
    have R15 : Hid (Rd u5 A1 L1 k1) := rd_below R14.out Q5 (Nat.le_refl _)
    have R25 : Hid (Rd u5 A2 L2 k2) := rd_below R24.out Q5 (Nat.le_refl _)
    have R35 : Hid (Rd u5 A3 L3 k3) := rd_below R34.out Q5 (Nat.le_refl _)
    have R45 : Hid (Rd u5 A4 L4 k4) := rd_below R44.out Q5 (Nat.le_refl _)
    have R55' : Hid (Rd u5 A5 L5 k5) := R55
    clear R55 Q5
    have R55 := R55'
    clear R55'
    clear R14
    clear R24
    clear R34
    clear R44
    clear T4
    clear i1 i2 i3 i4 i5
    go_wp2_with fail
    refine (zzmarshal_calls true A1 A2 A3 A4 A5 4 n1 n2 n3 n4 n5 k1 k2 k3 k4 k5 L1 L2 L3 L4 L5 u5 (Or.inl ⟨rfl, rfl⟩) e1 e2 e3 e4 e5 b1 b2 b4 b5 (fun _ _ => by omega) R15 R25 R35 R45 R55).mono ?_
    rintro e W ⟨v, rfl, hown, hB⟩
    obtain ⟨N, hN⟩ : ∃ N, (msg L1 4 (pk L2 L3 L4) L5).length = N := ⟨_, rfl⟩
    obtain ⟨hN1, hN2⟩ := msg_len (n := 4) (by decide) (by decide) e1.out e2.out e3.out e4.out e5.out hN
    obtain ⟨g, cap, hv, hcap, hbg, hgl⟩ := own_form hown hN (by omega)
    subst hv
    have O1 : Hid (Own W (u5.heap.size + 1) (.slice (some ⟨g, 0, none⟩) N cap) (msg L1 4 (pk L2 L3 L4) L5)) := hown
    have TW : Hid (Below w.heap.size w W) := T5.out.trans (hB.mono T5.out.size)
    have Z1 : Hid (Rdz W A1 L1) := rd_z (rd_below R15.out hB (Nat.le_refl _))
    have Z2 : Hid (Rdz W A2 L2) := rd_z (rd_below R25.out hB (Nat.le_refl _))
    have Z3 : Hid (Rdz W A3 L3) := rd_z (rd_below R35.out hB (Nat.le_refl _))
    have Z4 : Hid (Rdz W A4 L4) := rd_z (rd_below R45.out hB (Nat.le_refl _))
    have Z5 : Hid (Rdz W A5 L5) := rd_z (rd_below R55.out hB (Nat.le_refl _))
    have ZH : Hid (Rdz W (some ⟨g, 0, none⟩) L1) := head_rd (by decide) (by decide) e1.out e2.out e3.out e4.out hN (by omega) hown
    have HN : Hid ((msg L1 4 (pk L2 L3 L4) L5).length = N) := hN
    clear hown hB R15 R25 R35 R45 R55 T5 hN hbg hgl
    go_wp2_with fail
    refine (eq_at W W w w.heap.size (some ⟨g, 0, none⟩) A1 n1 _ _ L1 (fun _ => rfl) TW e1.out (by omega) ZH.out Z1.out).mono ?_
    rintro e u6 ⟨rfl, H6, T6⟩
    go_wp2_with fail
    refine (decode_msg true 4 n1 n2 n3 n4 n5 _ g cap N L1 L2 L3 L4 L5 W u6 (Or.inl ⟨rfl, rfl⟩) e1.out e2.out e3.out e4.out e5.out b1 b2 b4 b5 (fun _ _ => by omega) O1.out HN.out hcap H6.out).mono ?_
    rintro e u7 ⟨D2, D3, D4, D5, j2, j3, j4, j5, m5, rfl, Y2, Y3, Y4, Y5, Y6, rfl⟩
    go_wp2_with fail
    refine (eq_at W u6 w w.heap.size D2 A2 n2 _ _ L2 H6 T6 e2.out (by omega) Y2.out Z2.out).mono ?_
    rintro e u8 ⟨rfl, H8, T8⟩
    clear H6 T6
    go_wp2_with fail
    refine (eq_at W u8 w w.heap.size D3 A3 n3 _ _ L3 H8 T8 e3.out (by omega) Y3.out Z3.out).mono ?_
    rintro e u9 ⟨rfl, H9, T9⟩
    clear H8 T8
    go_wp2_with fail
    refine (eq_at W u9 w w.heap.size D4 A4 n4 _ _ L4 H9 T9 e4.out (by omega) Y4.out Z4.out).mono ?_
    rintro e ua ⟨rfl, Ha, Ta⟩
    clear H9 T9
    obtain ⟨hm5, Y7⟩ := Y5.out (by trivial)
    subst hm5
    have Y7' : Hid (Rdz W D5 L5) := Y7
    clear Y7 Y5 Y6
    go_wp2_with fail
    refine (eq_at W ua w w.heap.size D5 A5 _ _ _ L5 Ha Ta e5.out (by omega) Y7'.out Z5.out).mono ?_
    rintro e ub ⟨rfl, Hb, Tb⟩
    go_wp2
    go_ret
    exact ⟨rfl, Tb.out⟩
  · clear b6
    go_enter Try.func3, Try.ntmps3
    go_wp2_with fail
    refine (zz_yes _ _ _ _ _ _ _ _ _ _ _ _ _ _ _ _ _ hz).mono ?_
    rintro e w' ⟨rfl, rfl⟩
    go_wp2_with fail
    refine (clone_calls a1 n1 c1 L1 _ e1.out (by omega) i1.out).mono ?_
    rintro e u1 ⟨A1, k1, rfl, R11, Q1⟩
    have T1 : Hid (Below w.heap.size w u1) := Q1
    have R11' : Hid (Rd u1 A1 L1 k1) := R11
    clear R11 Q1
    have R11 := R11'
    clear R11'
    go_wp2_with fail
    refine (clone_calls a2 n2 c2 L2 _ e2.out (by omega) (in_below i2.out T1.out (Nat.le_refl _))).mono ?_
    rintro e u2 ⟨A2, k2, rfl, R22, Q2⟩
    have T2 : Hid (Below w.heap.size w u2) := T1.out.trans (Q2.mono T1.out.size)
    have R12 : Hid (Rd u2 A1 L1 k1) := rd_below R11.out Q2 (Nat.le_refl _)
    have R22' : Hid (Rd u2 A2 L2 k2) := R22
    clear R22 Q2
    have R22 := R22'
    clear R22'
    clear R11
    clear T1
    go_wp2_with fail
    refine (clone_calls a3 n3 c3 L3 _ e3.out (by omega) (in_below i3.out T2.out (Nat.le_refl _))).mono ?_
    rintro e u3 ⟨A3, k3, rfl, R33, Q3⟩
    have T3 : Hid (Below w.heap.size w u3) := T2.out.trans (Q3.mono T2.out.size)
    have R13 : Hid (Rd u3 A1 L1 k1) := rd_below R12.out Q3 (Nat.le_refl _)
    have R23 : Hid (Rd u3 A2 L2 k2) := rd_below R22.out Q3 (Nat.le_refl _)
    have R33' : Hid (Rd u3 A3 L3 k3) := R33
    clear R33 Q3
    have R33 := R33'
    clear R33'
    clear R12
    clear R22
    clear T2
    go_wp2_with fail
    refine (clone_calls a4 n4 c4 L4 _ e4.out (by omega) (in_below i4.out T3.out (Nat.le_refl _))).mono ?_
    rintro e u4 ⟨A4, k4, rfl, R44, Q4⟩
    have T4 : Hid (Below w.heap.size w u4) := T3.out.trans (Q4.mono T3.out.size)
    have R14 : Hid (Rd u4 A1 L1 k1) := rd_below R13.out Q4 (Nat.le_refl _)
    have R24 : Hid (Rd u4 A2 L2 k2) := rd_below R23.out Q4 (Nat.le_refl _)
    have R34 : Hid (Rd u4 A3 L3 k3) := rd_below R33.out Q4 (Nat.le_refl _)
    have R44' : Hid (Rd u4 A4 L4 k4) := R44
    clear R44 Q4
    have R44 := R44'
    clear R44'
    clear R13
    clear R23
    clear R33
    clear T3
    go_wp2_with fail
    refine (clone_calls a5 n5 c5 L5 _ e5.out (by omega) (in_below i5.out T4.out (Nat.le_refl _))).mono ?_
    rintro e u5 ⟨A5, k5, rfl, R55, Q5⟩
    have T5 : Hid (Below w.heap.size w u5) := T4.out.trans (Q5.mono T4.out.size)
    have R15 : Hid (Rd u5 A1 L1 k1) := rd_below R14.out Q5 (Nat.le_refl _)
    have R25 : Hid (Rd u5 A2 L2 k2) := rd_below R24.out Q5 (Nat.le_refl _)
    have R35 : Hid (Rd u5 A3 L3 k3) := rd_below R34.out Q5 (Nat.le_refl _)
    have R45 : Hid (Rd u5 A4 L4 k4) := rd_below R44.out Q5 (Nat.le_refl _)
    have R55' : Hid (Rd u5 A5 L5 k5) := R55
    clear R55 Q5
    have R55 := R55'
    clear R55'
    clear R14
    clear R24
    clear R34
    clear R44
    clear T4
    clear i1 i2 i3 i4 i5
    go_wp2_with fail
    refine (zzmarshal_calls true A1 A2 A3 A4 A5 4 n1 n2 n3 n4 n5 k1 k2 k3 k4 k5 L1 L2 L3 L4 L5 u5 (Or.inl ⟨rfl, rfl⟩) e1 e2 e3 e4 e5 b1 b2 b4 b5 (fun _ _ => by omega) R15 R25 R35 R45 R55).mono ?_
    rintro e W ⟨v, rfl, hown, hB⟩
    obtain ⟨N, hN⟩ : ∃ N, (msg L1 4 (pk L2 L3 L4) L5).length = N := ⟨_, rfl⟩
    obtain ⟨hN1, hN2⟩ := msg_len (n := 4) (by decide) (by decide) e1.out e2.out e3.out e4.out e5.out hN
    obtain ⟨g, cap, hv, hcap, hbg, hgl⟩ := own_form hown hN (by omega)
    subst hv
    have O1 : Hid (Own W (u5.heap.size + 1) (.slice (some ⟨g, 0, none⟩) N cap) (msg L1 4 (pk L2 L3 L4) L5)) := hown
    have TW : Hid (Below w.heap.size w W) := T5.out.trans (hB.mono T5.out.size)
    have Z1 : Hid (Rdz W A1 L1) := rd_z (rd_below R15.out hB (Nat.le_refl _))
    have Z2 : Hid (Rdz W A2 L2) := rd_z (rd_below R25.out hB (Nat.le_refl _))
    have Z3 : Hid (Rdz W A3 L3) := rd_z (rd_below R35.out hB (Nat.le_refl _))
    have Z4 : Hid (Rdz W A4 L4) := rd_z (rd_below R45.out hB (Nat.le_refl _))
    have Z5 : Hid (Rdz W A5 L5) := rd_z (rd_below R55.out hB (Nat.le_refl _))
    have ZH : Hid (Rdz W (some ⟨g, 0, none⟩) L1) := head_rd (by decide) (by decide) e1.out e2.out e3.out e4.out hN (by omega) hown
    have HN : Hid ((msg L1 4 (pk L2 L3 L4) L5).length = N) := hN
    clear hown hB R15 R25 R35 R45 R55 T5 hN hbg hgl
    go_wp2_with fail
    refine (eq_at W W w w.heap.size (some ⟨g, 0, none⟩) A1 n1 _ _ L1 (fun _ => rfl) TW e1.out (by omega) ZH.out Z1.out).mono ?_
    rintro e u6 ⟨rfl, H6, T6⟩
    go_wp2_with fail
    refine (decode_msg true 4 n1 n2 n3 n4 n5 _ g cap N L1 L2 L3 L4 L5 W u6 (Or.inl ⟨rfl, rfl⟩) e1.out e2.out e3.out e4.out e5.out b1 b2 b4 b5 (fun _ _ => by omega) O1.out HN.out hcap H6.out).mono ?_
    rintro e u7 ⟨D2, D3, D4, D5, j2, j3, j4, j5, m5, rfl, Y2, Y3, Y4, Y5, Y6, rfl⟩
    go_wp2_with fail
    refine (eq_at W u6 w w.heap.size D2 A2 n2 _ _ L2 H6 T6 e2.out (by omega) Y2.out Z2.out).mono ?_
    rintro e u8 ⟨rfl, H8, T8⟩
    clear H6 T6
    go_wp2_with fail
    refine (eq_at W u8 w w.heap.size D3 A3 n3 _ _ L3 H8 T8 e3.out (by omega) Y3.out Z3.out).mono ?_
    rintro e u9 ⟨rfl, H9, T9⟩
    clear H8 T8
    go_wp2_with fail
    refine (eq_at W u9 w w.heap.size D4 A4 n4 _ _ L4 H9 T9 e4.out (by omega) Y4.out Z4.out).mono ?_
    rintro e ua ⟨rfl, Ha, Ta⟩
    clear H9 T9
    obtain ⟨hm5, Y7⟩ := Y5.out (by trivial)
    subst hm5
    have Y7' : Hid (Rdz W D5 L5) := Y7
    clear Y7 Y5 Y6
    go_wp2_with fail
    refine (eq_at W ua w w.heap.size D5 A5 _ _ _ L5 Ha Ta e5.out (by omega) Y7'.out Z5.out).mono ?_
    rintro e ub ⟨rfl, Hb, Tb⟩
    go_wp2
    go_ret
    exact ⟨rfl, Tb.out⟩

set_option maxHeartbeats 4000000 in
set_option maxRecDepth 100000 in
theorem good_plain (a1 a2 a3 a4 a5 : Option Addr) (n1 n2 n3 n4 n5 c1 c2 c3 c4 c5 : Nat) (L1 L2 L3 L4 L5 : List Int) (w : World)
    (e1 : Hid (L1.length = n1)) (e2 : Hid (L2.length = n2)) (e3 : Hid (L3.length = n3)) (e4 : Hid (L4.length = n4)) (e5 : Hid (L5.length = n5))
    (i1 : Hid (In w a1 L1 c1)) (i2 : Hid (In w a2 L2 c2)) (i3 : Hid (In w a3 L3 c3)) (i4 : Hid (In w a4 L4 c4)) (i5 : Hid (In w a5 L5 c5))
    (b1 : n1 ≤ 65536) (b2 : 3 + n2 + n3 ≤ 255) (b4 : n4 ≤ 255) (b5 : n5 ≤ 65536) :
    Calls Try.prog 3 #[.bool false, .slice a1 n1 c1, .slice a2 n2 c2, .slice a3 n3 c3, .slice a4 n4 c4, .slice a5 n5 c5] w fun e w' => e = .returned (.bool true) ∧ Below w.heap.size w w' := by
  have hz : n1 + n2 + n3 + n4 + n5 ≤ 1048576 := by omega
  go_enter Try.func3, Try.ntmps3
  go_wp2_with fail
  refine (zz_yes _ _ _ _ _ _ _ _ _ _ _ _ _ _ _ _ _ hz).mono ?_
  rintro e w' ⟨rfl, rfl⟩
  go_wp2_with fail
  refine (clone_calls a1 n1 c1 L1 _ e1.out (by omega) i1.out).mono ?_
  rintro e u1 ⟨A1, k1, rfl, R11, Q1⟩
  have T1 : Hid (Below w.heap.size w u1) := Q1
  have R11' : Hid (Rd u1 A1 L1 k1) := R11
  clear R11 Q1
  have R11 := R11'
  clear R11'
  go_wp2_with fail
  refine (clone_calls a2 n2 c2 L2 _ e2.out (by omega) (in_below i2.out T1.out (Nat.le_refl _))).mono ?_
  rintro e u2 ⟨A2, k2, rfl, R22, Q2⟩
  have T2 : Hid (Below w.heap.size w u2) := T1.out.trans (Q2.mono T1.out.size)
  have R12 : Hid (Rd u2 A1 L1 k1) := rd_below R11.out Q2 (Nat.le_refl _)
  have R22' : Hid (Rd u2 A2 L2 k2) := R22
  clear R22 Q2
  have R22 := R22'
  clear R22'
  clear R11
  clear T1
  go_wp2_with fail
  refine (clone_calls a3 n3 c3 L3 _ e3.out (by omega) (in_below i3.out T2.out (Nat.le_refl _))).mono ?_
  rintro e u3 ⟨A3, k3, rfl, R33, Q3⟩
  have T3 : Hid (Below w.heap.size w u3) := T2.out.trans (Q3.mono T2.out.size)
  have R13 : Hid (Rd u3 A1 L1 k1) := rd_below R12.out Q3 (Nat.le_refl _)
  have R23 : Hid (Rd u3 A2 L2 k2) := rd_below R22.out Q3 (Nat.le_refl _)
  have R33' : Hid (Rd u3 A3 L3 k3) := R33
  clear R33 Q3
  have R33 := R33'
  clear R33'
  clear R12
  clear R22
  clear T2
  go_wp2_with fail
  refine (clone_calls a4 n4 c4 L4 _ e4.out (by omega) (in_below i4.out T3.out (Nat.le_refl _))).mono ?_
  rintro e u4 ⟨A4, k4, rfl, R44, Q4⟩
  have T4 : Hid (Below w.heap.size w u4) := T3.out.trans (Q4.mono T3.out.size)
  have R14 : Hid (Rd u4 A1 L1 k1) := rd_below R13.out Q4 (Nat.le_refl _)
  have R24 : Hid (Rd u4 A2 L2 k2) := rd_below R23.out Q4 (Nat.le_refl _)
  have R34 : Hid (Rd u4 A3 L3 k3) := rd_below R33.out Q4 (Nat.le_refl _)
  have R44' : Hid (Rd u4 A4 L4 k4) := R44
  clear R44 Q4
  have R44 := R44'
  clear R44'
  clear R13
  clear R23
  clear R33
  clear T3
  go_wp2_with fail
  refine (clone_calls a5 n5 c5 L5 _ e5.out (by omega) (in_below i5.out T4.out (Nat.le_refl _))).mono ?_
  rintro e u5 ⟨A5, k5, rfl, R55, Q5⟩
  have T5 : Hid (Below w.heap.size w u5) := T4.out.trans (Q5.mono T4.out.size)
  have R15 : Hid (Rd u5 A1 L1 k1) := rd_below R14.out Q5 (Nat.le_refl _)
  have R25 : Hid (Rd u5 A2 L2 k2) := rd_below R24.out Q5 (Nat.le_refl _)
  have R35 : Hid (Rd u5 A3 L3 k3) := rd_below R34.out Q5 (Nat.le_refl _)
  have R45 : Hid (Rd u5 A4 L4 k4) := rd_below R44.out Q5 (Nat.le_refl _)
  have R55' : Hid (Rd u5 A5 L5 k5) := R55
  clear R55 Q5
  have R55 := R55'
  clear R55'
  clear R14
  clear R24
  clear R34
  clear R44
  clear T4
  clear i1 i2 i3 i4 i5
  go_wp2_with fail
  refine (zzmarshal_calls false A1 A2 A3 A4 A5 3 n1 n2 n3 n4 n5 k1 k2 k3 k4 k5 L1 L2 L3 L4 L5 u5 (Or.inr ⟨rfl, rfl⟩) e1 e2 e3 e4 e5 b1 b2 b4 b5 (fun hx => absurd hx (by decide)) R15 R25 R35 R45 R55).mono ?_
  rintro e W ⟨v, rfl, hown, hB⟩
  obtain ⟨N, hN⟩ : ∃ N, (msg L1 3 (pk L2 L3 L4) L5).length = N := ⟨_, rfl⟩
  obtain ⟨hN1, hN2⟩ := msg_len (n := 3) (by decide) (by decide) e1.out e2.out e3.out e4.out e5.out hN
  obtain ⟨g, cap, hv, hcap, hbg, hgl⟩ := own_form hown hN (by omega)
  subst hv
  have O1 : Hid (Own W (u5.heap.size + 1) (.slice (some ⟨g, 0, none⟩) N cap) (msg L1 3 (pk L2 L3 L4) L5)) := hown
  have TW : Hid (Below w.heap.size w W) := T5.out.trans (hB.mono T5.out.size)
  have Z1 : Hid (Rdz W A1 L1) := rd_z (rd_below R15.out hB (Nat.le_refl _))
  have Z2 : Hid (Rdz W A2 L2) := rd_z (rd_below R25.out hB (Nat.le_refl _))
  have Z3 : Hid (Rdz W A3 L3) := rd_z (rd_below R35.out hB (Nat.le_refl _))
  have Z4 : Hid (Rdz W A4 L4) := rd_z (rd_below R45.out hB (Nat.le_refl _))
  have Z5 : Hid (Rdz W A5 L5) := rd_z (rd_below R55.out hB (Nat.le_refl _))
  have ZH : Hid (Rdz W (some ⟨g, 0, none⟩) L1) := head_rd (by decide) (by decide) e1.out e2.out e3.out e4.out hN (by omega) hown
  have HN : Hid ((msg L1 3 (pk L2 L3 L4) L5).length = N) := hN
  clear hown hB R15 R25 R35 R45 R55 T5 hN hbg hgl
  go_wp2_with fail
  refine (eq_at W W w w.heap.size (some ⟨g, 0, none⟩) A1 n1 _ _ L1 (fun _ => rfl) TW e1.out (by omega) ZH.out Z1.out).mono ?_
  rintro e u6 ⟨rfl, H6, T6⟩
  go_wp2_with fail
  refine (decode_msg false 3 n1 n2 n3 n4 n5 _ g cap N L1 L2 L3 L4 L5 W u6 (Or.inr ⟨rfl, rfl⟩) e1.out e2.out e3.out e4.out e5.out b1 b2 b4 b5 (fun hx => absurd hx (by decide)) O1.out HN.out hcap H6.out).mono ?_
  rintro e u7 ⟨D2, D3, D4, D5, j2, j3, j4, j5, m5, rfl, Y2, Y3, Y4, Y5, Y6, rfl⟩
  go_wp2_with fail
  refine (eq_at W u6 w w.heap.size D2 A2 n2 _ _ L2 H6 T6 e2.out (by omega) Y2.out Z2.out).mono ?_
  rintro e u8 ⟨rfl, H8, T8⟩
  clear H6 T6
  go_wp2_with fail
  refine (eq_at W u8 w w.heap.size D3 A3 n3 _ _ L3 H8 T8 e3.out (by omega) Y3.out Z3.out).mono ?_
  rintro e u9 ⟨rfl, H9, T9⟩
  clear H8 T8
  go_wp2_with fail
  refine (eq_at W u9 w w.heap.size D4 A4 n4 _ _ L4 H9 T9 e4.out (by omega) Y4.out Z4.out).mono ?_
  rintro e ua ⟨rfl, Ha, Ta⟩
  clear H9 T9
  obtain rfl := Y6.out (by trivial)
  clear Y5 Y6
  go_wp2
  go_ret
  exact ⟨rfl, Ta.out⟩

end Go.Proofs.Qxb6000450a.fnMarshalLaysOutHeadAndParts
