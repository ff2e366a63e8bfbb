/-
  SEAT b6000450a: the walks of 'pointers' (21) and 'marshal' (20).
-/
import Derived.Test.Qxb6000450aWalkC
import Derived.Test.Qxb6000450aMsg
namespace Go.Proofs.Qxb6000450a
open Go.RowKit
open Pl

theorem ptr_calls (b : Bool) (a n : Int) (w : World) (h : (b = true ∧ a = 3 ∧ n = 4) ∨ (b = false ∧ a = 2 ∧ n = 3)) :
    Calls Try.prog 21 #[.bool b] w fun e w' => e = .returned (.tuple #[.int .i64 a, .int .i64 n]) ∧ w = w' := by
  rcases h with ⟨rfl, rfl, rfl⟩ | ⟨rfl, rfl, rfl⟩
  · go_enter Try.func21, Try.ntmps21
    go_wp2
    go_ret2
    exact ⟨rfl, rfl⟩
  · go_enter Try.func21, Try.ntmps21
    go_wp2
    go_ret2
    exact ⟨rfl, rfl⟩

theorem cell_one_at (W : World) (v : Value) (t : TypeId) (H : Nat) (hH : W.heap.size = H) : ∀ (j : Nat) (u : Value), [v][j]? = some u → (W.alloc (.cells #[v] t)).cell? ((⟨H, 0, none⟩ : Addr).add j) = some u := by
  subst hH; exact cell_one_new _ _ _

/-- The three parts, by their number. -/
def pk {α : Type} (x y z : α) : Nat → α
  | 0 => x
  | 1 => y
  | _ => z

theorem parts_cell (w : World) (v0 v1 v2 : Value) (k : Nat) (hk : k < 3) :
    (w.alloc (Obj.cells #[v0, v1, v2] 22)).cell? ⟨w.heap.size, k, none⟩ = some (pk v0 v1 v2 k) := by
  match k, hk with
  | 0, _ => simp [pk]
  | 1, _ => simp [pk]
  | 2, _ => simp [pk]

theorem pk_slice (a2 a3 a4 : Option Addr) (p2 p3 p4 c2 c3 c4 : Nat) (k : Nat) : pk (Value.slice a2 p2 c2) (Value.slice a3 p3 c3) (Value.slice a4 p4 c4) k = .slice (pk a2 a3 a4 k) (pk p2 p3 p4 k) (pk c2 c3 c4 k) := by
  match k with
  | 0 => rfl
  | 1 => rfl
  | k + 2 => rfl

/-- How long the message is behind k rounds. -/
theorem ml_of {H C G D : List Int} {n h1 p2 p3 p4 : Nat} (l1 : H.length = h1) (l2 : C.length = p2) (l3 : G.length = p3) (l4 : D.length = p4) :
    ML H n (pk C G D) 0 = h1 + n ∧ ML H n (pk C G D) 1 = h1 + n + 1 + p2 ∧ ML H n (pk C G D) 2 = h1 + n + 1 + p2 + 1 + p3 ∧ ML H n (pk C G D) 3 = h1 + n + 1 + p2 + 1 + p3 + 1 + p4 := by
  have e0 := ML_zero H n (pk C G D)
  have e1 : ML H n (pk C G D) 1 = ML H n (pk C G D) 0 + 1 + (pk C G D 0).length := ML_succ H n (pk C G D) 0
  have e2 : ML H n (pk C G D) 2 = ML H n (pk C G D) 1 + 1 + (pk C G D 1).length := ML_succ H n (pk C G D) 1
  have e3 : ML H n (pk C G D) 3 = ML H n (pk C G D) 2 + 1 + (pk C G D 2).length := ML_succ H n (pk C G D) 2
  have q0 : (pk C G D 0).length = p2 := l2
  have q1 : (pk C G D 1).length = p3 := l3
  have q2 : (pk C G D 2).length = p4 := l4
  rw [l1] at e0
  exact ⟨e0, by omega, by omega, by omega⟩

theorem ml_bounds {H C G D : List Int} {n h1 p2 p3 p4 : Nat} (l1 : H.length = h1) (l2 : C.length = p2) (l3 : G.length = p3) (l4 : D.length = p4) (b2 : n + p2 + p3 ≤ 255) (b4 : p4 ≤ 255) (k : Nat) (hk : k < 3) :
    h1 + n ≤ ML H n (pk C G D) k ∧ ML H n (pk C G D) k ≤ h1 + k + 255 ∧ pk p2 p3 p4 k ≤ 255 := by
  obtain ⟨e0, e1, e2, _⟩ := ml_of (n := n) l1 l2 l3 l4
  match k, hk with
  | 0, _ => exact ⟨by omega, by omega, by show p2 ≤ 255; omega⟩
  | 1, _ => exact ⟨by omega, by omega, by show p3 ≤ 255; omega⟩
  | 2, _ => exact ⟨by omega, by omega, by show p4 ≤ 255; omega⟩

theorem pk_len {C G D : List Int} {p2 p3 p4 : Nat} (l2 : C.length = p2) (l3 : G.length = p3) (l4 : D.length = p4) (k : Nat) : (pk C G D k).length = pk p2 p3 p4 k := by
  match k with
  | 0 => exact l2
  | 1 => exact l3
  | k + 2 => exact l4

theorem pk_rd {w : World} {a2 a3 a4 : Option Addr} {C G D : List Int} {c2 c3 c4 : Nat} (r2 : Rd w a2 C c2) (r3 : Rd w a3 G c3) (r4 : Rd w a4 D c4) (k : Nat) : Rd w (pk a2 a3 a4 k) (pk C G D k) (pk c2 c3 c4 k) := by
  match k with
  | 0 => exact r2
  | 1 => exact r3
  | k + 2 => exact r4

set_option maxHeartbeats 2000000 in
theorem marshal_calls (ext : Bool) (a1 a2 a3 a4 a5 : Option Addr) (n h1 p2 p3 p4 h5 c1 c2 c3 c4 c5 : Nat) (H C G D O : List Int) (w : World)
    (hext : (ext = true ∧ n = 4) ∨ (ext = false ∧ n = 3)) (l1 : Hid (H.length = h1)) (l2 : Hid (C.length = p2)) (l3 : Hid (G.length = p3)) (l4 : Hid (D.length = p4)) (l5 : Hid (O.length = h5))
    (b1 : h1 ≤ 65536) (b2 : n + p2 + p3 ≤ 255) (b4 : p4 ≤ 255) (b5 : h5 ≤ 65536) (b6 : ext = true → 0 < h5 → n + p2 + p3 + p4 ≤ 255)
    (r1 : Hid (Rd w a1 H c1)) (r2 : Hid (Rd w a2 C c2)) (r3 : Hid (Rd w a3 G c3)) (r4 : Hid (Rd w a4 D c4)) (r5 : Hid (Rd w a5 O c5)) :
    Calls Try.prog 20 #[.bool ext, .slice a1 h1 c1, .slice a2 p2 c2, .slice a3 p3 c3, .slice a4 p4 c4, .slice a5 h5 c5] w fun e w' =>
      ∃ v : Value, e = .returned v ∧ Own w' (w.heap.size + 1) v (msg H n (pk C G D) O) ∧ Below w.heap.size w w' := by
  obtain ⟨i0, hi, hz0, hz1, hz2⟩ := info_parts Try.info5
  have hn3 : 3 ≤ n := by omega
  have hn4 : n ≤ 4 := by omega
  have N : Hid (∃ q : Int, (ext = true ∧ q = 3 ∧ (n : Int) = 4) ∨ (ext = false ∧ q = 2 ∧ (n : Int) = 3)) := by
    rcases hext with ⟨h, h'⟩ | ⟨h, h'⟩
    · exact ⟨3, Or.inl ⟨h, rfl, by omega⟩⟩
    · exact ⟨2, Or.inr ⟨h, rfl, by omega⟩⟩
  have X : Hid ((ext = true ∧ n = 4) ∨ (ext = false ∧ n = 3)) := hext
  have B6 : Hid (ext = true → 0 < h5 → n + p2 + p3 + p4 ≤ 255) := b6
  clear hext b6
  obtain ⟨q, hq⟩ := N.out
  have Q : Hid ((ext = true ∧ q = 3 ∧ (n : Int) = 4) ∨ (ext = false ∧ q = 2 ∧ (n : Int) = 3)) := hq
  clear hq N
  go_enter Try.func20, Try.ntmps20
  go_wp2_with fail
  refine (ptr_calls ext q (n : Int) _ Q.out).mono ?_
  rintro e w' ⟨rfl, rfl⟩
  go_wp2_with (at_make; refine wpList_make_zero _ rfl _ _ rfl (w.heap.size + 1) .i64 .i64 _ _ (h1 + n) (h1 + n + 3 + p2 + p3 + p4 + h5) rfl rfl (by omega) (by omega) (by omega) (by omega) (by simp) ?_)
  intro w1 hown hgrow
  obtain ⟨WP, hWP⟩ : ∃ WP, Hid (w.alloc (Obj.cells #[Value.slice a2 p2 c2, Value.slice a3 p3 c3, Value.slice a4 p4 c4] 22) = WP) := ⟨_, rfl⟩
  have hWz : Hid (WP.heap.size = w.heap.size + 1) := by unfold Hid; rw [← hWP.out]; simp
  have hWb : Hid (Below w.heap.size w WP) := by unfold Hid; rw [← hWP.out]; exact (Below.refl _ _).alloc (Nat.le_refl _) _
  have hWc : Hid (∀ k, k < 3 → WP.cell? ⟨w.heap.size, k, none⟩ = some (.slice (pk a2 a3 a4 k) (pk p2 p3 p4 k) (pk c2 c3 c4 k))) := by
    intro k hk; rw [← hWP.out, ← pk_slice]; exact parts_cell _ _ _ _ k hk
  have hb1 : Hid (Below (w.heap.size + 1) WP w1) := by
    unfold Hid; rw [← hWP.out]; exact (Below.refl _ _).grown hgrow (by simp) (fun k hk => by cases hk)
  have hown1 : Hid (Own w1 (w.heap.size + 1) (.slice (some ⟨w.heap.size + 1, 0, none⟩) (h1 + n) (h1 + n + 3 + p2 + p3 + p4 + h5)) (List.replicate (h1 + n) 0)) := by
    unfold Hid; simpa using hown
  have rd1 : Hid (Rd w1 a1 H c1) := rd_below (rd_below r1.out hWb.out (Nat.le_refl _)) (hb1.out) (by rw [hWz.out]; exact Nat.le_refl _)
  clear hown hgrow hWP
  go_wp2_with (refine wpList_copy_rd w1 rfl (.tmp 54) (.tmp 55) rfl (w.heap.size + 1) (w.heap.size + 1) (h1 + n) (h1 + n + 3 + p2 + p3 + p4 + h5) (List.replicate (h1 + n) 0) rfl (by simp) hown1.out a1 h1 c1 H rfl l1.out rd1.out (by omega) (w.heap.size + 1) WP hb1.out (Nat.le_refl _) ?_)
  intro w2 hown2 hb2
  have S0 : Hid (Own w2 (w.heap.size + 1) (.slice (some ⟨w.heap.size + 1, 0, none⟩) (ML H n (pk C G D) 0) (h1 + n + 3 + p2 + p3 + p4 + h5)) (MM H n (pk C G D) 0)) := by
    unfold Hid
    rw [ML_zero, l1.out]
    unfold MM
    exact hown2
  have Z0 : Hid (ML H n (pk C G D) 0 = h1 + n) := by unfold Hid; rw [ML_zero, l1.out]
  have B2 : Hid (Below (w.heap.size + 1) WP w2) := hb2
  clear hown2 hb2 hown1 hb1 rd1
  go_wp2
  go_loopw [16, 59] (fun v i wr => ∃ k g cap : Nat, k ≤ 3 ∧ i = .int .i64 (k : Int) ∧ v = .slice (some ⟨g, 0, none⟩) (ML H n (pk C G D) k) cap ∧ w.heap.size + 1 ≤ g ∧ Hid (Own wr (w.heap.size + 1) (.slice (some ⟨g, 0, none⟩) (ML H n (pk C G D) k) cap) (MM H n (pk C G D) k)) ∧ Hid (Below (w.heap.size + 1) WP wr)) (fun _ i _ => 3 - (intOf i).toNat)
  case atStart => exact ⟨0, w.heap.size + 1, h1 + n + 3 + p2 + p3 + p4 + h5, by omega, rfl, by rw [Z0.out], Nat.le_refl _, S0, B2⟩
  case round =>
    clear S0 Z0 B2
    obtain ⟨k, g, cap, hk, rfl, rfl, hg, hO, hb⟩ := hrel
    by_cases hk3 : k < 3
    · obtain ⟨m1, m2, m3⟩ := ml_bounds (n := n) l1.out l2.out l3.out l4.out b2 b4 k hk3
      have cp : wr.cell? ⟨w.heap.size, k, none⟩ = some (.slice (pk a2 a3 a4 k) (pk p2 p3 p4 k) (pk c2 c3 c4 k)) := (hb.out.cell (p := ⟨w.heap.size, k, none⟩) (Nat.lt_succ_self _)).trans (hWc.out k hk3)
      have s1 := own_cell rfl hO.out (h1 + k) (by show _ < ML H n (pk C G D) k; omega)
      have s2 := own_free rfl hO.out (h1 + k)
      generalize hY : (MM H n (pk C G D) k).getD (h1 + k) 0 = Y at s1
      have HY : Hid ((MM H n (pk C G D) k).getD (h1 + k) 0 = Y) := hY
      clear hY
      have hk3' : (k : Int) < 3 := by omega
      obtain ⟨L1, hL1⟩ : ∃ L1, Hid ((MM H n (pk C G D) k).set (h1 + k) ((ML H n (pk C G D) k : Int) - ((h1 : Int) + (k : Int))) = L1) := ⟨_, rfl⟩
      have N1 : Hid (Own (wr.setCell ⟨g, h1 + k, none⟩ (.int .u8 ((ML H n (pk C G D) k : Int) - ((h1 : Int) + (k : Int))))) (w.heap.size + 1) (.slice (some ⟨g, 0, none⟩) (ML H n (pk C G D) k) cap) L1) := by
        unfold Hid; rw [← hL1.out]; exact own_set rfl hO.out (h1 + k) _
      have len1 : Hid (L1.length = ML H n (pk C G D) k) := by unfold Hid; rw [← hL1.out, List.length_set]; rfl
      have B1 : Hid (Below (w.heap.size + 1) WP (wr.setCell ⟨g, h1 + k, none⟩ (.int .u8 ((ML H n (pk C G D) k : Int) - ((h1 : Int) + (k : Int)))))) := hb.out.setCell (p := ⟨g, h1 + k, none⟩) hg _
      have hsz : w.heap.size + 1 ≤ wr.heap.size := by have := hb.out.size; rw [hWz.out] at this; exact this
      go_wp2_with (at_builtin; refine wpList_append_own _ rfl _ _ 22 rfl (w.heap.size + 1) 5 i0 (.int .u8 0) 1 1 Try.underlying22 hi hz0 hz1 hz2 rfl (by decide) _ _ _ rfl (N1.out.alloc _) ⟨wr.heap.size, 0, none⟩ 1 1 [.int .u8 ((pk p2 p3 p4 k : Nat) : Int)] rfl rfl ?x1 ?x2 ?x3 ?x4 ?x5 ?_)
      case x1 => exact cell_one_at _ _ _ _ (by simp)
      case x2 => intro u hu; simp at hu; subst hu; rfl
      case x3 => rw [len1.out]; unfold maxLen; omega
      case x4 => rw [len1.out]; omega
      case x5 => simp; omega
      intro v' w3 hown' hgrow _
      obtain ⟨L2, hL2⟩ : ∃ L2, Hid (L1 ++ [((pk p2 p3 p4 k : Nat) : Int)] = L2) := ⟨_, rfl⟩
      have N2 : Hid (Own w3 (w.heap.size + 1) v' L2) := by unfold Hid; rw [← hL2.out]; exact own_snoc rfl rfl hown'
      have len2 : Hid (L2.length = ML H n (pk C G D) k + 1) := by unfold Hid; rw [← hL2.out, List.length_append, len1.out]; rfl
      have B3 : Hid (Below (w.heap.size + 1) WP w3) := bel_own (B1.out.alloc (by simp; omega) _) (N1.out.alloc _) (Nat.le_refl _) (by simp; omega) hgrow
      have hsz3 : w.heap.size + 1 ≤ w3.heap.size := by have := B3.out.size; rw [hWz.out] at this; exact this
      have rd3 : Hid (Rd w3 (pk a2 a3 a4 k) (pk C G D k) (pk c2 c3 c4 k)) := rd_below (rd_below (pk_rd r2.out r3.out r4.out k) hWb.out (Nat.le_refl _)) B3.out (by rw [hWz.out]; exact Nat.le_refl _)
      clear hown' hgrow N1 B1 cp s1 s2 hO hb
      go_wp2_with (at_builtin; refine wpList_append_rd w3 rfl (.tmp 82) (.tmp 83) 22 rfl Try.underlying22 (w.heap.size + 1) v' L2 rfl N2.out (pk a2 a3 a4 k) (pk p2 p3 p4 k) (pk c2 c3 c4 k) (pk C G D k) rfl (pk_len l2.out l3.out l4.out k) rd3.out (by rw [len2.out]; omega) hsz3 ?_)
      intro v4 w4 hown4 hgrow4
      have N4 : Hid (Own w4 (w.heap.size + 1) v4 (MM H n (pk C G D) (k + 1))) := by
        unfold Hid
        rw [MM, l1.out, pk_len l2.out l3.out l4.out k]
        show Own w4 (w.heap.size + 1) v4 (((MM H n (pk C G D) k).set (h1 + k) ((ML H n (pk C G D) k : Int) - ((h1 : Int) + (k : Int))) ++ [((pk p2 p3 p4 k : Nat) : Int)]) ++ pk C G D k)
        rw [hL1.out, hL2.out]; exact hown4
      have B4 : Hid (Below (w.heap.size + 1) WP w4) := bel_own B3.out N2.out (Nat.le_refl _) hsz3 hgrow4
      obtain ⟨g4, cap4, hv4, _, hg4, _⟩ := own_form N4.out rfl (by show 0 < ML H n (pk C G D) (k + 1); rw [ML_succ]; omega)
      subst hv4
      clear hown4 hgrow4 N2 B3 rd3
      go_wp2
      go_roundw
      case rel => exact ⟨k + 1, g4, cap4, by omega, by go_num, rfl, hg4, N4, B4⟩
      case measure => simp [intOf]; omega
    · obtain rfl : k = 3 := by omega
      have Bz : Hid (Below w.heap.size w wr) := hWb.out.trans (hb.out.mono (Nat.le_succ _))
      obtain ⟨_, _, _, e3⟩ := ml_of (n := n) l1.out l2.out l3.out l4.out
      have m1 : h1 + n + 3 ≤ ML H n (pk C G D) 3 := by omega
      have m2 : ML H n (pk C G D) 3 ≤ h1 + n + 3 + p2 + p3 + p4 := by omega
      clear e3
      rcases X.out with ⟨hx, hn'⟩ | ⟨hx, hn'⟩
      · subst hx hn'
        by_cases h50 : 0 < h5
        · have b6 := B6.out rfl h50
          have s1 := own_cell rfl hO.out (h1 + 3) (by show _ < ML H 4 (pk C G D) 3; omega)
          have s2 := own_free rfl hO.out (h1 + 3)
          generalize hY : (MM H 4 (pk C G D) 3).getD (h1 + 3) 0 = Y at s1
          have HY : Hid ((MM H 4 (pk C G D) 3).getD (h1 + 3) 0 = Y) := hY
          clear hY
          obtain ⟨L1, hL1⟩ : ∃ L1, Hid ((MM H 4 (pk C G D) 3).set (h1 + 3) ((ML H 4 (pk C G D) 3 : Int) - ((h1 : Int) + 3)) = L1) := ⟨_, rfl⟩
          have N1 : Hid (Own (wr.setCell ⟨g, h1 + 3, none⟩ (.int .u8 ((ML H 4 (pk C G D) 3 : Int) - ((h1 : Int) + 3)))) (w.heap.size + 1) (.slice (some ⟨g, 0, none⟩) (ML H 4 (pk C G D) 3) cap) L1) := by
            unfold Hid; rw [← hL1.out]; exact own_set rfl hO.out (h1 + 3) _
          have len1 : Hid (L1.length = ML H 4 (pk C G D) 3) := by unfold Hid; rw [← hL1.out, List.length_set]; rfl
          have B1 : Hid (Below (w.heap.size + 1) WP (wr.setCell ⟨g, h1 + 3, none⟩ (.int .u8 ((ML H 4 (pk C G D) 3 : Int) - ((h1 : Int) + 3))))) := hb.out.setCell (p := ⟨g, h1 + 3, none⟩) hg _
          have rd5 : Hid (Rd (wr.setCell ⟨g, h1 + 3, none⟩ (.int .u8 ((ML H 4 (pk C G D) 3 : Int) - ((h1 : Int) + 3)))) a5 O c5) := rd_below (rd_below r5.out hWb.out (Nat.le_refl _)) B1.out (by rw [hWz.out]; exact Nat.le_refl _)
          have hsz : w.heap.size + 1 ≤ wr.heap.size := by have := hb.out.size; rw [hWz.out] at this; exact this
          clear hO hb
          go_wp2_with (at_builtin; refine wpList_append_rd _ rfl (.tmp 105) (.tmp 106) 22 rfl Try.underlying22 (w.heap.size + 1) _ L1 rfl N1.out a5 h5 c5 O rfl l5.out rd5.out (by rw [len1.out]; omega) (by simp; omega) ?_)
          intro v4 w4 hown4 hgrow4
          have M : Hid (msg H 4 (pk C G D) O = L1 ++ O) := by
            unfold Hid msg; rw [if_pos ⟨rfl, by rw [l5.out]; exact h50⟩, l1.out, hL1.out]
          have N4 : Hid (Own w4 (w.heap.size + 1) v4 (msg H 4 (pk C G D) O)) := by unfold Hid; rw [M.out]; exact hown4
          have B4 : Hid (Below (w.heap.size + 1) WP w4) := bel_own B1.out N1.out (Nat.le_refl _) (by simp; omega) hgrow4
          clear hown4 hgrow4 N1 B1 rd5 s1 s2
          go_wp2
          go_ret
          exact ⟨_, rfl, N4.out, hWb.out.trans (B4.out.mono (Nat.le_succ _))⟩
        · have M : Hid (msg H 4 (pk C G D) O = MM H 4 (pk C G D) 3) := by
            unfold Hid msg; rw [if_neg (by rw [l5.out]; exact fun hx => h50 hx.2)]
          clear m1 m2
          go_wp2
          go_ret
          exact ⟨_, rfl, by rw [M.out]; exact hO.out, Bz.out⟩
      · subst hx hn'
        have M : Hid (msg H 3 (pk C G D) O = MM H 3 (pk C G D) 3) := by
          unfold Hid msg; rw [if_neg (fun hx => absurd hx.1 (by decide))]
        clear m1 m2
        go_wp2
        go_ret
        exact ⟨_, rfl, by rw [M.out]; exact hO.out, Bz.out⟩

end Go.Proofs.Qxb6000450a
