/-
  SEAT b6000450a: the walk of the law 'FnUnitdataMarshalRoundTrip' (4).
-/
import Derived.Test.Qxb6000450aWalkF
import Derived.Test.Qxb6000450aWalkU
namespace Go.Proofs.Qxb6000450a.fnUnitdataMarshalRoundTrip
open Go.RowKit
open Pl

theorem zz_yes (x : Bool) (cl : Int) (ro : Bool) (hp : Int) (a2 a3 a4 a5 : Option Addr) (l2 l3 l4 l5 c2 c3 c4 c5 : Nat) (w : World) (h : l2 + l3 + l4 + l5 ≤ 1048576) :
    Calls Try.prog 13 #[.bool x, .int .u8 cl, .bool ro, .int .u8 hp, .slice a2 l2 c2, .slice a3 l3 c3, .slice a4 l4 c4, .slice a5 l5 c5] w fun e w' => e = .returned (.bool true) ∧ w = w' := by
  go_enter Try.func13, Try.ntmps13
  go_wp2
  go_ret
  exact ⟨rfl, rfl⟩

theorem zz_no (x : Bool) (cl : Int) (ro : Bool) (hp : Int) (a2 a3 a4 a5 : Option Addr) (l2 l3 l4 l5 c2 c3 c4 c5 : Nat) (w : World) (h : 1048576 < l2 + l3 + l4 + l5)
    (m2 : l2 ≤ 9223372036854775807) (m3 : l3 ≤ 9223372036854775807) (m4 : l4 ≤ 9223372036854775807) (m5 : l5 ≤ 9223372036854775807) :
    Calls Try.prog 13 #[.bool x, .int .u8 cl, .bool ro, .int .u8 hp, .slice a2 l2 c2, .slice a3 l3 c3, .slice a4 l4 c4, .slice a5 l5 c5] w fun e w' => e = .returned (.bool false) ∧ w = w' := by
  go_enter Try.func13, Try.ntmps13
  go_wp2
  all_goals (go_ret; exact ⟨rfl, rfl⟩)

/-! ### The octet of kind and flag -/
theorem k1 : ∀ c : Fin 128, bits BinOp.and IntKind.u8 (bits BinOp.or IntKind.u8 (c.val : Int) 128) 127 = (c.val : Int) := by decide +kernel
theorem k2 : ∀ c : Fin 128, (bits BinOp.and IntKind.u8 (bits BinOp.or IntKind.u8 (c.val : Int) 128) 128 != 0) = true := by decide +kernel
theorem k3 : ∀ c : Fin 128, bits BinOp.and IntKind.u8 (c.val : Int) 127 = (c.val : Int) := by decide +kernel
theorem k4 : ∀ c : Fin 128, (bits BinOp.and IntKind.u8 (c.val : Int) 128 != 0) = false := by decide +kernel
theorem k5 : ∀ c : Fin 256, 128 ≤ c.val → (bits BinOp.and IntKind.u8 (c.val : Int) 128 != 0) = true := by decide +kernel

/-- The octet that is sent for the kind and the flag. -/
def Oc (cl : Int) (ro : Bool) : Int := match ro with
  | true => bits BinOp.or IntKind.u8 cl 128
  | false => cl

theorem oc_facts {cl : Int} (ro : Bool) (h0 : 0 ≤ cl) (h1 : cl < 128) : bits BinOp.and IntKind.u8 (Oc cl ro) 127 = cl ∧ (bits BinOp.and IntKind.u8 (Oc cl ro) 128 != 0) = ro ∧ (bits BinOp.and IntKind.u8 cl 128 != 0) = false := by
  obtain ⟨c, rfl⟩ := Int.eq_ofNat_of_zero_le h0
  have hc : c < 128 := by omega
  cases ro
  · exact ⟨k3 ⟨c, hc⟩, k4 ⟨c, hc⟩, k4 ⟨c, hc⟩⟩
  · exact ⟨k1 ⟨c, hc⟩, k2 ⟨c, hc⟩, k4 ⟨c, hc⟩⟩

theorem high_cl {cl : Int} (h0 : 128 ≤ cl) (h1 : cl ≤ 255) : (bits BinOp.and IntKind.u8 cl 128 != 0) = true := by
  obtain ⟨c, rfl⟩ := Int.eq_ofNat_of_zero_le (show 0 ≤ cl by omega)
  exact k5 ⟨c, by omega⟩ (by show 128 ≤ c; omega)

/-! ### '(*Unitdata).Marshal', the flag a letter -/
theorem ump (ro : Bool) (cl hp : Int) (a2 a3 a4 a5 : Option Addr) (p2 p3 p4 h5 c2 c3 c4 c5 : Nat) (C G D O : List Int) (w : World)
    (l2 : C.length = p2) (l3 : G.length = p3) (l4 : D.length = p4) (l5 : O.length = h5)
    (b2 : 3 + p2 + p3 ≤ 255) (b4 : p4 ≤ 255) (b5 : h5 ≤ 65536) 
    (r2 : Rd w a2 C c2) (r3 : Rd w a3 G c3) (r4 : Rd w a4 D c4) (r5 : Rd w a5 O c5) :
    Calls Try.prog 14 #[.pointer (some ⟨w.heap.size, 0, none⟩)] (w.alloc (Obj.cells #[.bool false, .int .u8 cl, .bool ro, .int .u8 hp, .slice a2 p2 c2, .slice a3 p3 c3, .slice a4 p4 c4, .slice a5 h5 c5] 33)) fun e w' =>
      ∃ v : Value, e = .returned v ∧ Own w' 0 v (msg [9, Oc cl ro] 3 (pk C G D) O) ∧ Below w.heap.size w w' ∧ Rd w' a2 C c2 ∧ Rd w' a3 G c3 ∧ Rd w' a4 D c4 ∧ Rd w' a5 O c5 := by
  have W1 : Below w.heap.size w (w.alloc (Obj.cells #[.bool false, .int .u8 cl, .bool ro, .int .u8 hp, .slice a2 p2 c2, .slice a3 p3 c3, .slice a4 p4 c4, .slice a5 h5 c5] 33)) := (Below.refl _ _).alloc (Nat.le_refl _) _
  have fin : ∀ (e : Ending) (w' : World), (∃ v : Value, e = .returned v ∧ Own w' 0 v (msg [9, Oc cl ro] 3 (pk C G D) O) ∧ Below (w.alloc (Obj.cells #[.bool false, .int .u8 cl, .bool ro, .int .u8 hp, .slice a2 p2 c2, .slice a3 p3 c3, .slice a4 p4 c4, .slice a5 h5 c5] 33)).heap.size (w.alloc (Obj.cells #[.bool false, .int .u8 cl, .bool ro, .int .u8 hp, .slice a2 p2 c2, .slice a3 p3 c3, .slice a4 p4 c4, .slice a5 h5 c5] 33)) w') →
      ∃ v : Value, e = .returned v ∧ Own w' 0 v (msg [9, Oc cl ro] 3 (pk C G D) O) ∧ Below w.heap.size w w' ∧ Rd w' a2 C c2 ∧ Rd w' a3 G c3 ∧ Rd w' a4 D c4 ∧ Rd w' a5 O c5 := by
    rintro e w' ⟨v, rfl, h1, h2⟩
    have hB : Below w.heap.size w w' := W1.trans (h2.mono (by simp))
    exact ⟨v, rfl, h1, hB, rd_below r2 hB (Nat.le_refl _), rd_below r3 hB (Nat.le_refl _), rd_below r4 hB (Nat.le_refl _), rd_below r5 hB (Nat.le_refl _)⟩
  cases ro
  · exact (um_plain0 w.heap.size cl hp a2 a3 a4 a5 p2 p3 p4 h5 c2 c3 c4 c5 C G D O _ l2 l3 l4 l5 b2 b4 b5 (rd_below r2 W1 (Nat.le_refl _)) (rd_below r3 W1 (Nat.le_refl _)) (rd_below r4 W1 (Nat.le_refl _)) (rd_below r5 W1 (Nat.le_refl _)) (by simp)
      (by simp) (by simp) (by simp) (by simp) (by simp) (by simp) (by simp) (by simp)).mono fin
  · exact (um_plain1 w.heap.size cl hp a2 a3 a4 a5 p2 p3 p4 h5 c2 c3 c4 c5 C G D O _ l2 l3 l4 l5 b2 b4 b5 (rd_below r2 W1 (Nat.le_refl _)) (rd_below r3 W1 (Nat.le_refl _)) (rd_below r4 W1 (Nat.le_refl _)) (rd_below r5 W1 (Nat.le_refl _)) (by simp)
      (by simp) (by simp) (by simp) (by simp) (by simp) (by simp) (by simp) (by simp)).mono fin

theorem ume (ro : Bool) (cl hp : Int) (a2 a3 a4 a5 : Option Addr) (p2 p3 p4 h5 c2 c3 c4 c5 : Nat) (C G D O : List Int) (w : World)
    (l2 : C.length = p2) (l3 : G.length = p3) (l4 : D.length = p4) (l5 : O.length = h5)
    (b2 : 4 + p2 + p3 ≤ 255) (b4 : p4 ≤ 255) (b5 : h5 ≤ 65536) (b6 : 0 < h5 → 4 + p2 + p3 + p4 ≤ 255)
    (r2 : Rd w a2 C c2) (r3 : Rd w a3 G c3) (r4 : Rd w a4 D c4) (r5 : Rd w a5 O c5) :
    Calls Try.prog 14 #[.pointer (some ⟨w.heap.size, 0, none⟩)] (w.alloc (Obj.cells #[.bool true, .int .u8 cl, .bool ro, .int .u8 hp, .slice a2 p2 c2, .slice a3 p3 c3, .slice a4 p4 c4, .slice a5 h5 c5] 33)) fun e w' =>
      ∃ v : Value, e = .returned v ∧ Own w' 0 v (msg [17, Oc cl ro, hp] 4 (pk C G D) O) ∧ Below w.heap.size w w' ∧ Rd w' a2 C c2 ∧ Rd w' a3 G c3 ∧ Rd w' a4 D c4 ∧ Rd w' a5 O c5 := by
  have W1 : Below w.heap.size w (w.alloc (Obj.cells #[.bool true, .int .u8 cl, .bool ro, .int .u8 hp, .slice a2 p2 c2, .slice a3 p3 c3, .slice a4 p4 c4, .slice a5 h5 c5] 33)) := (Below.refl _ _).alloc (Nat.le_refl _) _
  have fin : ∀ (e : Ending) (w' : World), (∃ v : Value, e = .returned v ∧ Own w' 0 v (msg [17, Oc cl ro, hp] 4 (pk C G D) O) ∧ Below (w.alloc (Obj.cells #[.bool true, .int .u8 cl, .bool ro, .int .u8 hp, .slice a2 p2 c2, .slice a3 p3 c3, .slice a4 p4 c4, .slice a5 h5 c5] 33)).heap.size (w.alloc (Obj.cells #[.bool true, .int .u8 cl, .bool ro, .int .u8 hp, .slice a2 p2 c2, .slice a3 p3 c3, .slice a4 p4 c4, .slice a5 h5 c5] 33)) w') →
      ∃ v : Value, e = .returned v ∧ Own w' 0 v (msg [17, Oc cl ro, hp] 4 (pk C G D) O) ∧ Below w.heap.size w w' ∧ Rd w' a2 C c2 ∧ Rd w' a3 G c3 ∧ Rd w' a4 D c4 ∧ Rd w' a5 O c5 := by
    rintro e w' ⟨v, rfl, h1, h2⟩
    have hB : Below w.heap.size w w' := W1.trans (h2.mono (by simp))
    exact ⟨v, rfl, h1, hB, rd_below r2 hB (Nat.le_refl _), rd_below r3 hB (Nat.le_refl _), rd_below r4 hB (Nat.le_refl _), rd_below r5 hB (Nat.le_refl _)⟩
  cases ro
  · exact (um_ext0 w.heap.size cl hp a2 a3 a4 a5 p2 p3 p4 h5 c2 c3 c4 c5 C G D O _ l2 l3 l4 l5 b2 b4 b5 b6 (rd_below r2 W1 (Nat.le_refl _)) (rd_below r3 W1 (Nat.le_refl _)) (rd_below r4 W1 (Nat.le_refl _)) (rd_below r5 W1 (Nat.le_refl _)) (by simp)
      (by simp) (by simp) (by simp) (by simp) (by simp) (by simp) (by simp) (by simp)).mono fin
  · exact (um_ext1 w.heap.size cl hp a2 a3 a4 a5 p2 p3 p4 h5 c2 c3 c4 c5 C G D O _ l2 l3 l4 l5 b2 b4 b5 b6 (rd_below r2 W1 (Nat.le_refl _)) (rd_below r3 W1 (Nat.le_refl _)) (rd_below r4 W1 (Nat.le_refl _)) (rd_below r5 W1 (Nat.le_refl _)) (by simp)
      (by simp) (by simp) (by simp) (by simp) (by simp) (by simp) (by simp) (by simp)).mono fin

theorem msg_len {H C G D O : List Int} {n h1 p2 p3 p4 h5 N : Nat} (l1 : H.length = h1) (l2 : C.length = p2) (l3 : G.length = p3) (l4 : D.length = p4) (l5 : O.length = h5) (hN : (msg H n (pk C G D) O).length = N) :
    h1 + n ≤ N ∧ N ≤ h1 + n + 3 + p2 + p3 + p4 + h5 := by
  obtain ⟨_, _, _, e3⟩ := ml_of (n := n) l1 l2 l3 l4
  by_cases ho : n = 4 ∧ 0 < O.length
  · have t := (lay_opt (H := H) (P := pk C G D) (O := O) ho.1 ho.2 l1 l2 l3 l4 rfl rfl rfl).2.2.2
    omega
  · rw [msg_plain ho] at hN
    have : (MM H n (pk C G D) 3).length = ML H n (pk C G D) 3 := rfl
    omega

theorem head_cell {W : World} {base g cap : Nat} {H C G D O : List Int} {n h1 p2 p3 p4 N : Nat} (hn : 3 ≤ n) (l1 : H.length = h1) (l2 : C.length = p2) (l3 : G.length = p3) (l4 : D.length = p4) (hN : (msg H n (pk C G D) O).length = N) (hle : h1 ≤ N)
    (hown : Own W base (.slice (some ⟨g, 0, none⟩) N cap) (msg H n (pk C G D) O)) (j : Nat) (hj : j < h1) : W.cell? ⟨g, j, none⟩ = some (.int .u8 (H.getD j 0)) := by
  rw [own_cell hN hown j (by omega)]
  have : (msg H n (pk C G D) O).getD j 0 = H.getD j 0 := by
    by_cases ho : n = 4 ∧ 0 < O.length
    · exact (lay_opt (H := H) (P := pk C G D) (O := O) ho.1 ho.2 l1 l2 l3 l4 rfl rfl rfl).1.head j hj
    · rw [msg_plain ho]
      exact (lay_MM (H := H) (n := n) (P := pk C G D) hn l1 l2 l3 l4 rfl rfl).head j hj
  rw [this]

end Go.Proofs.Qxb6000450a.fnUnitdataMarshalRoundTrip
