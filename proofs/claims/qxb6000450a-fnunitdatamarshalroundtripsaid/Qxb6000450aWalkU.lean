/-
  SEAT b6000450a: the walk of '(*Unitdata).Marshal' (14).
-/
import Derived.Test.Qxb6000450aWalkM
import Derived.Deep.RegionHeld3
namespace Go.Proofs.Qxb6000450a
open Go.RowKit
open Pl

theorem own_mono {w : World} {base base' : Nat} {v : Value} {l : List Int} (h : Own w base v l) (hb : base' ≤ base) : Own w base' v l := by
  unfold Own at h ⊢
  refine ⟨h.1, ?_⟩
  rcases h.2 with h2 | ⟨g, cap, cur, h1, h2, h3⟩
  · exact Or.inl h2
  · exact Or.inr ⟨g, cap, cur, h1, Nat.le_trans hb h2, h3⟩

theorem rd_drew {w : World} {a : Option Addr} {l : List Int} {c : Nat} (h : Rd w a l c) : Rd w.drew a l c := h

theorem rd_new2 (w : World) (x y : Int) : Rd (w.alloc (Obj.cells #[.int .u8 x, .int .u8 y] 5)) (some ⟨w.heap.size, 0, none⟩) [x, y] 2 := by
  refine Or.inr ⟨w.heap.size, 0, rfl, Nat.le_refl _, by simp, fun j hj => ?_⟩
  match j, hj with
  | 0, _ => simp
  | 1, _ => simp

theorem rd_new3 (w : World) (x y z : Int) : Rd (w.alloc (Obj.cells #[.int .u8 x, .int .u8 y, .int .u8 z] 5)) (some ⟨w.heap.size, 0, none⟩) [x, y, z] 3 := by
  refine Or.inr ⟨w.heap.size, 0, rfl, Nat.le_refl _, by simp, fun j hj => ?_⟩
  match j, hj with
  | 0, _ => simp
  | 1, _ => simp
  | 2, _ => simp

set_option maxHeartbeats 1000000 in
set_option maxRecDepth 100000 in
theorem um_plain0 (b : Nat) (cl hp : Int) (a2 a3 a4 a5 : Option Addr) (p2 p3 p4 h5 c2 c3 c4 c5 : Nat) (C G D O : List Int) (w : World)
    (l2 : Hid (C.length = p2)) (l3 : Hid (G.length = p3)) (l4 : Hid (D.length = p4)) (l5 : Hid (O.length = h5))
    (b2 : 3 + p2 + p3 ≤ 255) (b4 : p4 ≤ 255) (b5 : h5 ≤ 65536) 
    (r2 : Hid (Rd w a2 C c2)) (r3 : Hid (Rd w a3 G c3)) (r4 : Hid (Rd w a4 D c4)) (r5 : Hid (Rd w a5 O c5)) (hb : b < w.heap.size)
    (f0 : w.cell? ⟨b, 0, none⟩ = some (.bool false)) (f1 : w.cell? ⟨b, 1, none⟩ = some (.int .u8 cl)) (f2 : w.cell? ⟨b, 2, none⟩ = some (.bool false)) (_f3 : w.cell? ⟨b, 3, none⟩ = some (.int .u8 hp))
    (f4 : w.cell? ⟨b, 4, none⟩ = some (.slice a2 p2 c2)) (f5 : w.cell? ⟨b, 5, none⟩ = some (.slice a3 p3 c3)) (f6 : w.cell? ⟨b, 6, none⟩ = some (.slice a4 p4 c4)) (f7 : w.cell? ⟨b, 7, none⟩ = some (.slice a5 h5 c5)) :
    Calls Try.prog 14 #[.pointer (some ⟨b, 0, none⟩)] w fun e w' =>
      ∃ v : Value, e = .returned v ∧ Own w' 0 v (msg [9, cl] 3 (pk C G D) O) ∧ Below w.heap.size w w' := by
  have W1 : Hid (Below w.heap.size w (w.alloc (Obj.cells #[.int .u8 9, .int .u8 cl] 5))) := (Below.refl _ _).alloc (Nat.le_refl _) _
  have K : Hid (Calls Try.prog 20 #[.bool false, .slice (some ⟨w.heap.size, 0, none⟩) 2 2, .slice a2 p2 c2, .slice a3 p3 c3, .slice a4 p4 c4, .slice a5 h5 c5] (w.alloc (Obj.cells #[.int .u8 9, .int .u8 cl] 5)).drew fun e w' =>
      ∃ v : Value, e = .returned v ∧ Hid (Own w' 0 v (msg [9, cl] 3 (pk C G D) O)) ∧ Hid (Below w.heap.size w w') ∧ w'.cell? ⟨b, 0, none⟩ = some (.bool false) ∧ w'.cell? ⟨b, 4, none⟩ = some (.slice a2 p2 c2) ∧ w'.cell? ⟨b, 5, none⟩ = some (.slice a3 p3 c3) ∧ w'.cell? ⟨b, 6, none⟩ = some (.slice a4 p4 c4) ∧ w'.cell? ⟨b, 7, none⟩ = some (.slice a5 h5 c5)) := by
    have hr1 : Rd (w.alloc (Obj.cells #[.int .u8 9, .int .u8 cl] 5)) (some ⟨w.heap.size, 0, none⟩) [9, cl] 2 := by
      have := rd_new2 w 9 cl
      simpa using this
    refine (marshal_calls false (some ⟨w.heap.size, 0, none⟩) a2 a3 a4 a5 3 2 p2 p3 p4 h5 2 c2 c3 c4 c5 [9, cl] C G D O _ (Or.inr ⟨rfl, rfl⟩) rfl l2 l3 l4 l5 (by decide) b2 b4 b5 (fun h => absurd h (by decide))
      (rd_drew hr1) (rd_drew (rd_below r2.out W1.out (Nat.le_refl _))) (rd_drew (rd_below r3.out W1.out (Nat.le_refl _))) (rd_drew (rd_below r4.out W1.out (Nat.le_refl _))) (rd_drew (rd_below r5.out W1.out (Nat.le_refl _)))).mono ?_
    rintro e w' ⟨v, rfl, h1, h2⟩
    have hB : Below w.heap.size w w' := W1.out.drew.trans (h2.mono (by simp; try omega))
    exact ⟨v, rfl, own_mono h1 (Nat.zero_le _), hB, (hB.cell (p := ⟨b, 0, none⟩) hb).trans f0, (hB.cell (p := ⟨b, 4, none⟩) hb).trans f4, (hB.cell (p := ⟨b, 5, none⟩) hb).trans f5, (hB.cell (p := ⟨b, 6, none⟩) hb).trans f6, (hB.cell (p := ⟨b, 7, none⟩) hb).trans f7⟩
  have hne : b ≠ w.heap.size := by omega
  have hne1 : b ≠ w.heap.size + 1 := by omega
  clear r2 r3 r4 r5 l2 l3 l4 l5 b2 b4 b5 W1 
  go_enter Try.func14, Try.ntmps14
  go_wp2
  go_region_held3 (fun w' => w'.cell? ⟨b, 0, none⟩ = some (.bool false) ∧ w'.cell? ⟨b, 4, none⟩ = some (.slice a2 p2 c2) ∧ w'.cell? ⟨b, 5, none⟩ = some (.slice a3 p3 c3) ∧ w'.cell? ⟨b, 6, none⟩ = some (.slice a4 p4 c4) ∧ w'.cell? ⟨b, 7, none⟩ = some (.slice a5 h5 c5)) (go_keep)
    ((go_at_call 20; refine K.out.mono ?_; rintro e w' ⟨v, rfl, hO, hB, g0, g4, g5, g6, g7⟩))
  all_goals go_wp2
  all_goals go_ret
  all_goals exact ⟨_, rfl, hO.out, hB.out⟩

set_option maxHeartbeats 1000000 in
set_option maxRecDepth 100000 in
theorem um_plain1 (b : Nat) (cl hp : Int) (a2 a3 a4 a5 : Option Addr) (p2 p3 p4 h5 c2 c3 c4 c5 : Nat) (C G D O : List Int) (w : World)
    (l2 : Hid (C.length = p2)) (l3 : Hid (G.length = p3)) (l4 : Hid (D.length = p4)) (l5 : Hid (O.length = h5))
    (b2 : 3 + p2 + p3 ≤ 255) (b4 : p4 ≤ 255) (b5 : h5 ≤ 65536) 
    (r2 : Hid (Rd w a2 C c2)) (r3 : Hid (Rd w a3 G c3)) (r4 : Hid (Rd w a4 D c4)) (r5 : Hid (Rd w a5 O c5)) (hb : b < w.heap.size)
    (f0 : w.cell? ⟨b, 0, none⟩ = some (.bool false)) (f1 : w.cell? ⟨b, 1, none⟩ = some (.int .u8 cl)) (f2 : w.cell? ⟨b, 2, none⟩ = some (.bool true)) (_f3 : w.cell? ⟨b, 3, none⟩ = some (.int .u8 hp))
    (f4 : w.cell? ⟨b, 4, none⟩ = some (.slice a2 p2 c2)) (f5 : w.cell? ⟨b, 5, none⟩ = some (.slice a3 p3 c3)) (f6 : w.cell? ⟨b, 6, none⟩ = some (.slice a4 p4 c4)) (f7 : w.cell? ⟨b, 7, none⟩ = some (.slice a5 h5 c5)) :
    Calls Try.prog 14 #[.pointer (some ⟨b, 0, none⟩)] w fun e w' =>
      ∃ v : Value, e = .returned v ∧ Own w' 0 v (msg [9, (bits BinOp.or IntKind.u8 cl 128)] 3 (pk C G D) O) ∧ Below w.heap.size w w' := by
  have W1 : Hid (Below w.heap.size w (w.alloc (Obj.cells #[.int .u8 9, .int .u8 (bits BinOp.or IntKind.u8 cl 128)] 5))) := (Below.refl _ _).alloc (Nat.le_refl _) _
  have K : Hid (Calls Try.prog 20 #[.bool false, .slice (some ⟨w.heap.size, 0, none⟩) 2 2, .slice a2 p2 c2, .slice a3 p3 c3, .slice a4 p4 c4, .slice a5 h5 c5] (w.alloc (Obj.cells #[.int .u8 9, .int .u8 (bits BinOp.or IntKind.u8 cl 128)] 5)).drew fun e w' =>
      ∃ v : Value, e = .returned v ∧ Hid (Own w' 0 v (msg [9, (bits BinOp.or IntKind.u8 cl 128)] 3 (pk C G D) O)) ∧ Hid (Below w.heap.size w w') ∧ w'.cell? ⟨b, 0, none⟩ = some (.bool false) ∧ w'.cell? ⟨b, 4, none⟩ = some (.slice a2 p2 c2) ∧ w'.cell? ⟨b, 5, none⟩ = some (.slice a3 p3 c3) ∧ w'.cell? ⟨b, 6, none⟩ = some (.slice a4 p4 c4) ∧ w'.cell? ⟨b, 7, none⟩ = some (.slice a5 h5 c5)) := by
    have hr1 : Rd (w.alloc (Obj.cells #[.int .u8 9, .int .u8 (bits BinOp.or IntKind.u8 cl 128)] 5)) (some ⟨w.heap.size, 0, none⟩) [9, (bits BinOp.or IntKind.u8 cl 128)] 2 := by
      have := rd_new2 w 9 (bits BinOp.or IntKind.u8 cl 128)
      simpa using this
    refine (marshal_calls false (some ⟨w.heap.size, 0, none⟩) a2 a3 a4 a5 3 2 p2 p3 p4 h5 2 c2 c3 c4 c5 [9, (bits BinOp.or IntKind.u8 cl 128)] C G D O _ (Or.inr ⟨rfl, rfl⟩) rfl l2 l3 l4 l5 (by decide) b2 b4 b5 (fun h => absurd h (by decide))
      (rd_drew hr1) (rd_drew (rd_below r2.out W1.out (Nat.le_refl _))) (rd_drew (rd_below r3.out W1.out (Nat.le_refl _))) (rd_drew (rd_below r4.out W1.out (Nat.le_refl _))) (rd_drew (rd_below r5.out W1.out (Nat.le_refl _)))).mono ?_
    rintro e w' ⟨v, rfl, h1, h2⟩
    have hB : Below w.heap.size w w' := W1.out.drew.trans (h2.mono (by simp; try omega))
    exact ⟨v, rfl, own_mono h1 (Nat.zero_le _), hB, (hB.cell (p := ⟨b, 0, none⟩) hb).trans f0, (hB.cell (p := ⟨b, 4, none⟩) hb).trans f4, (hB.cell (p := ⟨b, 5, none⟩) hb).trans f5, (hB.cell (p := ⟨b, 6, none⟩) hb).trans f6, (hB.cell (p := ⟨b, 7, none⟩) hb).trans f7⟩
  have hne : b ≠ w.heap.size := by omega
  have hne1 : b ≠ w.heap.size + 1 := by omega
  clear r2 r3 r4 r5 l2 l3 l4 l5 b2 b4 b5 W1 
  go_enter Try.func14, Try.ntmps14
  go_wp2
  go_region_held3 (fun w' => w'.cell? ⟨b, 0, none⟩ = some (.bool false) ∧ w'.cell? ⟨b, 4, none⟩ = some (.slice a2 p2 c2) ∧ w'.cell? ⟨b, 5, none⟩ = some (.slice a3 p3 c3) ∧ w'.cell? ⟨b, 6, none⟩ = some (.slice a4 p4 c4) ∧ w'.cell? ⟨b, 7, none⟩ = some (.slice a5 h5 c5)) (go_keep)
    ((go_at_call 20; refine K.out.mono ?_; rintro e w' ⟨v, rfl, hO, hB, g0, g4, g5, g6, g7⟩))
  all_goals go_wp2
  all_goals go_ret
  all_goals exact ⟨_, rfl, hO.out, hB.out⟩

set_option maxHeartbeats 1000000 in
set_option maxRecDepth 100000 in
theorem um_ext0 (b : Nat) (cl hp : Int) (a2 a3 a4 a5 : Option Addr) (p2 p3 p4 h5 c2 c3 c4 c5 : Nat) (C G D O : List Int) (w : World)
    (l2 : Hid (C.length = p2)) (l3 : Hid (G.length = p3)) (l4 : Hid (D.length = p4)) (l5 : Hid (O.length = h5))
    (b2 : 4 + p2 + p3 ≤ 255) (b4 : p4 ≤ 255) (b5 : h5 ≤ 65536) (b6 : 0 < h5 → 4 + p2 + p3 + p4 ≤ 255)
    (r2 : Hid (Rd w a2 C c2)) (r3 : Hid (Rd w a3 G c3)) (r4 : Hid (Rd w a4 D c4)) (r5 : Hid (Rd w a5 O c5)) (hb : b < w.heap.size)
    (f0 : w.cell? ⟨b, 0, none⟩ = some (.bool true)) (f1 : w.cell? ⟨b, 1, none⟩ = some (.int .u8 cl)) (f2 : w.cell? ⟨b, 2, none⟩ = some (.bool false)) (f3 : w.cell? ⟨b, 3, none⟩ = some (.int .u8 hp))
    (f4 : w.cell? ⟨b, 4, none⟩ = some (.slice a2 p2 c2)) (f5 : w.cell? ⟨b, 5, none⟩ = some (.slice a3 p3 c3)) (f6 : w.cell? ⟨b, 6, none⟩ = some (.slice a4 p4 c4)) (f7 : w.cell? ⟨b, 7, none⟩ = some (.slice a5 h5 c5)) :
    Calls Try.prog 14 #[.pointer (some ⟨b, 0, none⟩)] w fun e w' =>
      ∃ v : Value, e = .returned v ∧ Own w' 0 v (msg [17, cl, hp] 4 (pk C G D) O) ∧ Below w.heap.size w w' := by
  have W1 : Hid (Below w.heap.size w ((w.alloc (Obj.cells #[.int .u8 9, .int .u8 cl] 5)).alloc (Obj.cells #[.int .u8 17, .int .u8 cl, .int .u8 hp] 5))) := ((Below.refl _ _).alloc (Nat.le_refl _) _).alloc (by simp) _
  have K : Hid (Calls Try.prog 20 #[.bool true, .slice (some ⟨w.heap.size + 1, 0, none⟩) 3 3, .slice a2 p2 c2, .slice a3 p3 c3, .slice a4 p4 c4, .slice a5 h5 c5] ((w.alloc (Obj.cells #[.int .u8 9, .int .u8 cl] 5)).alloc (Obj.cells #[.int .u8 17, .int .u8 cl, .int .u8 hp] 5)).drew fun e w' =>
      ∃ v : Value, e = .returned v ∧ Hid (Own w' 0 v (msg [17, cl, hp] 4 (pk C G D) O)) ∧ Hid (Below w.heap.size w w') ∧ w'.cell? ⟨b, 0, none⟩ = some (.bool true) ∧ w'.cell? ⟨b, 4, none⟩ = some (.slice a2 p2 c2) ∧ w'.cell? ⟨b, 5, none⟩ = some (.slice a3 p3 c3) ∧ w'.cell? ⟨b, 6, none⟩ = some (.slice a4 p4 c4) ∧ w'.cell? ⟨b, 7, none⟩ = some (.slice a5 h5 c5)) := by
    have hr1 : Rd ((w.alloc (Obj.cells #[.int .u8 9, .int .u8 cl] 5)).alloc (Obj.cells #[.int .u8 17, .int .u8 cl, .int .u8 hp] 5)) (some ⟨w.heap.size + 1, 0, none⟩) [17, cl, hp] 3 := by
      have := rd_new3 (w.alloc (Obj.cells #[.int .u8 9, .int .u8 cl] 5)) 17 cl hp
      simpa using this
    refine (marshal_calls true (some ⟨w.heap.size + 1, 0, none⟩) a2 a3 a4 a5 4 3 p2 p3 p4 h5 3 c2 c3 c4 c5 [17, cl, hp] C G D O _ (Or.inl ⟨rfl, rfl⟩) rfl l2 l3 l4 l5 (by decide) b2 b4 b5 (fun _ => b6)
      (rd_drew hr1) (rd_drew (rd_below r2.out W1.out (Nat.le_refl _))) (rd_drew (rd_below r3.out W1.out (Nat.le_refl _))) (rd_drew (rd_below r4.out W1.out (Nat.le_refl _))) (rd_drew (rd_below r5.out W1.out (Nat.le_refl _)))).mono ?_
    rintro e w' ⟨v, rfl, h1, h2⟩
    have hB : Below w.heap.size w w' := W1.out.drew.trans (h2.mono (by simp; try omega))
    exact ⟨v, rfl, own_mono h1 (Nat.zero_le _), hB, (hB.cell (p := ⟨b, 0, none⟩) hb).trans f0, (hB.cell (p := ⟨b, 4, none⟩) hb).trans f4, (hB.cell (p := ⟨b, 5, none⟩) hb).trans f5, (hB.cell (p := ⟨b, 6, none⟩) hb).trans f6, (hB.cell (p := ⟨b, 7, none⟩) hb).trans f7⟩
  have hne : b ≠ w.heap.size := by omega
  have hne1 : b ≠ w.heap.size + 1 := by omega
  clear r2 r3 r4 r5 l2 l3 l4 l5 b2 b4 b5 W1 b6
  go_enter Try.func14, Try.ntmps14
  go_wp2
  go_region_held3 (fun w' => w'.cell? ⟨b, 0, none⟩ = some (.bool true) ∧ w'.cell? ⟨b, 4, none⟩ = some (.slice a2 p2 c2) ∧ w'.cell? ⟨b, 5, none⟩ = some (.slice a3 p3 c3) ∧ w'.cell? ⟨b, 6, none⟩ = some (.slice a4 p4 c4) ∧ w'.cell? ⟨b, 7, none⟩ = some (.slice a5 h5 c5)) (go_keep)
    ((go_at_call 20; refine K.out.mono ?_; rintro e w' ⟨v, rfl, hO, hB, g0, g4, g5, g6, g7⟩))
  all_goals go_wp2
  all_goals go_ret
  all_goals exact ⟨_, rfl, hO.out, hB.out⟩

set_option maxHeartbeats 1000000 in
set_option maxRecDepth 100000 in
theorem um_ext1 (b : Nat) (cl hp : Int) (a2 a3 a4 a5 : Option Addr) (p2 p3 p4 h5 c2 c3 c4 c5 : Nat) (C G D O : List Int) (w : World)
    (l2 : Hid (C.length = p2)) (l3 : Hid (G.length = p3)) (l4 : Hid (D.length = p4)) (l5 : Hid (O.length = h5))
    (b2 : 4 + p2 + p3 ≤ 255) (b4 : p4 ≤ 255) (b5 : h5 ≤ 65536) (b6 : 0 < h5 → 4 + p2 + p3 + p4 ≤ 255)
    (r2 : Hid (Rd w a2 C c2)) (r3 : Hid (Rd w a3 G c3)) (r4 : Hid (Rd w a4 D c4)) (r5 : Hid (Rd w a5 O c5)) (hb : b < w.heap.size)
    (f0 : w.cell? ⟨b, 0, none⟩ = some (.bool true)) (f1 : w.cell? ⟨b, 1, none⟩ = some (.int .u8 cl)) (f2 : w.cell? ⟨b, 2, none⟩ = some (.bool true)) (f3 : w.cell? ⟨b, 3, none⟩ = some (.int .u8 hp))
    (f4 : w.cell? ⟨b, 4, none⟩ = some (.slice a2 p2 c2)) (f5 : w.cell? ⟨b, 5, none⟩ = some (.slice a3 p3 c3)) (f6 : w.cell? ⟨b, 6, none⟩ = some (.slice a4 p4 c4)) (f7 : w.cell? ⟨b, 7, none⟩ = some (.slice a5 h5 c5)) :
    Calls Try.prog 14 #[.pointer (some ⟨b, 0, none⟩)] w fun e w' =>
      ∃ v : Value, e = .returned v ∧ Own w' 0 v (msg [17, (bits BinOp.or IntKind.u8 cl 128), hp] 4 (pk C G D) O) ∧ Below w.heap.size w w' := by
  have W1 : Hid (Below w.heap.size w ((w.alloc (Obj.cells #[.int .u8 9, .int .u8 (bits BinOp.or IntKind.u8 cl 128)] 5)).alloc (Obj.cells #[.int .u8 17, .int .u8 (bits BinOp.or IntKind.u8 cl 128), .int .u8 hp] 5))) := ((Below.refl _ _).alloc (Nat.le_refl _) _).alloc (by simp) _
  have K : Hid (Calls Try.prog 20 #[.bool true, .slice (some ⟨w.heap.size + 1, 0, none⟩) 3 3, .slice a2 p2 c2, .slice a3 p3 c3, .slice a4 p4 c4, .slice a5 h5 c5] ((w.alloc (Obj.cells #[.int .u8 9, .int .u8 (bits BinOp.or IntKind.u8 cl 128)] 5)).alloc (Obj.cells #[.int .u8 17, .int .u8 (bits BinOp.or IntKind.u8 cl 128), .int .u8 hp] 5)).drew fun e w' =>
      ∃ v : Value, e = .returned v ∧ Hid (Own w' 0 v (msg [17, (bits BinOp.or IntKind.u8 cl 128), hp] 4 (pk C G D) O)) ∧ Hid (Below w.heap.size w w') ∧ w'.cell? ⟨b, 0, none⟩ = some (.bool true) ∧ w'.cell? ⟨b, 4, none⟩ = some (.slice a2 p2 c2) ∧ w'.cell? ⟨b, 5, none⟩ = some (.slice a3 p3 c3) ∧ w'.cell? ⟨b, 6, none⟩ = some (.slice a4 p4 c4) ∧ w'.cell? ⟨b, 7, none⟩ = some (.slice a5 h5 c5)) := by
    have hr1 : Rd ((w.alloc (Obj.cells #[.int .u8 9, .int .u8 (bits BinOp.or IntKind.u8 cl 128)] 5)).alloc (Obj.cells #[.int .u8 17, .int .u8 (bits BinOp.or IntKind.u8 cl 128), .int .u8 hp] 5)) (some ⟨w.heap.size + 1, 0, none⟩) [17, (bits BinOp.or IntKind.u8 cl 128), hp] 3 := by
      have := rd_new3 (w.alloc (Obj.cells #[.int .u8 9, .int .u8 (bits BinOp.or IntKind.u8 cl 128)] 5)) 17 (bits BinOp.or IntKind.u8 cl 128) hp
      simpa using this
    refine (marshal_calls true (some ⟨w.heap.size + 1, 0, none⟩) a2 a3 a4 a5 4 3 p2 p3 p4 h5 3 c2 c3 c4 c5 [17, (bits BinOp.or IntKind.u8 cl 128), hp] C G D O _ (Or.inl ⟨rfl, rfl⟩) rfl l2 l3 l4 l5 (by decide) b2 b4 b5 (fun _ => b6)
      (rd_drew hr1) (rd_drew (rd_below r2.out W1.out (Nat.le_refl _))) (rd_drew (rd_below r3.out W1.out (Nat.le_refl _))) (rd_drew (rd_below r4.out W1.out (Nat.le_refl _))) (rd_drew (rd_below r5.out W1.out (Nat.le_refl _)))).mono ?_
    rintro e w' ⟨v, rfl, h1, h2⟩
    have hB : Below w.heap.size w w' := W1.out.drew.trans (h2.mono (by simp; try omega))
    exact ⟨v, rfl, own_mono h1 (Nat.zero_le _), hB, (hB.cell (p := ⟨b, 0, none⟩) hb).trans f0, (hB.cell (p := ⟨b, 4, none⟩) hb).trans f4, (hB.cell (p := ⟨b, 5, none⟩) hb).trans f5, (hB.cell (p := ⟨b, 6, none⟩) hb).trans f6, (hB.cell (p := ⟨b, 7, none⟩) hb).trans f7⟩
  have hne : b ≠ w.heap.size := by omega
  have hne1 : b ≠ w.heap.size + 1 := by omega
  clear r2 r3 r4 r5 l2 l3 l4 l5 b2 b4 b5 W1 b6
  go_enter Try.func14, Try.ntmps14
  go_wp2
  go_region_held3 (fun w' => w'.cell? ⟨b, 0, none⟩ = some (.bool true) ∧ w'.cell? ⟨b, 4, none⟩ = some (.slice a2 p2 c2) ∧ w'.cell? ⟨b, 5, none⟩ = some (.slice a3 p3 c3) ∧ w'.cell? ⟨b, 6, none⟩ = some (.slice a4 p4 c4) ∧ w'.cell? ⟨b, 7, none⟩ = some (.slice a5 h5 c5)) (go_keep)
    ((go_at_call 20; refine K.out.mono ?_; rintro e w' ⟨v, rfl, hO, hB, g0, g4, g5, g6, g7⟩))
  all_goals go_wp2
  all_goals go_ret
  all_goals exact ⟨_, rfl, hO.out, hB.out⟩

end Go.Proofs.Qxb6000450a
