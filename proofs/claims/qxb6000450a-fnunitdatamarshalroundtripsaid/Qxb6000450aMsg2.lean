/-
  SEAT b6000450a: the plain side of 'marshal': what stands where in the message.
-/
import Derived.Test.Qxb6000450aMsg
namespace Go.Proofs.Qxb6000450a.Pl

theorem getD_app1 (l m : List Int) (j : Nat) (h : j < l.length) : (l ++ m).getD j 0 = l.getD j 0 := by
  rw [List.getD_eq_getElem?_getD, List.getElem?_append_left h, List.getD_eq_getElem?_getD]
theorem getD_app2 (l m : List Int) (j i : Nat) (h : j = l.length + i) : (l ++ m).getD j 0 = m.getD i 0 := by
  subst h
  rw [List.getD_eq_getElem?_getD, List.getElem?_append_right (by omega), Nat.add_sub_cancel_left, List.getD_eq_getElem?_getD]
theorem getD_set_ne (l : List Int) (i j : Nat) (x : Int) (h : i ≠ j) : (l.set i x).getD j 0 = l.getD j 0 := by
  rw [List.getD_eq_getElem?_getD, List.getElem?_set_ne h, List.getD_eq_getElem?_getD]
theorem getD_set_eq (l : List Int) (i : Nat) (x : Int) (h : i < l.length) : (l.set i x).getD i 0 = x := by
  rw [List.getD_eq_getElem?_getD, List.getElem?_set_self h]; rfl

variable {H O : List Int} {n : Nat} {P : Nat → List Int}

theorem step_lt {k j : Nat} (h : j < ML H n P k) (hne : j ≠ H.length + k) : (MM H n P (k + 1)).getD j 0 = (MM H n P k).getD j 0 := by
  unfold ML at h
  rw [MM, getD_app1 _ _ _ (by simp; omega), getD_app1 _ _ _ (by simpa using h), getD_set_ne _ _ _ _ (by omega)]
theorem step_at {k : Nat} (h : H.length + k < ML H n P k) : (MM H n P (k + 1)).getD (H.length + k) 0 = (ML H n P k : Int) - ((H.length : Int) + (k : Int)) := by
  unfold ML at h
  rw [MM, getD_app1 _ _ _ (by simp; omega), getD_app1 _ _ _ (by simpa using h), getD_set_eq _ _ _ h]
  rfl
theorem step_len {k : Nat} : (MM H n P (k + 1)).getD (ML H n P k) 0 = ((P k).length : Int) := by
  rw [MM, getD_app1 _ _ _ (by simp [ML]), getD_app2 _ _ _ 0 (by simp [ML])]
  rfl
theorem step_part {k i : Nat} : (MM H n P (k + 1)).getD (ML H n P k + 1 + i) 0 = (P k).getD i 0 := by
  rw [MM, getD_app2 _ _ _ i (by simp [ML])]

theorem zero_head {j : Nat} (h : j < H.length) : (MM H n P 0).getD j 0 = H.getD j 0 := by
  rw [MM, getD_app1 _ _ _ h]
theorem zero_ptr {j : Nat} (h : j < n) : (MM H n P 0).getD (H.length + j) 0 = 0 := by
  rw [MM, getD_app2 _ _ _ j rfl, List.getD_eq_getElem?_getD]
  rw [List.getElem?_replicate, if_pos h]; rfl

/-- What a reader finds in the message. -/
structure Lay (f : Nat → Int) (h n p2 p3 p4 d1 d2 : Nat) (H C G D : List Int) : Prop where
  head : ∀ j, j < h → f j = H.getD j 0
  z0 : f h = (n : Int)
  z1 : f (h + 1) = (d1 : Int)
  z2 : f (h + 2) = (d2 : Int)
  y0 : f (h + n) = (p2 : Int)
  y1 : f (h + 1 + d1) = (p3 : Int)
  y2 : f (h + 2 + d2) = (p4 : Int)
  s2 : ∀ i, i < p2 → f (h + n + 1 + i) = C.getD i 0
  s3 : ∀ i, i < p3 → f (h + 1 + d1 + 1 + i) = G.getD i 0
  s4 : ∀ i, i < p4 → f (h + 2 + d2 + 1 + i) = D.getD i 0

theorem lay_MM {h p2 p3 p4 d1 d2 : Nat} (hn : 3 ≤ n) (l1 : H.length = h) (l2 : (P 0).length = p2) (l3 : (P 1).length = p3) (l4 : (P 2).length = p4) (e1 : d1 = n + p2) (e2 : d2 = n + p2 + p3) :
    Lay (fun j => (MM H n P 3).getD j 0) h n p2 p3 p4 d1 d2 H (P 0) (P 1) (P 2) := by
  subst l1
  have m0 : ML H n P 0 = H.length + n := ML_zero H n P
  have m1 : ML H n P 1 = ML H n P 0 + 1 + (P 0).length := ML_succ H n P 0
  have m2 : ML H n P 2 = ML H n P 1 + 1 + (P 1).length := ML_succ H n P 1
  have a3 : ∀ j, j < ML H n P 2 → j ≠ H.length + 2 → (MM H n P 3).getD j 0 = (MM H n P 2).getD j 0 := fun j x y => step_lt (k := 2) x y
  have a2 : ∀ j, j < ML H n P 1 → j ≠ H.length + 1 → (MM H n P 2).getD j 0 = (MM H n P 1).getD j 0 := fun j x y => step_lt (k := 1) x y
  have a1 : ∀ j, j < ML H n P 0 → j ≠ H.length → (MM H n P 1).getD j 0 = (MM H n P 0).getD j 0 := fun j x y => step_lt (k := 0) x y
  have b1 : (MM H n P 1).getD H.length 0 = (ML H n P 0 : Int) - ((H.length : Int) + ((0 : Nat) : Int)) := step_at (k := 0) (by omega)
  have b2 : (MM H n P 2).getD (H.length + 1) 0 = (ML H n P 1 : Int) - ((H.length : Int) + ((1 : Nat) : Int)) := step_at (k := 1) (by omega)
  have b3 : (MM H n P 3).getD (H.length + 2) 0 = (ML H n P 2 : Int) - ((H.length : Int) + ((2 : Nat) : Int)) := step_at (k := 2) (by omega)
  have c1 : (MM H n P 1).getD (ML H n P 0) 0 = ((P 0).length : Int) := step_len (k := 0)
  have c2 : (MM H n P 2).getD (ML H n P 1) 0 = ((P 1).length : Int) := step_len (k := 1)
  have c3 : (MM H n P 3).getD (ML H n P 2) 0 = ((P 2).length : Int) := step_len (k := 2)
  have q1 : ∀ i, (MM H n P 1).getD (ML H n P 0 + 1 + i) 0 = (P 0).getD i 0 := fun i => step_part (k := 0)
  have q2 : ∀ i, (MM H n P 2).getD (ML H n P 1 + 1 + i) 0 = (P 1).getD i 0 := fun i => step_part (k := 1)
  have q3 : ∀ i, (MM H n P 3).getD (ML H n P 2 + 1 + i) 0 = (P 2).getD i 0 := fun i => step_part (k := 2)
  have x1 : ML H n P 1 = H.length + 1 + d1 := by omega
  have x2 : ML H n P 2 = H.length + 2 + d2 := by omega
  refine ⟨fun j hj => ?_, ?_, ?_, ?_, ?_, ?_, ?_, fun i hi => ?_, fun i hi => ?_, fun i hi => ?_⟩
  · show (MM H n P 3).getD j 0 = _
    rw [a3 j (by omega) (by omega), a2 j (by omega) (by omega), a1 j (by omega) (by omega), zero_head hj]
  · show (MM H n P 3).getD H.length 0 = _
    rw [a3 _ (by omega) (by omega), a2 _ (by omega) (by omega), b1]; omega
  · show (MM H n P 3).getD (H.length + 1) 0 = _
    rw [a3 _ (by omega) (by omega), b2]; omega
  · show (MM H n P 3).getD (H.length + 2) 0 = _
    rw [b3]; omega
  · show (MM H n P 3).getD (H.length + n) 0 = _
    rw [a3 _ (by omega) (by omega), a2 _ (by omega) (by omega), ← m0, c1, l2]
  · show (MM H n P 3).getD (H.length + 1 + d1) 0 = _
    rw [a3 _ (by omega) (by omega), ← x1, c2, l3]
  · show (MM H n P 3).getD (H.length + 2 + d2) 0 = _
    rw [← x2, c3, l4]
  · show (MM H n P 3).getD (H.length + n + 1 + i) 0 = _
    rw [a3 _ (by omega) (by omega), a2 _ (by omega) (by omega), ← m0, q1]
  · show (MM H n P 3).getD (H.length + 1 + d1 + 1 + i) 0 = _
    rw [a3 _ (by omega) (by omega), ← x1, q2]
  · show (MM H n P 3).getD (H.length + 2 + d2 + 1 + i) 0 = _
    rw [← x2, q3]

/-- The fourth pointer of an extended message is 0 ahead of the optional part. -/
theorem ptr3_MM (hP : n = 4) : (MM H n P 3).getD (H.length + 3) 0 = 0 := by
  have m0 : ML H n P 0 = H.length + n := ML_zero H n P
  have m1 : ML H n P 1 = ML H n P 0 + 1 + (P 0).length := ML_succ H n P 0
  have m2 : ML H n P 2 = ML H n P 1 + 1 + (P 1).length := ML_succ H n P 1
  rw [step_lt (k := 2) (by omega) (by omega), step_lt (k := 1) (by omega) (by omega), step_lt (k := 0) (by omega) (by omega), zero_ptr (by omega)]

/-- The message without an optional part. -/
theorem msg_plain (h : ¬ (n = 4 ∧ 0 < O.length)) : msg H n P O = MM H n P 3 := if_neg h

theorem msg_opt (hn : n = 4) (h : 0 < O.length) : msg H n P O = (MM H n P 3).set (H.length + 3) ((ML H n P 3 : Int) - ((H.length : Int) + 3)) ++ O := if_pos ⟨hn, h⟩

theorem lay_opt {h p2 p3 p4 d1 d2 d3 : Nat} (hn : n = 4) (hO : 0 < O.length) (l1 : H.length = h) (l2 : (P 0).length = p2) (l3 : (P 1).length = p3) (l4 : (P 2).length = p4) (e1 : d1 = n + p2) (e2 : d2 = n + p2 + p3) (e3 : d3 = n + p2 + p3 + p4) :
    Lay (fun j => (msg H n P O).getD j 0) h n p2 p3 p4 d1 d2 H (P 0) (P 1) (P 2) ∧ (msg H n P O).getD (h + 3) 0 = (d3 : Int) ∧ (∀ i, (msg H n P O).getD (h + 2 + d2 + 1 + p4 + i) 0 = O.getD i 0) ∧ (msg H n P O).length = h + 2 + d2 + 1 + p4 + O.length := by
  have m0 : ML H n P 0 = H.length + n := ML_zero H n P
  have m1 : ML H n P 1 = ML H n P 0 + 1 + (P 0).length := ML_succ H n P 0
  have m2 : ML H n P 2 = ML H n P 1 + 1 + (P 1).length := ML_succ H n P 1
  have m3 : ML H n P 3 = ML H n P 2 + 1 + (P 2).length := ML_succ H n P 2
  have L := lay_MM (n := n) (P := P) (by omega) l1 l2 l3 l4 e1 e2
  subst l1
  have hl : ((MM H n P 3).set (H.length + 3) ((ML H n P 3 : Int) - ((H.length : Int) + 3))).length = ML H n P 3 := by simp [ML]
  have far : ∀ j, j < ML H n P 3 → j ≠ H.length + 3 → (msg H n P O).getD j 0 = (MM H n P 3).getD j 0 := fun j x y => by
    rw [msg_opt hn hO, getD_app1 _ _ _ (by omega), getD_set_ne _ _ _ _ (by omega)]
  refine ⟨⟨fun j hj => ?_, ?_, ?_, ?_, ?_, ?_, ?_, fun i hi => ?_, fun i hi => ?_, fun i hi => ?_⟩, ?_, fun i => ?_, ?_⟩
  · exact (far j (by omega) (by omega)).trans (L.head j hj)
  · exact (far _ (by omega) (by omega)).trans L.z0
  · exact (far _ (by omega) (by omega)).trans L.z1
  · exact (far _ (by omega) (by omega)).trans L.z2
  · exact (far _ (by omega) (by omega)).trans L.y0
  · exact (far _ (by omega) (by omega)).trans L.y1
  · exact (far _ (by omega) (by omega)).trans L.y2
  · exact (far _ (by omega) (by omega)).trans (L.s2 i hi)
  · exact (far _ (by omega) (by omega)).trans (L.s3 i hi)
  · exact (far _ (by omega) (by omega)).trans (L.s4 i hi)
  · rw [msg_opt hn hO, getD_app1 _ _ _ (by omega), getD_set_eq _ _ _ (by show _ < ML H n P 3; omega)]; omega
  · rw [msg_opt hn hO, getD_app2 _ _ _ i (by omega)]
  · rw [msg_opt hn hO, List.length_append]; omega

end Go.Proofs.Qxb6000450a.Pl
