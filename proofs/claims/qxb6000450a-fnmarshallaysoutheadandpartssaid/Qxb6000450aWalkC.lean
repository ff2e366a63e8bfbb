/-
  SEAT b6000450a: the walk of 'cloneBytes' (9).
-/
import Derived.Test.Qxb6000450aReads
namespace Go.Proofs.Qxb6000450a
open Go.RowKit
open Pl

theorem own_set {w : World} {base g n cap : Nat} {l : List Int} (hl : l.length = n) (h : Own w base (.slice (some ⟨g, 0, none⟩) n cap) l) (j : Nat) (x : Int) :
    Own (w.setCell ⟨g, j, none⟩ (.int .u8 x)) base (.slice (some ⟨g, 0, none⟩) n cap) (l.set j x) := by
  unfold Own at h ⊢
  rw [hl] at h
  rw [List.length_set, hl, List.map_set]
  exact (h.stored j (.int .u8 x)).1

theorem own_cell {w : World} {base g n cap : Nat} {l : List Int} (hl : l.length = n) (h : Own w base (.slice (some ⟨g, 0, none⟩) n cap) l) (j : Nat) (hj : j < n) :
    w.cell? ⟨g, j, none⟩ = some (.int .u8 (l.getD j 0)) := by
  unfold Own at h
  rw [hl] at h
  rw [h.cellAt j (by omega), List.getElem?_map, List.getElem?_eq_getElem (by omega), List.getD_eq_getElem?_getD, List.getElem?_eq_getElem (by omega)]; rfl

theorem own_free {w : World} {base g n cap : Nat} {l : List Int} (hl : l.length = n) (h : Own w base (.slice (some ⟨g, 0, none⟩) n cap) l) (j : Nat) :
    w.frozen? ⟨g, j, none⟩ = false := by
  unfold Own at h
  rw [hl] at h
  exact h.frozenAt j

/-- The clone behind k rounds. -/
def cl (l : List Int) (n k : Nat) : List Int := l.take k ++ List.replicate (n - k) 0
theorem cl_len {l : List Int} {n k : Nat} (hl : l.length = n) (hk : k ≤ n) : (cl l n k).length = n := by
  unfold cl; simp; omega
theorem cl_set {l : List Int} {n k : Nat} (hl : l.length = n) (hk : k < n) : (cl l n k).set k (l.getD k 0) = cl l n (k + 1) := by
  unfold cl
  have e : (l.take k).length = k := by simp; omega
  rw [List.set_append_right _ _ (by omega), e, Nat.sub_self, show n - k = (n - (k + 1)) + 1 from by omega, List.replicate_succ, List.set_cons_zero, List.take_succ_eq_append_getElem (i := k) (by omega), List.getD_eq_getElem?_getD, List.getElem?_eq_getElem (by omega), List.append_assoc]
  rfl

set_option maxHeartbeats 400000 in
theorem clone_nil (w : World) : Calls Try.prog 9 #[.slice none 0 0] w fun e w' => e = .returned (.slice none 0 0) ∧ w = w' := by
  have hq := fun (w : World) => Lib.run_eql_slice_nil (P := Try.prog) w 22 5 none 0 0 0 0 Try.underlying22
  go_enter Try.func9, Try.ntmps9
  go_wp2
  go_ret
  exact ⟨rfl, rfl⟩

set_option maxHeartbeats 400000 in
theorem clone_none (x : Addr) (c : Nat) (w : World) : Calls Try.prog 9 #[.slice (some x) 0 c] w fun e w' => ∃ g c' : Nat, e = .returned (.slice (some ⟨g, 0, none⟩) 0 c') ∧ g < w'.heap.size ∧ Below w.heap.size w w' := by
  have hq := fun (w : World) => Lib.run_eql_slice_nil (P := Try.prog) w 22 5 (some x) 0 c 0 0 Try.underlying22
  go_enter Try.func9, Try.ntmps9
  go_wp2_with (at_make; refine wpList_make_zero _ rfl _ _ rfl w.heap.size .i64 .i64 0 0 0 0 rfl rfl rfl rfl (Nat.le_refl _) (by decide) (Nat.le_refl _) ?_; intro w1 hown hgrow)
  go_loopw [4] (fun i wr => i = .int .i64 0 ∧ Hid (w.heap.size < wr.heap.size) ∧ Hid (Below w.heap.size w wr)) (fun _ _ => 0)
  case atStart => exact ⟨rfl, (hown.lt _ rfl).2, (Below.refl _ _).grown hgrow (Nat.le_refl _) (fun k hk => by cases hk)⟩
  case round =>
    clear hown hgrow
    obtain ⟨rfl, hz, hb⟩ := hrel
    go_wp2
    go_ret
    exact ⟨_, _, rfl, hz.out, hb.out⟩

set_option maxHeartbeats 400000 in
theorem clone_some (b o n c : Nat) (l : List Int) (w : World) (hl : Hid (l.length = n)) (hn : n ≤ 1048576) (hb0 : b < w.heap.size) (hc : Hid (∀ j, j < n → w.cell? ⟨b, o + j, none⟩ = some (.int .u8 (l.getD j 0)))) :
    Calls Try.prog 9 #[.slice (some ⟨b, o, none⟩) n c] w fun e w' => ∃ g c' : Nat, e = .returned (.slice (some ⟨g, 0, none⟩) n c') ∧ Own w' w.heap.size (.slice (some ⟨g, 0, none⟩) n c') l ∧ Below w.heap.size w w' := by
  have hq := fun (w : World) => Lib.run_eql_slice_nil (P := Try.prog) w 22 5 (some ⟨b, o, none⟩) n c 0 0 Try.underlying22
  go_enter Try.func9, Try.ntmps9
  go_wp2_with (at_make; refine wpList_make_zero _ rfl _ _ rfl w.heap.size .i64 .i64 _ _ n n rfl rfl rfl rfl (Nat.le_refl _) (by omega) (Nat.le_refl _) ?_; intro w1 hown hgrow)
  clear hq
  go_loopw [4] (fun i wr => ∃ k : Nat, k ≤ n ∧ i = .int .i64 (k : Int) ∧ Hid (Own wr w.heap.size (.slice (some ⟨w.heap.size, 0, none⟩) n n) (cl l n k)) ∧ Hid (Below w.heap.size w wr)) (fun i _ => n - (intOf i).toNat)
  case atStart => exact ⟨0, Nat.zero_le _, rfl, by unfold Hid cl; simpa using hown, (Below.refl _ _).grown hgrow (Nat.le_refl _) (fun k hk => by cases hk)⟩
  case round =>
    clear hown hgrow
    obtain ⟨k, hk, rfl, hO, hb⟩ := hrel
    by_cases hlt : k < n
    · have c1 : wr.cell? ⟨b, o + k, none⟩ = some (.int .u8 (l.getD k 0)) := (hb.out.cell (p := ⟨b, o + k, none⟩) hb0).trans (hc.out k hlt)
      have c2 := own_cell (cl_len hl.out hk) hO.out k hlt
      have c3 := own_free (cl_len hl.out hk) hO.out k
      have N : Hid (Own (wr.setCell ⟨w.heap.size, k, none⟩ (.int .u8 (l.getD k 0))) w.heap.size (.slice (some ⟨w.heap.size, 0, none⟩) n n) (cl l n (k + 1))) := by
        unfold Hid; rw [← cl_set hl.out hlt]; exact own_set (cl_len hl.out hk) hO.out k _
      have B : Hid (Below w.heap.size w (wr.setCell ⟨w.heap.size, k, none⟩ (.int .u8 (l.getD k 0)))) := hb.out.setCell (p := ⟨w.heap.size, k, none⟩) (Nat.le_refl _) _
      generalize hX : l.getD k 0 = X at c1 N B
      have HX : Hid (l.getD k 0 = X) := hX
      clear hX
      generalize hY : (cl l n k).getD k 0 = Y at c2
      have HY : Hid ((cl l n k).getD k 0 = Y) := hY
      clear hY
      go_wp2
      go_roundw
      case rel => exact ⟨k + 1, by omega, by go_num, N, B⟩
      case measure => simp [intOf]; omega
    · have hkn : k = n := by omega
      have A : Hid (cl l n k = l) := by unfold Hid cl; rw [hkn, List.take_of_length_le (by rw [hl.out]; exact Nat.le_refl _)]; simp
      clear hkn
      go_wp2
      go_ret
      exact ⟨_, _, rfl, by have := hO.out; rw [A.out] at this; exact this, hb.out⟩

/-- What is known of a slice of bytes that came in. -/
def In (w : World) (a : Option Addr) (l : List Int) (c : Nat) : Prop :=
  (a = none ∧ l = [] ∧ c = 0) ∨ ∃ x, a = some x ∧ (0 < l.length → ∃ b o : Nat, x = ⟨b, o, none⟩ ∧ b < w.heap.size ∧ ∀ j, j < l.length → w.cell? ⟨b, o + j, none⟩ = some (.int .u8 (l.getD j 0)))

theorem in_below {w w' : World} {B : Nat} {a : Option Addr} {l : List Int} {c : Nat} (h : In w a l c) (hb : Below B w w') (hB : w.heap.size ≤ B) : In w' a l c := by
  rcases h with h | ⟨x, h1, h2⟩
  · exact Or.inl h
  · refine Or.inr ⟨x, h1, fun h0 => ?_⟩
    obtain ⟨b, o, h3, h4, h5⟩ := h2 h0
    exact ⟨b, o, h3, Nat.lt_of_lt_of_le h4 hb.size, fun j hj => (hb.cell (p := ⟨b, o + j, none⟩) (Nat.lt_of_lt_of_le h4 hB)).trans (h5 j hj)⟩

/-- 'cloneBytes': a slice that reads the same. -/
theorem clone_calls (a : Option Addr) (n c : Nat) (l : List Int) (w : World) (hl : l.length = n) (hn : n ≤ 1048576) (h : In w a l c) :
    Calls Try.prog 9 #[.slice a n c] w fun e w' => ∃ (a' : Option Addr) (c' : Nat), e = .returned (.slice a' n c') ∧ Rd w' a' l c' ∧ Below w.heap.size w w' := by
  rcases h with ⟨rfl, rfl, rfl⟩ | ⟨x, rfl, h⟩
  · obtain rfl : n = 0 := hl.symm
    refine (clone_nil w).mono ?_
    rintro e w' ⟨rfl, rfl⟩
    exact ⟨none, 0, rfl, Or.inl ⟨rfl, rfl, rfl⟩, Below.refl _ _⟩
  · by_cases h0 : n = 0
    · subst h0
      obtain rfl : l = [] := List.eq_nil_of_length_eq_zero hl
      refine (clone_none x c w).mono ?_
      rintro e w' ⟨g, c', rfl, hg, hb⟩
      exact ⟨_, c', rfl, Or.inr ⟨g, 0, rfl, Nat.zero_le _, hg, fun j hj => by simp at hj⟩, hb⟩
    · obtain ⟨b, o, rfl, h1, h2⟩ := h (by omega)
      refine (clone_some b o n c l w hl hn h1 (by rw [← hl]; exact h2)).mono ?_
      rintro e w' ⟨g, c', rfl, hO, hb⟩
      exact ⟨_, c', rfl, own_rd hO hl, hb⟩

end Go.Proofs.Qxb6000450a
