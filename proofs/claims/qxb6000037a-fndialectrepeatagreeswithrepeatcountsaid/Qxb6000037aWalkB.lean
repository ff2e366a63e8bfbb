/-
  SEAT b6000037a: the walk of 'repeatCount' (16) and of 'ZZrepeatCount' (9).
-/
import Derived.Test.Qxb6000037aWalkA
import Derived.Deep.QuietTactic
import Derived.BigQuiet
namespace Go.Proofs.Qxb6000037a
open Go.RowKit
open Pl

theorem grown_trans {a b c : World} (h : Grown a b) (k : Grown b c) : Grown a c :=
  ⟨World.keptBut_trans h.1 k.1, fun x => (k.2.1 x).trans (h.2.1 x), Nat.le_trans h.2.2 k.2.2⟩

theorem grown_drewN {a b : World} (h : Grown a b) (n : Nat) : Grown a (b.drewN n) := by
  induction n with
  | zero => exact h
  | succ n ih => exact ih

/-- 'digits' in the words that its caller wants. -/
theorem digits_at (t : ByteArray) (fi : Int) (f b1 b2 e : Nat) (l0 b : Bool) (w : World) (ht : t.size ≤ 4194304) (hfi : fi = (f : Int)) (hf : f ≤ t.size + 1) (he : Hid (dEnd t f = e)) (hb : Hid (lz t f e = b)) (hne : b1 ≠ b2)
    (c1 : w.cell? ⟨b1, 0, none⟩ = some (.string t)) (c2 : w.cell? ⟨b2, 0, none⟩ = some (.bool l0)) (z2 : w.frozen? ⟨b2, 0, none⟩ = false) :
    Calls Try.prog 18 #[.int .i64 fi, .pointer (some ⟨b1, 0, none⟩), .pointer (some ⟨b2, 0, none⟩)] w fun e' w' =>
      e' = .returned (.int .i64 (e : Int)) ∧ w'.cell? ⟨b1, 0, none⟩ = some (.string t) ∧ w'.cell? ⟨b2, 0, none⟩ = some (.bool (l0 || b)) ∧ w'.frozen? ⟨b2, 0, none⟩ = false ∧ Hid (∀ W : World, Grown W w → W.heap.size ≤ b2 → Grown W w') := by
  subst hfi
  refine (digits_calls t f b1 b2 l0 w ht hf c1 c2 z2).mono ?_
  rintro e' w' ⟨rfl, rfl⟩
  rw [he.out, hb.out]
  cases b
  · rw [Bool.or_false]
    exact ⟨rfl, c1, c2, z2, fun W h _ => h⟩
  · rw [Bool.or_true]
    refine ⟨rfl, ?_, World.cell?_setCell_same _ _ _ c2, (World.frozen?_setCell _ _ _ _).trans z2, fun W h hb => h.setCell hb _⟩
    exact (World.cell?_setCell_other _ _ _ _ (fun hx => hne (by injection hx with hx _ _; exact hx.symm))).trans c1


theorem ret_two {n m : Int} {a b : Bool} (h : n = m) (k : a = b) : Ending.returned (.tuple #[.int .i64 n, .bool a]) = .returned (.tuple #[.int .i64 m, .bool b]) := by rw [h, k]

theorem laid_t (w : World) (t : ByteArray) : ((w.alloc (Obj.cells #[Value.string t] 9)).alloc (Obj.cells #[Value.bool false] 4)).cell? ⟨w.heap.size, 0, none⟩ = some (.string t) := by
  go_simp
theorem laid_z (w : World) (t : ByteArray) : ((w.alloc (Obj.cells #[Value.string t] 9)).alloc (Obj.cells #[Value.bool false] 4)).cell? ⟨w.heap.size + 1, 0, none⟩ = some (.bool false) := by
  go_simp
theorem laid_f (w : World) (t : ByteArray) : ((w.alloc (Obj.cells #[Value.string t] 9)).alloc (Obj.cells #[Value.bool false] 4)).frozen? ⟨w.heap.size + 1, 0, none⟩ = false := by
  go_simp
theorem laid_g (w : World) (t : ByteArray) : Grown w ((w.alloc (Obj.cells #[Value.string t] 9)).alloc (Obj.cells #[Value.bool false] 4)) :=
  ((Grown.refl w).alloc _ _).alloc _ _

set_option maxHeartbeats 1000000 in
theorem repeatCount_calls (t : ByteArray) (w : World) (ht : t.size ≤ 4194304) :
    Calls Try.prog 16 #[.string t] w fun e w' => e = .returned (.tuple #[.int .i64 (rc t).1, .bool (rc t).2]) ∧ Grown w w' := by
  generalize hR : rc t = r
  have R : Hid (rc t = r) := hR
  clear hR
  obtain ⟨e1, he1⟩ : ∃ e, Hid (dEnd t 1 = e) := ⟨_, rfl⟩
  obtain ⟨z1, hz1⟩ : ∃ b, Hid (lz t 1 e1 = b) := ⟨_, rfl⟩
  have g1 : 1 ≤ e1 := by have := dEnd_ge t 1; rw [he1.out] at this; exact this
  by_cases h1 : e1 = 1
  · have hr : Hid ((-1, false) = r) := by
      have : rc t = (-1, false) := by unfold rc; rw [if_pos (he1.out.trans h1)]
      rw [← R.out]; exact this.symm
    have h1' : ((e1 : Int) == 1) = true := by simp [h1]
    clear h1
    go_enter Try.func16, Try.ntmps16
    go_wp2_with fail
    refine (digits_at t 1 1 w.heap.size (w.heap.size + 1) e1 false z1 _ ht rfl (by omega) he1 hz1 (by omega) (laid_t w t) (laid_z w t) (laid_f w t)).mono ?_
    rintro e' w' ⟨rfl, d1, d2, d3, G⟩
    go_wp2
    go_ret2
    exact ⟨ret_two (congrArg Prod.fst hr.out) (congrArg Prod.snd hr.out), G.out _ (laid_g w t) (by omega)⟩
  · have h1g : 2 ≤ e1 := by omega
    have hls : e1 ≤ t.size := by have := (size_of_dEnd (t := t) (by rw [he1.out]; exact h1)).2; rw [he1.out] at this; exact this
    have H1 : Hid (¬ e1 = 1) := h1
    clear h1
    by_cases h2 : e1 < t.size ∧ bt t e1 = 44
    · obtain ⟨h2a, h2b⟩ := h2
      have h2b' : ((t[e1].toNat : Int) == 44) = true := by rw [bt_eq t e1 h2a, h2b]; rfl
      have H2 : Hid (e1 < t.size ∧ bt t e1 = 44) := ⟨h2a, h2b⟩
      clear h2b
      obtain ⟨e2, he2⟩ : ∃ e, Hid (dEnd t (e1 + 1) = e) := ⟨_, rfl⟩
      obtain ⟨z2, hz2⟩ : ∃ b, Hid (lz t (e1 + 1) e2 = b) := ⟨_, rfl⟩
      have g2 : e1 + 1 ≤ e2 := by have := dEnd_ge t (e1 + 1); rw [he2.out] at this; exact this
      have l2 : e2 ≤ t.size := by have := dEnd_le (t := t) (i := e1 + 1) (by omega); rw [he2.out] at this; exact this
      by_cases h3 : e2 = t.size ∨ bt t e2 ≠ 125
      · have hr : Hid ((-1, false) = r) := by
          have : rc t = (-1, false) := by unfold rc; rw [he1.out, if_neg H1.out, if_pos H2.out, he2.out, if_pos h3]
          rw [← R.out]; exact this.symm
        by_cases h4 : e2 < t.size
        · have h3' : ((t[e2].toNat : Int) != 125) = true := by
            have h5 : bt t e2 ≠ 125 := by
              rcases h3 with h3 | h3
              · omega
              · exact h3
            rw [bt_eq t e2 h4, bne_iff_ne]; omega
          clear h3
          go_enter Try.func16, Try.ntmps16
          go_wp2_with fail
          refine (digits_at t 1 1 w.heap.size (w.heap.size + 1) e1 false z1 _ ht rfl (by omega) he1 hz1 (by omega) (laid_t w t) (laid_z w t) (laid_f w t)).mono ?_
          rintro e' w' ⟨rfl, d1, d2, d3, G⟩
          go_wp2_with fail
          refine (digits_at t _ (e1 + 1) w.heap.size (w.heap.size + 1) e2 _ z2 _ ht (by omega) (by omega) he2 hz2 (by omega) d1 d2 d3).mono ?_
          rintro e'' w'' ⟨rfl, d4, d5, d6, G'⟩
          clear d1 d2 d3
          go_wp2
          go_ret2
          exact ⟨ret_two (congrArg Prod.fst hr.out) (congrArg Prod.snd hr.out), G'.out _ (G.out _ (laid_g w t) (by omega)) (by omega)⟩
        · clear h3
          go_enter Try.func16, Try.ntmps16
          go_wp2_with fail
          refine (digits_at t 1 1 w.heap.size (w.heap.size + 1) e1 false z1 _ ht rfl (by omega) he1 hz1 (by omega) (laid_t w t) (laid_z w t) (laid_f w t)).mono ?_
          rintro e' w' ⟨rfl, d1, d2, d3, G⟩
          go_wp2_with fail
          refine (digits_at t _ (e1 + 1) w.heap.size (w.heap.size + 1) e2 _ z2 _ ht (by omega) (by omega) he2 hz2 (by omega) d1 d2 d3).mono ?_
          rintro e'' w'' ⟨rfl, d4, d5, d6, G'⟩
          clear d1 d2 d3
          go_wp2
          go_ret2
          exact ⟨ret_two (congrArg Prod.fst hr.out) (congrArg Prod.snd hr.out), G'.out _ (G.out _ (laid_g w t) (by omega)) (by omega)⟩
      · have hr : Hid (((e2 : Int) + 1, z1 || z2) = r) := by
          have : rc t = ((e2 : Int) + 1, z1 || z2) := by unfold rc; rw [he1.out, if_neg H1.out, if_pos H2.out, he2.out, if_neg h3, hz1.out, hz2.out]
          rw [← R.out]; exact this.symm
        have h4 : e2 < t.size := by omega
        have h3' : ((t[e2].toNat : Int) != 125) = false := by
          have h5 : bt t e2 = 125 := Classical.byContradiction fun hn => h3 (Or.inr hn)
          rw [bt_eq t e2 h4, h5]; rfl
        clear h3
        go_enter Try.func16, Try.ntmps16
        go_wp2_with fail
        refine (digits_at t 1 1 w.heap.size (w.heap.size + 1) e1 false z1 _ ht rfl (by omega) he1 hz1 (by omega) (laid_t w t) (laid_z w t) (laid_f w t)).mono ?_
        rintro e' w' ⟨rfl, d1, d2, d3, G⟩
        go_wp2_with fail
        refine (digits_at t _ (e1 + 1) w.heap.size (w.heap.size + 1) e2 _ z2 _ ht (by omega) (by omega) he2 hz2 (by omega) d1 d2 d3).mono ?_
        rintro e'' w'' ⟨rfl, d4, d5, d6, G'⟩
        clear d1 d2 d3
        go_wp2
        go_quiet (fail)
        go_wp2
        go_ret2
        exact ⟨ret_two (congrArg Prod.fst hr.out) (congrArg Prod.snd hr.out), grown_drewN (G'.out _ (G.out _ (laid_g w t) (by omega)) (by omega)) _⟩
    · have h2n : ∀ h : e1 < t.size, ((t[e1].toNat : Int) == 44) = false := by
        intro h
        have : bt t e1 ≠ 44 := fun hx => h2 ⟨h, hx⟩
        rw [bt_eq t e1 h, beq_eq_false_iff_ne]; omega
      by_cases h3 : e1 = t.size ∨ bt t e1 ≠ 125
      · have hr : Hid ((-1, false) = r) := by
          have : rc t = (-1, false) := by unfold rc; rw [he1.out, if_neg H1.out, if_neg h2, if_pos h3]
          rw [← R.out]; exact this.symm
        by_cases h4 : e1 < t.size
        · have h3' : ((t[e1].toNat : Int) != 125) = true := by
            have h5 : bt t e1 ≠ 125 := by
              rcases h3 with h3 | h3
              · omega
              · exact h3
            rw [bt_eq t e1 h4, bne_iff_ne]; omega
          have h2' := h2n h4
          clear h3 h2 h2n
          go_enter Try.func16, Try.ntmps16
          go_wp2_with fail
          refine (digits_at t 1 1 w.heap.size (w.heap.size + 1) e1 false z1 _ ht rfl (by omega) he1 hz1 (by omega) (laid_t w t) (laid_z w t) (laid_f w t)).mono ?_
          rintro e' w' ⟨rfl, d1, d2, d3, G⟩
          go_wp2
          go_ret2
          exact ⟨ret_two (congrArg Prod.fst hr.out) (congrArg Prod.snd hr.out), G.out _ (laid_g w t) (by omega)⟩
        · clear h3 h2 h2n
          go_enter Try.func16, Try.ntmps16
          go_wp2_with fail
          refine (digits_at t 1 1 w.heap.size (w.heap.size + 1) e1 false z1 _ ht rfl (by omega) he1 hz1 (by omega) (laid_t w t) (laid_z w t) (laid_f w t)).mono ?_
          rintro e' w' ⟨rfl, d1, d2, d3, G⟩
          go_wp2
          go_ret2
          exact ⟨ret_two (congrArg Prod.fst hr.out) (congrArg Prod.snd hr.out), G.out _ (laid_g w t) (by omega)⟩
      · have hr : Hid (((e1 : Int) + 1, z1) = r) := by
          have : rc t = ((e1 : Int) + 1, z1) := by unfold rc; rw [he1.out, if_neg H1.out, if_neg h2, if_neg h3, hz1.out]
          rw [← R.out]; exact this.symm
        have h4 : e1 < t.size := by omega
        have h3' : ((t[e1].toNat : Int) != 125) = false := by
          have h5 : bt t e1 = 125 := Classical.byContradiction fun hn => h3 (Or.inr hn)
          rw [bt_eq t e1 h4, h5]; rfl
        have h2' := h2n h4
        clear h3 h2 h2n
        go_enter Try.func16, Try.ntmps16
        go_wp2_with fail
        refine (digits_at t 1 1 w.heap.size (w.heap.size + 1) e1 false z1 _ ht rfl (by omega) he1 hz1 (by omega) (laid_t w t) (laid_z w t) (laid_f w t)).mono ?_
        rintro e' w' ⟨rfl, d1, d2, d3, G⟩
        go_wp2
        go_quiet (fail)
        go_wp2
        go_ret2
        exact ⟨ret_two (congrArg Prod.fst hr.out) (congrArg Prod.snd hr.out), grown_drewN (G.out _ (laid_g w t) (by omega)) _⟩

theorem zzRepeatCount_calls (t : ByteArray) (w : World) (ht : t.size ≤ 4194304) :
    Calls Try.prog 9 #[.string t] w fun e w' => e = .returned (.tuple #[.int .i64 (rc t).1, .bool (rc t).2]) ∧ Grown w w' := by
  go_enter Try.func9, Try.ntmps9
  go_wp2_with fail
  refine (repeatCount_calls t _ ht).mono ?_
  rintro e w' ⟨rfl, G⟩
  go_wp2
  go_ret2
  exact ⟨rfl, G⟩

end Go.Proofs.Qxb6000037a
