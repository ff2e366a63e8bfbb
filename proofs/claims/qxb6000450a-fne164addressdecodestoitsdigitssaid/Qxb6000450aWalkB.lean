/-
  SEAT b6000450a: the walk of 'decodeE164' (18) over what 'E164Address' lays for digits.
-/
import Derived.Test.Qxb6000450aWalkA
import Derived.Test.Qxb6000450aDig
namespace Go.Proofs.Qxb6000450a
open Go.RowKit
open Pl

theorem own_made {w : World} {base : Nat} {v : Value} (h : w.ownsRow base 5 1 v 0 []) (s : ByteArray) : Own w base v (dgs s 0) := by
  rw [dgs_zero]; exact h

theorem own_drewN {w : World} {base : Nat} {v : Value} {l : List Int} (h : Own w base v l) (n : Nat) : Own (w.drewN n) base v l := by
  induction n with
  | zero => exact h
  | succ n ih => exact ih

theorem bel_drewN {B : Nat} {a w : World} (h : Below B a w) (n : Nat) : Below B a (w.drewN n) := by
  induction n with
  | zero => exact h
  | succ n ih => exact ih.drew

set_option maxHeartbeats 2000000 in
theorem decode_calls (s : ByteArray) (q c : Int) (g cap m : Nat) (w : World) (hpar : (c = 17 ∧ s.size + 1 = 2 * m) ∨ (c = 18 ∧ s.size = 2 * m)) (hm3 : m ≤ 65536) (hcap : 5 + m ≤ cap)
    (hdg : Hid (∀ j, j < s.size → 48 ≤ bt s j ∧ bt s j ≤ 57)) (hg : g < w.heap.size)
    (c0 : w.cell? ⟨g, 0, none⟩ = some (.int .u8 18)) (c1 : w.cell? ⟨g, 1, none⟩ = some (.int .u8 q)) (c2 : w.cell? ⟨g, 2, none⟩ = some (.int .u8 0)) (c3 : w.cell? ⟨g, 3, none⟩ = some (.int .u8 c)) (c4 : w.cell? ⟨g, 4, none⟩ = some (.int .u8 4))
    (cb : Hid (∀ j, j < m → w.cell? ⟨g, 5 + j, none⟩ = some (.int .u8 (oct s j)))) :
    Calls Try.prog 18 #[.slice (some ⟨g, 0, none⟩) (5 + m) cap] w fun e w' => ∃ v, e = .returned (.tuple #[.bool true, .int .u8 q, v]) ∧ Own w' w.heap.size v (sb s s.size) ∧ Below w.heap.size w w' := by
  obtain ⟨i0, hi, hz0, hz1, hz2⟩ := info_parts Try.info5
  have h55 : decide ((5 : Int) + (m : Int) < 5) = false := by simp; omega
  rcases hpar with ⟨rfl, hm⟩ | ⟨rfl, hm⟩
  · obtain ⟨a9, ha, ea, ho⟩ := oct_one (s := s) (k := m - 1) (by omega) hdg.out
    have c5 := cb.out (m - 1) (by omega)
    rw [ho] at c5
    have hm1 : s.size + 1 ≤ 2 * m := by omega
    have hm2 : 2 * m ≤ s.size + 1 := by omega
    have hm0 : ((m : Int) == 0) = false := by rw [beq_eq_false_iff_ne]; omega
    have ha0 : ((a9 : Int) / 16 != 0) = false := by
      have : (a9 : Int) / 16 = 0 := by omega
      rw [this]; rfl
    clear hm ho ea
    go_enter Try.func18, Try.ntmps18
    go_wp2_with (at_make; refine wpList_make_own _ rfl _ _ 22 rfl w.heap.size 5 i0 (.int .u8 0) 1 Try.underlying22 hi hz0 hz1 _ _ _ (2 * m) rfl rfl (by omega) (by rw [hz2]; omega) (by unfold maxLen; omega) (Nat.le_refl _) ?_; intro w1 hown hgrow)
    clear c5 ha0 ha
    go_loopw [7, 8] (fun v i wr => ∃ k : Nat, k ≤ m ∧ i = .int .i64 (k : Int) ∧ Hid (Own wr w.heap.size v (dgs s k)) ∧ Hid (Below w.heap.size w wr)) (fun _ i _ => m - (intOf i).toNat)
    case atStart => exact ⟨0, Nat.zero_le _, rfl, own_made hown s, (Below.refl _ _).grown hgrow (Nat.le_refl _) (fun k hk => by cases hk)⟩
    case round =>
      clear hown hgrow
      obtain ⟨k, hk, rfl, hO, hb⟩ := hrel
      have hsz : w.heap.size ≤ wr.heap.size := hb.out.size
      have hln := dgs_length s k
      have d1 : wr.cell? ⟨g, 1, none⟩ = some (.int .u8 q) := (hb.out.cell hg).trans c1
      by_cases hkm : k < m
      · have hc := cb.out k hkm
        have hc' : wr.cell? ⟨g, 5 + k, none⟩ = some (.int .u8 (oct s k)) := (hb.out.cell hg).trans hc
        clear hc
        by_cases h2 : 2 * k + 1 < s.size
        · obtain ⟨a, b, ha, hb9, ea, eb, eo⟩ := oct_two h2 hdg.out
          rw [eo] at hc'
          have hand := and_dig ha hb9
          have hshr : ((a : Int) + 16 * (b : Int)) / 16 = (b : Int) := by omega
          have EA : Hid (48 + (a : Int) = (bt s (2 * k) : Int)) := by unfold Hid; omega
          have EB : Hid (48 + (b : Int) = (bt s (2 * k + 1) : Int)) := by unfold Hid; omega
          clear ea eb eo
          go_wp2_with (at_builtin; refine wpList_append_own _ rfl _ _ 22 rfl w.heap.size 5 i0 (.int .u8 0) 1 1 Try.underlying22 hi hz0 hz1 hz2 rfl (by decide) _ _ _ rfl (hO.out.alloc _) ⟨wr.heap.size, 0, none⟩ 1 1 [.int .u8 (48 + (a : Int))] rfl rfl ?c1 ?c2 ?c3 ?c4 ?c5 ?_)
          case c1 => exact cell_one_new _ _ _
          case c2 => intro u hu; simp at hu; subst hu; rfl
          case c3 => unfold maxLen; omega
          case c4 => omega
          case c5 => simp; omega
          intro v' w1 hown' hgrow _
          have N : Hid (Own w1 w.heap.size v' (dgs s k ++ [(bt s (2 * k) : Int)])) := by
            unfold Hid
            rw [← EA.out]
            exact own_snoc rfl rfl hown'
          have B : Hid (Below w.heap.size w w1) := bel_own (hb.out.alloc (by omega) _) (hO.out.alloc _) (Nat.le_refl _) (by simp; omega) hgrow
          have hsz1 : w.heap.size ≤ w1.heap.size := B.out.size
          have hln1 : Hid ((dgs s k ++ [(bt s (2 * k) : Int)]).length ≤ 2 * k + 1) := by unfold Hid; rw [List.length_append]; simp; omega
          clear hown' hgrow hO hb hc' d1
          go_wp2_with (at_builtin; refine wpList_append_own _ rfl _ _ 22 rfl w.heap.size 5 i0 (.int .u8 0) 1 1 Try.underlying22 hi hz0 hz1 hz2 rfl (by decide) _ _ _ rfl (N.out.alloc _) ⟨w1.heap.size, 0, none⟩ 1 1 [.int .u8 (48 + (b : Int))] rfl rfl ?c1 ?c2 ?c3 ?c4 ?c5 ?_)
          case c1 => exact cell_one_new _ _ _
          case c2 => intro u hu; simp at hu; subst hu; rfl
          case c3 => have := hln1.out; unfold maxLen; omega
          case c4 => have := hln1.out; omega
          case c5 => simp; omega
          intro v2 w2 hown2 hgrow2 _
          have N2 : Hid (Own w2 w.heap.size v2 (dgs s (k + 1))) := by
            unfold Hid
            rw [dgs_two h2, ← EB.out]
            exact own_snoc (by simp) (by simp) hown2
          have B2 : Hid (Below w.heap.size w w2) := bel_own (B.out.alloc (by omega) _) (N.out.alloc _) (Nat.le_refl _) (by simp; omega) hgrow2
          clear hown2 hgrow2
          go_wp2
          go_roundw
          case rel => exact ⟨k + 1, by omega, by go_num, N2, B2⟩
          case measure => simp [intOf]; omega
        · obtain ⟨a, ha, ea, eo⟩ := oct_one (s := s) (k := k) (by omega) hdg.out
          rw [eo] at hc'
          have hand : bits BinOp.and IntKind.u8 (a : Int) 15 = (a : Int) := by have := and_dig (a := a) (b := 0) ha (by omega); simpa using this
          have hshr : (a : Int) / 16 = 0 := by omega
          have EA : Hid (48 + (a : Int) = (bt s (2 * k) : Int)) := by unfold Hid; omega
          clear ea eo
          go_wp2_with (at_builtin; refine wpList_append_own _ rfl _ _ 22 rfl w.heap.size 5 i0 (.int .u8 0) 1 1 Try.underlying22 hi hz0 hz1 hz2 rfl (by decide) _ _ _ rfl (hO.out.alloc _) ⟨wr.heap.size, 0, none⟩ 1 1 [.int .u8 (48 + (a : Int))] rfl rfl ?c1 ?c2 ?c3 ?c4 ?c5 ?_)
          case c1 => exact cell_one_new _ _ _
          case c2 => intro u hu; simp at hu; subst hu; rfl
          case c3 => unfold maxLen; omega
          case c4 => omega
          case c5 => simp; omega
          intro v' w1 hown' hgrow _
          have N : Hid (Own w1 w.heap.size v' (dgs s (k + 1))) := by
            unfold Hid
            rw [dgs_one (by omega), ← EA.out]
            exact own_snoc rfl rfl hown'
          have B : Hid (Below w.heap.size w w1) := bel_own (hb.out.alloc (by omega) _) (hO.out.alloc _) (Nat.le_refl _) (by simp; omega) hgrow
          clear hown' hgrow hO hb hc' d1
          go_wp2
          go_roundw
          case rel => exact ⟨k + 1, by omega, by go_num, N, B⟩
          case measure => simp [intOf]; omega
      · have hkk : k = m := by omega
        have A : Hid (dgs s k = sb s s.size) := dgs_all (by omega)
        clear hkk hln
        go_wp2
        go_quiet (fail)
        go_wp2
        go_ret3
        exact ⟨_, rfl, by rw [← A.out]; exact own_drewN hO.out _, bel_drewN hb.out _⟩
  · have hm1 : s.size ≤ 2 * m := by omega
    have hm2 : 2 * m ≤ s.size := by omega
    clear hm
    by_cases hm0 : m = 0
    · subst hm0
      have A : Hid (dgs s 0 = sb s s.size) := dgs_all (by omega)
      go_enter Try.func18, Try.ntmps18
      go_wp2_with (at_make; refine wpList_make_own _ rfl _ _ 22 rfl w.heap.size 5 i0 (.int .u8 0) 1 Try.underlying22 hi hz0 hz1 _ _ _ 0 rfl rfl (by omega) (by rw [hz2]; omega) (by unfold maxLen; omega) (Nat.le_refl _) ?_; intro w1 hown hgrow)
      all_goals
        go_loopw [7, 8] (fun v i wr => i = .int .i64 0 ∧ Hid (Own wr w.heap.size v (dgs s 0)) ∧ Hid (Below w.heap.size w wr)) (fun _ _ _ => 0)
        case atStart => exact ⟨rfl, own_made hown s, (Below.refl _ _).grown hgrow (Nat.le_refl _) (fun k hk => by cases hk)⟩
        case round =>
          clear hown hgrow
          obtain ⟨rfl, hO, hb⟩ := hrel
          have d1 : wr.cell? ⟨g, 1, none⟩ = some (.int .u8 q) := (hb.out.cell hg).trans c1
          go_wp2
          go_quiet (fail)
          go_wp2
          go_ret3
          exact ⟨_, rfl, by rw [← A.out]; exact own_drewN hO.out _, bel_drewN hb.out _⟩
    · have hcap5 : 5 < cap := by omega
      go_enter Try.func18, Try.ntmps18
      go_wp2_with (at_make; refine wpList_make_own _ rfl _ _ 22 rfl w.heap.size 5 i0 (.int .u8 0) 1 Try.underlying22 hi hz0 hz1 _ _ _ (2 * m) rfl rfl (by omega) (by rw [hz2]; omega) (by unfold maxLen; omega) (Nat.le_refl _) ?_; intro w1 hown hgrow)
      go_loopw [7, 8] (fun v i wr => ∃ k : Nat, k ≤ m ∧ i = .int .i64 (k : Int) ∧ Hid (Own wr w.heap.size v (dgs s k)) ∧ Hid (Below w.heap.size w wr)) (fun _ i _ => m - (intOf i).toNat)
      case atStart => exact ⟨0, Nat.zero_le _, rfl, own_made hown s, (Below.refl _ _).grown hgrow (Nat.le_refl _) (fun k hk => by cases hk)⟩
      case round =>
        clear hown hgrow
        obtain ⟨k, hk, rfl, hO, hb⟩ := hrel
        have hsz : w.heap.size ≤ wr.heap.size := hb.out.size
        have hln := dgs_length s k
        have d1 : wr.cell? ⟨g, 1, none⟩ = some (.int .u8 q) := (hb.out.cell hg).trans c1
        by_cases hkm : k < m
        · have hc := cb.out k hkm
          have hc' : wr.cell? ⟨g, 5 + k, none⟩ = some (.int .u8 (oct s k)) := (hb.out.cell hg).trans hc
          clear hc
          by_cases h2 : 2 * k + 1 < s.size
          · obtain ⟨a, b, ha, hb9, ea, eb, eo⟩ := oct_two h2 hdg.out
            rw [eo] at hc'
            have hand := and_dig ha hb9
            have hshr : ((a : Int) + 16 * (b : Int)) / 16 = (b : Int) := by omega
            have EA : Hid (48 + (a : Int) = (bt s (2 * k) : Int)) := by unfold Hid; omega
            have EB : Hid (48 + (b : Int) = (bt s (2 * k + 1) : Int)) := by unfold Hid; omega
            clear ea eb eo
            go_wp2_with (at_builtin; refine wpList_append_own _ rfl _ _ 22 rfl w.heap.size 5 i0 (.int .u8 0) 1 1 Try.underlying22 hi hz0 hz1 hz2 rfl (by decide) _ _ _ rfl (hO.out.alloc _) ⟨wr.heap.size, 0, none⟩ 1 1 [.int .u8 (48 + (a : Int))] rfl rfl ?c1 ?c2 ?c3 ?c4 ?c5 ?_)
            case c1 => exact cell_one_new _ _ _
            case c2 => intro u hu; simp at hu; subst hu; rfl
            case c3 => unfold maxLen; omega
            case c4 => omega
            case c5 => simp; omega
            intro v' w1 hown' hgrow _
            have N : Hid (Own w1 w.heap.size v' (dgs s k ++ [(bt s (2 * k) : Int)])) := by
              unfold Hid
              rw [← EA.out]
              exact own_snoc rfl rfl hown'
            have B : Hid (Below w.heap.size w w1) := bel_own (hb.out.alloc (by omega) _) (hO.out.alloc _) (Nat.le_refl _) (by simp; omega) hgrow
            have hsz1 : w.heap.size ≤ w1.heap.size := B.out.size
            have hln1 : Hid ((dgs s k ++ [(bt s (2 * k) : Int)]).length ≤ 2 * k + 1) := by unfold Hid; rw [List.length_append]; simp; omega
            clear hown' hgrow hO hb hc' d1
            go_wp2_with (at_builtin; refine wpList_append_own _ rfl _ _ 22 rfl w.heap.size 5 i0 (.int .u8 0) 1 1 Try.underlying22 hi hz0 hz1 hz2 rfl (by decide) _ _ _ rfl (N.out.alloc _) ⟨w1.heap.size, 0, none⟩ 1 1 [.int .u8 (48 + (b : Int))] rfl rfl ?c1 ?c2 ?c3 ?c4 ?c5 ?_)
            case c1 => exact cell_one_new _ _ _
            case c2 => intro u hu; simp at hu; subst hu; rfl
            case c3 => have := hln1.out; unfold maxLen; omega
            case c4 => have := hln1.out; omega
            case c5 => simp; omega
            intro v2 w2 hown2 hgrow2 _
            have N2 : Hid (Own w2 w.heap.size v2 (dgs s (k + 1))) := by
              unfold Hid
              rw [dgs_two h2, ← EB.out]
              exact own_snoc (by simp) (by simp) hown2
            have B2 : Hid (Below w.heap.size w w2) := bel_own (B.out.alloc (by omega) _) (N.out.alloc _) (Nat.le_refl _) (by simp; omega) hgrow2
            clear hown2 hgrow2
            go_wp2
            go_roundw
            case rel => exact ⟨k + 1, by omega, by go_num, N2, B2⟩
            case measure => simp [intOf]; omega
          · exfalso; omega
        · have hkk : k = m := by omega
          have A : Hid (dgs s k = sb s s.size) := dgs_all (by omega)
          clear hkk hln
          go_wp2
          go_quiet (fail)
          go_wp2
          go_ret3
          exact ⟨_, rfl, by rw [← A.out]; exact own_drewN hO.out _, bel_drewN hb.out _⟩

end Go.Proofs.Qxb6000450a
