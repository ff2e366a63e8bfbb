/-
  SEAT b6000037a: the walk of 'zzModelCount' (10).
-/
import Derived.Test.Qxb6000037aWalkB
import Derived.Test.Qxb6000037aModel
namespace Go.Proofs.Qxb6000037a
open Go.RowKit
open Pl

set_option maxHeartbeats 1000000 in
theorem model_calls (t : ByteArray) (w : World) (ht : t.size ≤ 4194304) :
    Calls Try.prog 10 #[.string t] w fun e w' => e = .returned (.tuple #[.int .i64 (rc t).1, .bool (rc t).2]) ∧ w = w' := by
  generalize hR : rc t = r
  have R : Hid (rc t = r) := hR
  clear hR
  go_enter Try.func10, Try.ntmps10
  go_wp2
  go_loop [4] (fun j => ∃ k : Nat, j = .int .i64 (k : Int) ∧ 1 ≤ k ∧ k ≤ t.size + 1 ∧ Hid (∀ x, 1 ≤ x → x < k → x < t.size ∧ bt t x ≠ 125)) (fun j => t.size + 1 - (intOf j).toNat)
  case atStart => exact ⟨1, rfl, Nat.le_refl _, by omega, fun x h1 h2 => absurd h2 (by omega)⟩
  case round =>
    obtain ⟨j, rfl, hj1, hj2, H⟩ := hrel
    by_cases hlt : j < t.size
    · have he := bt_eq t j hlt
      by_cases hd : bt t j = 125
      · have F : Hid (FB t j) := ⟨hj1, hlt, hd, fun x h1 h2 => (H.out x h1 h2).2⟩
        have hd' : ((t[j].toNat : Int) != 125) = false := by rw [he, hd]; rfl
        clear he H hd
        by_cases h1 : j = 1
        · have hr : Hid ((-1, false) = r) := by
            have := m_one (t := t) (by rw [← h1]; exact F.out)
            rw [← R.out]; exact this.symm
          have h1' : ((j : Int) == 1) = true := by simp [h1]
          clear h1
          go_wp2
          go_ret2
          exact ⟨ret_two (congrArg Prod.fst hr.out) (congrArg Prod.snd hr.out), rfl⟩
        · have h1g : 2 ≤ j := by omega
          have h1s : 1 < t.size := by omega
          have he1 := bt_eq t 1 h1s
          by_cases h44 : bt t 1 = 44
          · have hr : Hid ((-1, false) = r) := by
              have := m_comma F.out h44
              rw [← R.out]; exact this.symm
            have h44' : ((t[1].toNat : Int) == 44) = true := by rw [he1, h44]; rfl
            clear h1 he1 h44
            go_wp2
            go_ret2
            exact ⟨ret_two (congrArg Prod.fst hr.out) (congrArg Prod.snd hr.out), rfl⟩
          · have h44' : ((t[1].toNat : Int) == 44) = false := by rw [he1, beq_eq_false_iff_ne]; omega
            have H44 : Hid (bt t 1 ≠ 44) := h44
            have h1' : ((j : Int) == 1) = false := by rw [beq_eq_false_iff_ne]; omega
            clear h1 he1 h44
            go_wp2
            go_loop [5, 6] (fun c k => ∃ i : Nat, i + 1 ≤ j ∧ c = .int .i64 (cm t i : Int) ∧ k = .int .i64 ((i : Int) + 1) ∧ Hid (∀ x, 1 ≤ x → x < i + 1 → isD (bt t x) = true ∨ bt t x = 44)) (fun _ k => j + 1 - (intOf k).toNat)
            case atStart => exact ⟨0, by omega, rfl, rfl, fun x h1 h2 => absurd h2 (by omega)⟩
            case round =>
              obtain ⟨i, hi, rfl, rfl, H⟩ := hrel
              have hcl := cm_le t i
              by_cases hij : i + 1 < j
              · have his : i + 1 < t.size := by omega
                have he := bt_eq t (i + 1) his
                by_cases hb : bt t (i + 1) = 44
                · have hb' : ((t[i + 1].toNat : Int) == 44) = true := by rw [he, hb]; rfl
                  have C : Hid (cm t (i + 1) = cm t i + 1) := by simp only [Hid, cm]; rw [if_pos hb]
                  have H' : Hid (∀ x, 1 ≤ x → x < i + 1 + 1 → isD (bt t x) = true ∨ bt t x = 44) := by
                    intro x h1 h2
                    by_cases hx : x = i + 1
                    · subst hx; exact Or.inr hb
                    · exact H.out x h1 (by omega)
                  clear he H hb
                  go_wp2
                  go_round
                  case rel => exact ⟨i + 1, by omega, by rw [C.out]; go_num, by go_num, H'⟩
                  case measure => simp [intOf]; omega
                · have hb' : ((t[i + 1].toNat : Int) == 44) = false := by rw [he, beq_eq_false_iff_ne]; omega
                  by_cases hg : isD (bt t (i + 1)) = true
                  · have C : Hid (cm t (i + 1) = cm t i) := by simp only [Hid, cm]; rw [if_neg hb]; rfl
                    have H' : Hid (∀ x, 1 ≤ x → x < i + 1 + 1 → isD (bt t x) = true ∨ bt t x = 44) := by
                      intro x h1 h2
                      by_cases hx : x = i + 1
                      · subst hx; exact Or.inl hg
                      · exact H.out x h1 (by omega)
                    rw [← he, isD_iff] at hg
                    obtain ⟨hg1, hg2⟩ := hg
                    clear he H hb
                    go_wp2
                    go_round
                    case rel => exact ⟨i + 1, by omega, by rw [C.out], by go_num, H'⟩
                    case measure => simp [intOf]; omega
                  · have hg0 : isD (bt t (i + 1)) = false := by simpa using hg
                    have hr : Hid ((-1, false) = r) := by
                      have := m_bad F.out (x := i + 1) (by omega) hij hg0 hb
                      rw [← R.out]; exact this.symm
                    rw [← he, isD_not] at hg0
                    clear he H hb hg
                    by_cases hg1 : t[i + 1].toNat < 48
                    · clear hg0
                      go_wp2
                      go_ret2
                      exact ⟨ret_two (congrArg Prod.fst hr.out) (congrArg Prod.snd hr.out), rfl⟩
                    · have hg2 : 57 < t[i + 1].toNat := by omega
                      clear hg0
                      go_wp2
                      go_ret2
                      exact ⟨ret_two (congrArg Prod.fst hr.out) (congrArg Prod.snd hr.out), rfl⟩
              · by_cases hc : 2 ≤ cm t i
                · have hr : Hid ((-1, false) = r) := by
                    have := m_many F.out (by rw [show j - 1 = i from by omega]; exact hc)
                    rw [← R.out]; exact this.symm
                  clear H
                  go_wp2
                  go_ret2
                  exact ⟨ret_two (congrArg Prod.fst hr.out) (congrArg Prod.snd hr.out), rfl⟩
                · have hr : Hid (((j : Int) + 1, (mz t j j).2) = r) := by
                    have := m_good F.out h1g H44.out (fun x a b => H.out x a (by omega)) (by rw [show j - 1 = i from by omega]; omega)
                    rw [← R.out]; exact this.symm
                  clear H
                  go_wp2
                  go_loop [8, 9, 10] (fun l s k => ∃ n : Nat, n ≤ j ∧ l = .bool (mz t j n).2 ∧ s = .int .i64 ((mz t j n).1 : Int) ∧ k = .int .i64 ((n : Int) + 1)) (fun _ _ k => j + 2 - (intOf k).toNat)
                  case atStart => exact ⟨0, by omega, rfl, rfl, rfl⟩
                  case round =>
                    obtain ⟨n, hn, rfl, rfl, rfl⟩ := hrel
                    obtain ⟨s1, s2⟩ := mz_le t j n
                    by_cases hnj : n < j
                    · generalize hQ : mz t j n = q at s1 s2 ⊢
                      have Q : Hid (mz t j n = q) := hQ
                      clear hQ
                      by_cases hk : n + 1 = j
                      · have M : Hid (mz t j (n + 1) = (n + 2, q.2 || lz t q.1 (n + 1))) := by
                          unfold Hid mz; rw [if_pos (Or.inl hk), Q.out]
                        have hk' : ((n : Int) + 1 == (j : Int)) = true := by rw [beq_iff_eq]; omega
                        clear hk
                        have hq : q.1 ≤ n + 1 := s2
                        by_cases hw : q.1 + 1 < n + 1
                        · have hqs : q.1 < t.size := by omega
                          have heq := bt_eq t q.1 hqs
                          by_cases h0 : bt t q.1 = 48
                          · have L : Hid (lz t q.1 (n + 1) = true) := by simp [Hid, lz, h0]; omega
                            have h0' : ((t[q.1].toNat : Int) == 48) = true := by rw [heq, h0]; rfl
                            clear heq h0
                            go_wp2
                            go_round
                            case rel => exact ⟨n + 1, by omega, by rw [M.out, L.out, Bool.or_true], by rw [M.out]; go_num, by go_num⟩
                            case measure => simp [intOf]; omega
                          · have L : Hid (lz t q.1 (n + 1) = false) := by simp [Hid, lz, h0]
                            have h0' : ((t[q.1].toNat : Int) == 48) = false := by rw [heq, beq_eq_false_iff_ne]; omega
                            clear heq h0
                            go_wp2
                            go_round
                            case rel => exact ⟨n + 1, by omega, by rw [M.out, L.out, Bool.or_false], by rw [M.out]; go_num, by go_num⟩
                            case measure => simp [intOf]; omega
                        · have L : Hid (lz t q.1 (n + 1) = false) := by simp [Hid, lz]; omega
                          go_wp2
                          go_round
                          case rel => exact ⟨n + 1, by omega, by rw [M.out, L.out, Bool.or_false], by rw [M.out]; go_num, by go_num⟩
                          case measure => simp [intOf]; omega
                      · have hks : n + 1 < t.size := by omega
                        have he := bt_eq t (n + 1) hks
                        have hk' : ((n : Int) + 1 == (j : Int)) = false := by rw [beq_eq_false_iff_ne]; omega
                        by_cases hb : bt t (n + 1) = 44
                        · have M : Hid (mz t j (n + 1) = (n + 2, q.2 || lz t q.1 (n + 1))) := by
                            unfold Hid mz; rw [if_pos (Or.inr hb), Q.out]
                          have hb' : ((t[n + 1].toNat : Int) == 44) = true := by rw [he, hb]; rfl
                          clear hk he hb
                          have hq : q.1 ≤ n + 1 := s2
                          by_cases hw : q.1 + 1 < n + 1
                          · have hqs : q.1 < t.size := by omega
                            have heq := bt_eq t q.1 hqs
                            by_cases h0 : bt t q.1 = 48
                            · have L : Hid (lz t q.1 (n + 1) = true) := by simp [Hid, lz, h0]; omega
                              have h0' : ((t[q.1].toNat : Int) == 48) = true := by rw [heq, h0]; rfl
                              clear heq h0
                              go_wp2
                              go_round
                              case rel => exact ⟨n + 1, by omega, by rw [M.out, L.out, Bool.or_true], by rw [M.out]; go_num, by go_num⟩
                              case measure => simp [intOf]; omega
                            · have L : Hid (lz t q.1 (n + 1) = false) := by simp [Hid, lz, h0]
                              have h0' : ((t[q.1].toNat : Int) == 48) = false := by rw [heq, beq_eq_false_iff_ne]; omega
                              clear heq h0
                              go_wp2
                              go_round
                              case rel => exact ⟨n + 1, by omega, by rw [M.out, L.out, Bool.or_false], by rw [M.out]; go_num, by go_num⟩
                              case measure => simp [intOf]; omega
                          · have L : Hid (lz t q.1 (n + 1) = false) := by simp [Hid, lz]; omega
                            go_wp2
                            go_round
                            case rel => exact ⟨n + 1, by omega, by rw [M.out, L.out, Bool.or_false], by rw [M.out]; go_num, by go_num⟩
                            case measure => simp [intOf]; omega
                        · have M : Hid (mz t j (n + 1) = q) := by
                            unfold Hid mz; rw [if_neg (fun hx => hx.elim hk hb), Q.out]
                          have hb' : ((t[n + 1].toNat : Int) == 44) = false := by rw [he, beq_eq_false_iff_ne]; omega
                          clear hk he hb
                          go_wp2
                          go_round
                          case rel => exact ⟨n + 1, by omega, by rw [M.out], by rw [M.out], by go_num⟩
                          case measure => simp [intOf]; omega
                    · obtain rfl : n = j := by omega
                      go_wp2
                      go_ret2
                      exact ⟨ret_two (congrArg Prod.fst hr.out) (congrArg Prod.snd hr.out), rfl⟩
      · have H' : Hid (∀ x, 1 ≤ x → x < j + 1 → x < t.size ∧ bt t x ≠ 125) := by
          intro x h1 h2
          by_cases hx : x = j
          · subst hx; exact ⟨hlt, hd⟩
          · exact H.out x h1 (by omega)
        have hd' : ((t[j].toNat : Int) != 125) = true := by rw [he, bne_iff_ne]; omega
        clear he H hd
        go_wp2
        go_round
        case rel => exact ⟨j + 1, by go_num, by omega, by omega, H'⟩
        case measure => simp [intOf]; omega
    · have hr : Hid ((-1, false) = r) := by
        have := m_nobrace (t := t) (fun x h1 h2 => (H.out x h1 (by omega)).2)
        rw [← R.out]; exact this.symm
      clear H
      go_wp2
      go_ret2
      exact ⟨ret_two (congrArg Prod.fst hr.out) (congrArg Prod.snd hr.out), rfl⟩

end Go.Proofs.Qxb6000037a
