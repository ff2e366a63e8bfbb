/-
  SEAT b6000037a: the walks of '(*dialectScan).repeat' (17) and of 'ZZdialectRepeat' (13).
-/
import Derived.Test.Qxb6000037aWalkB
import Derived.Test.Qxb6000037aDial
namespace Go.Proofs.Qxb6000037a
open Go.RowKit
open Pl

theorem ret_ip {n m : Int} {p q : ByteArray} (h : n = m) (k : p = q) : Ending.returned (.tuple #[.int .i64 n, .string p]) = .returned (.tuple #[.int .i64 m, .string q]) := by rw [h, k]

set_option maxHeartbeats 1000000 in
theorem repeat_calls (s : ByteArray) (i b : Nat) (w : World) (hs : s.size ≤ 1048576) (hi : i < s.size) (hc : w.cell? ⟨b, 0, none⟩ = some (.string s)) :
    Calls Try.prog 17 #[.pointer (some ⟨b, 0, none⟩), .int .i64 (i : Int)] w fun e w' => ∃ (n : Nat) (p : ByteArray), e = .returned (.tuple #[.int .i64 (n : Int), .string p]) ∧ Dr s i n p ∧ Grown w w' := by
  have he := bt_eq s i hi
  by_cases h1 : bt s i = 123
  · have h1' : ((s[i].toNat : Int) == 123) = true := by rw [he, h1]; rfl
    have H1 : Hid (bt s i = 123) := h1
    clear he h1
    have hz : Hid ((s.extract i s.size).size ≤ 4194304) := by
      have := size_ext s i s.size (by omega) (Nat.le_refl _); unfold Hid; omega
    rcases rc_cases (s.extract i s.size) with hr | ⟨m, hm, h3, hms, hb⟩
    · have R : Hid (rc (s.extract i s.size) = (-1, false)) := hr
      clear hr
      go_enter Try.func17, Try.ntmps17
      go_wp2_with fail
      refine (repeatCount_calls (s.extract i s.size) _ hz.out).mono ?_
      rintro e w' ⟨rfl, G⟩
      rw [R.out]
      have G' : Hid (Grown w w') := G
      clear G
      go_wp2
      go_ret2
      exact ⟨0, ⟨#[123]⟩, rfl, Or.inr (Or.inl ⟨H1.out, R.out, rfl, rfl⟩), G'.out⟩
    · obtain ⟨z, hR⟩ : ∃ z, rc (s.extract i s.size) = ((m : Int), z) := ⟨(rc (s.extract i s.size)).2, by rw [← hm]⟩
      obtain ⟨_, hme, _⟩ := rc_at (by omega) hR
      have R : Hid (rc (s.extract i s.size) = ((m : Int), z)) := hR
      clear hR hm hms hb
      cases z
      · by_cases hq : i + m < s.size
        · have heq := bt_eq s (i + m) hq
          by_cases h63 : bt s (i + m) = 63
          · have E : Hid (lzEnd s (i + m) = i + m + 1) := lzEnd_yes hq h63
            have h63' : ((s[i + m].toNat : Int) == 63) = true := by rw [heq, h63]; rfl
            clear heq h63
            go_enter Try.func17, Try.ntmps17
            go_wp2_with fail
            refine (repeatCount_calls (s.extract i s.size) _ hz.out).mono ?_
            rintro e w' ⟨rfl, G⟩
            rw [R.out]
            have G' : Hid (Grown w w') := G
            clear G
            go_wp2
            go_ret2
            exact ⟨i + m + 1, ⟨#[]⟩, ret_ip (by omega) rfl, Or.inr (Or.inr (Or.inr ⟨m, H1.out, R.out, E.out.symm, rfl⟩)), G'.out⟩
          · have E : Hid (lzEnd s (i + m) = i + m) := lzEnd_no (fun h => h63 h.2)
            have h63' : ((s[i + m].toNat : Int) == 63) = false := by rw [heq, beq_eq_false_iff_ne]; omega
            clear heq h63
            go_enter Try.func17, Try.ntmps17
            go_wp2_with fail
            refine (repeatCount_calls (s.extract i s.size) _ hz.out).mono ?_
            rintro e w' ⟨rfl, G⟩
            rw [R.out]
            have G' : Hid (Grown w w') := G
            clear G
            go_wp2
            go_ret2
            exact ⟨i + m, ⟨#[]⟩, ret_ip (by omega) rfl, Or.inr (Or.inr (Or.inr ⟨m, H1.out, R.out, E.out.symm, rfl⟩)), G'.out⟩
        · have E : Hid (lzEnd s (i + m) = i + m) := lzEnd_no (fun h => hq h.1)
          go_enter Try.func17, Try.ntmps17
          go_wp2_with fail
          refine (repeatCount_calls (s.extract i s.size) _ hz.out).mono ?_
          rintro e w' ⟨rfl, G⟩
          rw [R.out]
          have G' : Hid (Grown w w') := G
          clear G
          go_wp2
          go_ret2
          exact ⟨i + m, ⟨#[]⟩, ret_ip (by omega) rfl, Or.inr (Or.inr (Or.inr ⟨m, H1.out, R.out, E.out.symm, rfl⟩)), G'.out⟩
      · have b1 : (0 : Int) ≤ (i : Int) + (m : Int) := by omega
        have b2 : (i : Int) + (m : Int) ≤ (s.size : Int) := by omega
        have b3 : (i : Int) ≤ (i : Int) + (m : Int) := by omega
        go_enter Try.func17, Try.ntmps17
        go_wp2_with fail
        refine (repeatCount_calls (s.extract i s.size) _ hz.out).mono ?_
        rintro e w' ⟨rfl, G⟩
        rw [R.out]
        have G' : Hid (Grown w w') := G
        clear G
        go_wp2
        go_quiet (fail)
        go_wp2
        go_ret2
        exact ⟨0, s.extract i (i + m), rfl, Or.inr (Or.inr (Or.inl ⟨m, H1.out, R.out, rfl, rfl⟩)), grown_drewN G'.out _⟩
  · have h1' : ((s[i].toNat : Int) == 123) = false := by rw [he, beq_eq_false_iff_ne]; omega
    have H1 : Hid (bt s i ≠ 123) := h1
    clear he h1
    by_cases hq : i + 1 < s.size
    · have heq := bt_eq s (i + 1) hq
      by_cases h63 : bt s (i + 1) = 63
      · have E : Hid (lzEnd s (i + 1) = i + 1 + 1) := lzEnd_yes hq h63
        have h63' : ((s[i + 1].toNat : Int) == 63) = true := by rw [heq, h63]; rfl
        clear heq h63
        go_enter Try.func17, Try.ntmps17
        go_wp2
        go_ret2
        exact ⟨i + 1 + 1, ⟨#[]⟩, ret_ip (by omega) rfl, Or.inl ⟨H1.out, E.out.symm, rfl⟩, Grown.refl _⟩
      · have E : Hid (lzEnd s (i + 1) = i + 1) := lzEnd_no (fun h => h63 h.2)
        have h63' : ((s[i + 1].toNat : Int) == 63) = false := by rw [heq, beq_eq_false_iff_ne]; omega
        clear heq h63
        go_enter Try.func17, Try.ntmps17
        go_wp2
        go_ret2
        exact ⟨i + 1, ⟨#[]⟩, ret_ip (by omega) rfl, Or.inl ⟨H1.out, E.out.symm, rfl⟩, Grown.refl _⟩
    · have E : Hid (lzEnd s (i + 1) = i + 1) := lzEnd_no (fun h => hq h.1)
      go_enter Try.func17, Try.ntmps17
      go_wp2
      go_ret2
      exact ⟨i + 1, ⟨#[]⟩, ret_ip (by omega) rfl, Or.inl ⟨H1.out, E.out.symm, rfl⟩, Grown.refl _⟩

set_option maxHeartbeats 400000 in
theorem dialectRepeat_calls (s : ByteArray) (i : Nat) (w : World) (hs : s.size ≤ 1048576) (hi : i < s.size) :
    Calls Try.prog 13 #[.string s, .int .i64 (i : Int)] w fun e w' => ∃ (n : Nat) (p : ByteArray), e = .returned (.tuple #[.int .i64 (n : Int), .string p]) ∧ Dr s i n p ∧ Grown w w' := by
  go_enter Try.func13, Try.ntmps13
  go_wp2_with fail
  refine (repeat_calls s i w.heap.size _ hs hi ?_).mono ?_
  · go_simp
  rintro e w' ⟨n, p, rfl, D, G⟩
  have D' : Hid (Dr s i n p) := D
  have G' : Hid (Grown (w.alloc _) w') := G
  clear D G
  go_wp2
  go_ret2
  exact ⟨n, p, rfl, D'.out, grown_trans ((Grown.refl w).alloc _ _) G'.out⟩

end Go.Proofs.Qxb6000037a
