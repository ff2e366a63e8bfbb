/-
  THE PROOF OF 'Rows.FnDialectRepeatAdvancesOrRefusesABraceSaid': the guide's frame, the walk filled.
-/
import Derived.Test.Qxb6000037aRows
import Derived.Test.Qxb6000037aWalkD
import Derived.Lib.Strings
import Derived.WalkKit
import Derived.ProofKit
import Derived.OpenShut
import Derived.ShutString
namespace Go.Proofs.Qxb6000037a.fnDialectRepeatAdvancesOrRefusesABrace
open Go.ChangeShapes Go.WideShapes Go.ChangeAt Go.RowKit
open Go.ChangeMaps (open_string shut_string)
set_option linter.unusedVariables false      -- a walk need not use every 'w<i>' (that an integer argument fits its kind)

theorem own : ownKnob Try.prog.godebug = none := by kernel_rfl

open Pl

/-! ### STEP 1: THE WALK -/
theorem zz_yes (t : ByteArray) (i : Int) (w : World) (h : t.size ≤ 1048576) :
    Calls Try.prog 15 #[.string t, .int .i64 i] w fun e w' => e = .returned (.bool true) ∧ w = w' := by
  go_enter Try.func15, Try.ntmps15
  go_wp2
  go_ret
  exact ⟨rfl, rfl⟩

theorem zz_no (t : ByteArray) (i : Int) (w : World) (ht : t.size ≤ maxLen) (h : 1048576 < t.size) :
    Calls Try.prog 15 #[.string t, .int .i64 i] w fun e w' => e = .returned (.bool false) ∧ w = w' := by
  unfold maxLen at ht
  go_enter Try.func15, Try.ntmps15
  go_wp2
  go_ret
  exact ⟨rfl, rfl⟩

/-- What an accepted quantifier is like. -/
theorem acc {s : ByteArray} {i n : Nat} {p : ByteArray} (hi : i < s.size) (h : Dr s i n p) (hp : p = ⟨#[]⟩) :
    i < n ∧ n ≤ s.size ∧ (bt s i ≠ 123 → n ≤ i + 2) ∧ ((i + 2 ≤ n ∧ bt s (n - 1) = 63) ∨ ((n = i + 1 ∨ (i + 2 ≤ n ∧ bt s (n - 1) = 125)) ∧ ¬ (n < s.size ∧ bt s n = 63))) := by
  rcases h with ⟨h1, rfl, _⟩ | ⟨h1, h2, rfl, rfl⟩ | ⟨m, h1, h2, rfl, rfl⟩ | ⟨m, h1, h2, rfl, _⟩
  · by_cases hq : i + 1 < s.size ∧ bt s (i + 1) = 63
    · rw [lzEnd_yes hq.1 hq.2]
      exact ⟨by omega, by omega, fun _ => by omega, Or.inl ⟨by omega, hq.2⟩⟩
    · rw [lzEnd_no hq]
      exact ⟨by omega, by omega, fun _ => by omega, Or.inr ⟨Or.inl rfl, hq⟩⟩
  · simp at hp
  · obtain ⟨h3, h4, h5⟩ := rc_at (by omega) h2
    have := size_ext s i (i + m) (by omega) h4
    rw [hp] at this; exfalso; have e0 : (⟨#[]⟩ : ByteArray).size = 0 := rfl; omega
  · obtain ⟨h3, h4, h5⟩ := rc_at (by omega) h2
    by_cases hq : i + m < s.size ∧ bt s (i + m) = 63
    · rw [lzEnd_yes hq.1 hq.2]
      exact ⟨by omega, by omega, fun x => absurd h1 x, Or.inl ⟨by omega, hq.2⟩⟩
    · rw [lzEnd_no hq]
      exact ⟨by omega, by omega, fun x => absurd h1 x, Or.inr ⟨Or.inr ⟨by omega, h5⟩, hq⟩⟩

/-- What a refusal is like. -/
theorem ref {s : ByteArray} {i n : Nat} {p : ByteArray} (hi : i < s.size) (h : Dr s i n p) (hp : ¬ p = ⟨#[]⟩) :
    bt s i = 123 ∧ n = 0 ∧ 1 ≤ p.size ∧ i + p.size ≤ s.size ∧ p = s.extract i (i + p.size) ∧ (p.size = 1 ∨ bt p (p.size - 1) = 125) := by
  rcases h with ⟨h1, rfl, hz⟩ | ⟨h1, h2, rfl, rfl⟩ | ⟨m, h1, h2, rfl, rfl⟩ | ⟨m, h1, h2, rfl, hz⟩
  · exact absurd hz hp
  · refine ⟨h1, rfl, Nat.le_refl _, hi, ?_, Or.inl rfl⟩
    show (⟨#[123]⟩ : ByteArray) = s.extract i (i + 1)
    have h' : i < s.data.toList.length := by simpa using hi
    have hb : s.data.toList[i] = 123 := by
      unfold bt at h1
      rw [List.getElem?_eq_getElem h'] at h1
      exact UInt8.toNat_inj.1 h1
    rw [Lib.extract_eq, List.drop_eq_getElem_cons h', show i + 1 - i = 1 from by omega, hb]
    simp
  · obtain ⟨h3, h4, h5⟩ := rc_at (by omega) h2
    have hz := size_ext s i (i + m) (by omega) h4
    rw [show i + m - i = m from by omega] at hz
    refine ⟨h1, rfl, by omega, by omega, by rw [hz], Or.inr ?_⟩
    rw [hz, bt_ext _ _ _ _ (by omega), show i + (m - 1) = i + m - 1 from by omega]
    exact h5
  · exact absurd hz hp

set_option maxHeartbeats 1000000 in
theorem walk (a0 : ByteArray) (a1 : Int) (w0 : a0.size ≤ maxLen) (w1 : (Lit.int .i64 a1).wf = true) (w : World) :
    Calls Try.prog 7 #[.string a0, .int .i64 a1] w fun e w' => e = .returned (.bool true) ∧ Grown w w' := by
  clear w1
  by_cases h : a0.size ≤ 1048576
  · by_cases hi0 : a1 < 0
    · go_enter Try.func7, Try.ntmps7
      go_wp2_with fail
      refine (zz_yes a0 _ _ h).mono ?_
      rintro e w' ⟨rfl, rfl⟩
      go_wp2
      go_ret
      exact ⟨rfl, Grown.refl _⟩
    · obtain ⟨i, rfl⟩ := Int.eq_ofNat_of_zero_le (Int.not_lt.1 hi0)
      by_cases hi1 : i < a0.size
      · have he := bt_eq a0 i hi1
        go_enter Try.func7, Try.ntmps7
        go_wp2_with fail
        refine (zz_yes a0 _ _ h).mono ?_
        rintro e w' ⟨rfl, rfl⟩
        go_wp2_with fail
        refine (dialectRepeat_calls a0 i _ h hi1).mono ?_
        rintro e w' ⟨n, p, rfl, D, G⟩
        have G' : Hid (Grown w w') := G
        clear G
        by_cases hp : p = ⟨#[]⟩
        · obtain ⟨n1, n2, n3, n4⟩ := acc hi1 D hp
          subst hp
          clear D
          have e1 := bt_eq a0 (n - 1) (by omega)
          have e2 : ∀ h : n < a0.size, a0[n].toNat = bt a0 n := fun h => bt_eq a0 n h
          rcases n4 with ⟨k1, k2⟩ | ⟨k1 | ⟨k1, k2⟩, k3⟩
          · have k2' : ((a0[n - 1].toNat : Int) != 63) = false := by rw [e1, k2]; rfl
            by_cases h1 : bt a0 i = 123
            · have h1' : ((a0[i].toNat : Int) != 123) = false := by rw [he, h1]; rfl
              clear he h1 e1 e2 n3 k2
              go_wp2
              all_goals (go_ret; exact ⟨rfl, G'.out⟩)
            · have h1' : ((a0[i].toNat : Int) != 123) = true := by rw [he, bne_iff_ne]; omega
              have n3' := n3 h1
              clear he h1 e1 e2 n3 k2
              go_wp2
              all_goals (go_ret; exact ⟨rfl, G'.out⟩)
          · have k1a : n ≤ i + 1 := by omega
            
            by_cases hq : n < a0.size
            · have hq' : ((a0[n].toNat : Int) == 63) = false := by
                have : bt a0 n ≠ 63 := fun hx => k3 ⟨hq, hx⟩
                rw [e2 hq, beq_eq_false_iff_ne]; omega
              by_cases h1 : bt a0 i = 123
              · have h1' : ((a0[i].toNat : Int) != 123) = false := by rw [he, h1]; rfl
                clear he h1 e1 e2 n3 k1 k3
                go_wp2
                all_goals (go_ret; exact ⟨rfl, G'.out⟩)
              · have h1' : ((a0[i].toNat : Int) != 123) = true := by rw [he, bne_iff_ne]; omega
                have n3' := n3 h1
                clear he h1 e1 e2 n3 k1 k3
                go_wp2
                all_goals (go_ret; exact ⟨rfl, G'.out⟩)
            · by_cases h1 : bt a0 i = 123
              · have h1' : ((a0[i].toNat : Int) != 123) = false := by rw [he, h1]; rfl
                clear he h1 e1 e2 n3 k1 k3
                go_wp2
                all_goals (go_ret; exact ⟨rfl, G'.out⟩)
              · have h1' : ((a0[i].toNat : Int) != 123) = true := by rw [he, bne_iff_ne]; omega
                have n3' := n3 h1
                clear he h1 e1 e2 n3 k1 k3
                go_wp2
                all_goals (go_ret; exact ⟨rfl, G'.out⟩)
          · have k2' : ((a0[n - 1].toNat : Int) != 63) = true := by rw [e1, k2]; rfl
            have k2'' : ((a0[n - 1].toNat : Int) != 125) = false := by rw [e1, k2]; rfl
            
            by_cases hq : n < a0.size
            · have hq' : ((a0[n].toNat : Int) == 63) = false := by
                have : bt a0 n ≠ 63 := fun hx => k3 ⟨hq, hx⟩
                rw [e2 hq, beq_eq_false_iff_ne]; omega
              by_cases h1 : bt a0 i = 123
              · have h1' : ((a0[i].toNat : Int) != 123) = false := by rw [he, h1]; rfl
                clear he h1 e1 e2 n3 k2 k3
                go_wp2
                all_goals (go_ret; exact ⟨rfl, G'.out⟩)
              · have h1' : ((a0[i].toNat : Int) != 123) = true := by rw [he, bne_iff_ne]; omega
                have n3' := n3 h1
                clear he h1 e1 e2 n3 k2 k3
                go_wp2
                all_goals (go_ret; exact ⟨rfl, G'.out⟩)
            · by_cases h1 : bt a0 i = 123
              · have h1' : ((a0[i].toNat : Int) != 123) = false := by rw [he, h1]; rfl
                clear he h1 e1 e2 n3 k2 k3
                go_wp2
                all_goals (go_ret; exact ⟨rfl, G'.out⟩)
              · have h1' : ((a0[i].toNat : Int) != 123) = true := by rw [he, bne_iff_ne]; omega
                have n3' := n3 h1
                clear he h1 e1 e2 n3 k2 k3
                go_wp2
                all_goals (go_ret; exact ⟨rfl, G'.out⟩)
        · obtain ⟨h1, rfl, h2, h3, h4, h5⟩ := ref hi1 D hp
          have h1' : ((a0[i].toNat : Int) != 123) = false := by rw [he, h1]; rfl
          have hc : (p.toList == (a0.extract i (i + p.size)).toList) = true := by rw [← h4]; simp
          have hq : p.toList.isEmpty = false := by
            cases hx : p.toList.isEmpty
            · rfl
            · rw [Lib.toList_data] at hx; simp at hx; have : p.size = 0 := by simp [ByteArray.size, hx]
              omega
          clear he h1 hp h4 D
          have hl := bt_eq p (p.size - 1) (by omega)
          by_cases h6 : p.size = 1
          · have h6' : ((p.size : Int) == 1) = true := by rw [h6]; rfl
            clear h6 h5 hl
            go_wp2
            go_ret
            exact ⟨ret_bool (by simp [*]), G'.out⟩
          · have h6' : ((p.size : Int) == 1) = false := by rw [beq_eq_false_iff_ne]; omega
            have h7 : ((p[p.size - 1].toNat : Int) == 125) = true := by
              rw [hl, h5.resolve_left h6]; rfl
            clear h6 h5 hl
            go_wp2
            go_ret
            exact ⟨ret_bool (by simp [*]), G'.out⟩
      · go_enter Try.func7, Try.ntmps7
        go_wp2_with fail
        refine (zz_yes a0 _ _ h).mono ?_
        rintro e w' ⟨rfl, rfl⟩
        go_wp2
        go_ret
        exact ⟨rfl, Grown.refl _⟩
  · go_enter Try.func7, Try.ntmps7
    go_wp2_with fail
    refine (zz_no a0 _ _ w0 (by omega)).mono ?_
    rintro e w' ⟨rfl, rfl⟩
    go_wp2
    go_ret
    exact ⟨rfl, Grown.refl _⟩

/-! ### THE ROW's STEP: WRITTEN OUT: LEAVE IT -/
set_option maxRecDepth 100000 in
theorem lifted (os : Os) (started : os.Started) (H : Type) (enc : TypeId × Value → H) :
    ReturnsInHanded {} Try.checked os 7 .any (Rows.fnDialectRepeatAdvancesOrRefusesABraceSpec.pre6 enc Try.prog Try.f7 Rows.fnDialectRepeatAdvancesOrRefusesABraceRow.domain false) (Rows.fnDialectRepeatAdvancesOrRefusesABraceSpec.post enc Try.prog Try.f7 false true false false) := by
  refine returnsInHanded_of_change (C := Try.checked) own started (by kernel_rfl) Try.func7
    (ChangeSpec.witness6 (enc := enc) (C := Try.checked) false ⟨#[], #[.string ByteArray.empty, .int .i64 0], []⟩ 8 (by kernel_rfl) (by kernel_rfl) (by kernel_rfl) (by kernel_rfl)) ?_
  intro W base args ds gs before hval0 hW hcnd _
  have hval : ∀ (j : Nat) t v, Try.f7.params[j]? = some t → args[j]? = some v → Value.okWide Try.prog W .any base t v := hval0
  have hW' := hW
  obtain ⟨p, q, hA0, hV, rfl, hfz, hnd⟩ := hW
  have hA : DataW.TrodAll enc Try.prog W 0 (fun _ => true) true Try.f7.params.toList args.toList ds p := hA0
  rw [Try.params7] at hA hval
  obtain ⟨v0, vs0, d0, ds0, p0, q0, hargs, rfl, rfl, h0, r0⟩ := trodAll_cons hA
  obtain ⟨v1, vs1, d1, ds1, p1, q1, rfl, rfl, rfl, h1, r1⟩ := trodAll_cons r0
  obtain ⟨rfl, rfl, rfl⟩ := trodAll_nil r1
  obtain rfl : args = #[v0, v1] := by cases args; simp_all
  obtain ⟨rfl, rfl⟩ := trodVars_none hV
  obtain ⟨a0, rfl, rfl, rfl, w0⟩ := open_string Try.underlying9 (hval 0 9 v0 rfl rfl) h0
  obtain ⟨a1, rfl, rfl, rfl, w1⟩ := open_int Try.underlying3 (hval 1 3 v1 rfl rfl) h1
  clear hA0 hval0
  simp only [List.append_nil] at hW'
  refine (walk a0 a1 w0 w1 W).mono fun e W' ⟨he, hg⟩ => ?_
  subst he
  exact ⟨_, rfl, post_of_same (pa := []) (pv := []) hW' (fun _ _ _ => (trodAll_cons_mk (shut_bool Try.underlying4 _) trodAll_mk0)) (fun sp _ => (trodAll_cons_mk (shut_string Try.underlying9 w0) (trodAll_cons_mk (shut_int Try.underlying3 w1) trodAll_mk0))) (fun _ _ => rfl) rfl
    (hg.frame _) hg.2.1 (ok_one (by kernel_rfl) rfl (okWide_bool_mk Try.underlying4 _))⟩

theorem over : Rows.fnDialectRepeatAdvancesOrRefusesABraceRow.holds Try.pinned (OpenSpec.ofChange Rows.fnDialectRepeatAdvancesOrRefusesABraceSpec) :=
  OpenClaim.holds_of_wide 7 Try.f7 rfl rfl rfl rfl rfl rfl rfl ⟨rfl, rfl, rfl, rfl, rfl⟩ rfl rfl rfl rfl rfl (by kernel_rfl) Try.func7 (by kernel_rfl)
    (of_decide_eq_true (by kernel_rfl)) (by unfold Func.isWrapper; first | (rw [if_pos (by decide +kernel)]; kernel_rfl) | (rw [if_neg (by decide +kernel)]; exact ⟨rfl, rfl⟩))
    (fun os started H enc _ => lifted os started H enc)

/-- ████ THE STATEMENT ████ -/
theorem proved : Rows.FnDialectRepeatAdvancesOrRefusesABraceSaid :=
  over
#print axioms proved
end Go.Proofs.Qxb6000037a.fnDialectRepeatAdvancesOrRefusesABrace
