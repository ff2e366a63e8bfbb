/-
  THE PROOF OF 'Rows.FnDialectRepeatAgreesWithRepeatCountSaid': the guide's frame, the walk filled.
-/
import Derived.Test.Qxb6000037aRows
import Derived.Test.Qxb6000037aWalkD
import Derived.WalkKit
import Derived.ProofKit
import Derived.OpenShut
import Derived.ShutString
namespace Go.Proofs.Qxb6000037a.fnDialectRepeatAgreesWithRepeatCount
open Go.ChangeShapes Go.WideShapes Go.ChangeAt Go.RowKit
open Go.ChangeMaps (open_string shut_string)
set_option linter.unusedVariables false      -- a walk need not use every 'w<i>' (that an integer argument fits its kind)

theorem own : ownKnob Try.prog.godebug = none := by kernel_rfl

open Pl

/-! ### STEP 1: THE WALK -/
theorem zz_yes (t : ByteArray) (i : Int) (w : World) (h : t.size ≤ 1048576) :
    Calls Try.prog 12 #[.string t, .int .i64 i] w fun e w' => e = .returned (.bool true) ∧ w = w' := by
  go_enter Try.func12, Try.ntmps12
  go_wp2
  go_ret
  exact ⟨rfl, rfl⟩

theorem zz_no (t : ByteArray) (i : Int) (w : World) (ht : t.size ≤ maxLen) (h : 1048576 < t.size) :
    Calls Try.prog 12 #[.string t, .int .i64 i] w fun e w' => e = .returned (.bool false) ∧ w = w' := by
  unfold maxLen at ht
  go_enter Try.func12, Try.ntmps12
  go_wp2
  go_ret
  exact ⟨rfl, rfl⟩

set_option maxHeartbeats 1000000 in
theorem walk (a0 : ByteArray) (a1 : Int) (w0 : a0.size ≤ maxLen) (w1 : (Lit.int .i64 a1).wf = true) (w : World) :
    Calls Try.prog 5 #[.string a0, .int .i64 a1] w fun e w' => e = .returned (.bool true) ∧ Grown w w' := by
  clear w1
  by_cases h : a0.size ≤ 1048576
  · by_cases hi0 : a1 < 0
    · go_enter Try.func5, Try.ntmps5
      go_wp2_with fail
      refine (zz_yes a0 _ _ h).mono ?_
      rintro e w' ⟨rfl, rfl⟩
      go_wp2
      go_ret
      exact ⟨rfl, Grown.refl _⟩
    · obtain ⟨i, rfl⟩ := Int.eq_ofNat_of_zero_le (Int.not_lt.1 hi0)
      by_cases hi1 : i < a0.size
      · have he := bt_eq a0 i hi1
        by_cases h1 : bt a0 i = 123
        · have h1' : ((a0[i].toNat : Int) != 123) = false := by rw [he, h1]; rfl
          have hz : Hid ((a0.extract i a0.size).size ≤ 4194304) := by
            have := size_ext a0 i a0.size (by omega) (Nat.le_refl _); unfold Hid; omega
          have H1 : Hid (bt a0 i = 123) := h1
          clear he h1
          go_enter Try.func5, Try.ntmps5
          go_wp2_with fail
          refine (zz_yes a0 _ _ h).mono ?_
          rintro e w' ⟨rfl, rfl⟩
          go_wp2_with fail
          refine (dialectRepeat_calls a0 i _ h hi1).mono ?_
          rintro e w' ⟨n, p, rfl, D, G⟩
          have G' : Hid (Grown w w') := G
          clear G
          rcases D with ⟨hx, _, _⟩ | ⟨_, h2, rfl, rfl⟩ | ⟨m, _, h2, rfl, rfl⟩ | ⟨m, _, h2, hn, rfl⟩
          · exact absurd H1.out hx
          · have R : Hid (rc (a0.extract i a0.size) = (-1, false)) := h2
            clear h2
            go_wp2_with fail
            refine (zzRepeatCount_calls (a0.extract i a0.size) _ hz.out).mono ?_
            rintro e w'' ⟨rfl, G2⟩
            rw [R.out]
            have G3 : Hid (Grown w' w'') := G2
            clear G2
            go_wp2
            go_ret
            exact ⟨rfl, grown_trans G'.out G3.out⟩
          · obtain ⟨h3, h4, h5⟩ := rc_at (by omega) h2
            have R : Hid (rc (a0.extract i a0.size) = ((m : Int), true)) := h2
            clear h2 h5
            go_wp2_with fail
            refine (zzRepeatCount_calls (a0.extract i a0.size) _ hz.out).mono ?_
            rintro e w'' ⟨rfl, G2⟩
            rw [R.out]
            have G3 : Hid (Grown w' w'') := G2
            clear G2
            go_wp2
            go_ret
            exact ⟨ret_bool (by simp), grown_trans G'.out G3.out⟩
          · obtain ⟨h3, h4, h5⟩ := rc_at (by omega) h2
            have R : Hid (rc (a0.extract i a0.size) = ((m : Int), false)) := h2
            clear h5
            by_cases hq : i + m < a0.size ∧ bt a0 (i + m) = 63
            · have hn' := lzEnd_yes hq.1 hq.2
              have hqq : i + m < a0.size := hq.1
              have n1 : n ≤ i + m + 1 := by omega
              have n2 : i + m + 1 ≤ n := by omega
              have A : Hid (rc (a0.extract i n) = ((m : Int), false)) := rc_again (by omega) h2 (by omega) (by omega)
              have hz2 : Hid ((a0.extract i n).size ≤ 4194304) := by
                have := size_ext a0 i n (by omega) (by omega); unfold Hid; omega
              have h63 : ((a0[i + m].toNat : Int) == 63) = true := by rw [bt_eq a0 (i + m) hqq, hq.2]; rfl
              clear h2 hn hn' hq
              go_wp2_with fail
              refine (zzRepeatCount_calls (a0.extract i a0.size) _ hz.out).mono ?_
              rintro e w'' ⟨rfl, G2⟩
              rw [R.out]
              have G3 : Hid (Grown w' w'') := G2
              clear G2
              go_wp2_with fail
              refine (zzRepeatCount_calls (a0.extract i n) _ hz2.out).mono ?_
              rintro e w3 ⟨rfl, G4⟩
              rw [A.out]
              have G5 : Hid (Grown w'' w3) := G4
              clear G4
              go_wp2
              go_ret
              exact ⟨ret_bool (by simp [*]), grown_trans (grown_trans G'.out G3.out) G5.out⟩
            · have hn' := lzEnd_no hq
              have n1 : n ≤ i + m := by omega
              have n2 : i + m ≤ n := by omega
              have A : Hid (rc (a0.extract i n) = ((m : Int), false)) := rc_again (by omega) h2 (by omega) (by omega)
              have hz2 : Hid ((a0.extract i n).size ≤ 4194304) := by
                have := size_ext a0 i n (by omega) (by omega); unfold Hid; omega
              by_cases hns : n < a0.size
              · have h63 : ((a0[n].toNat : Int) != 63) = true := by
                  have e0 : n = i + m := by omega
                  have : bt a0 n ≠ 63 := fun hx => hq ⟨by omega, by rw [← e0]; exact hx⟩
                  rw [bt_eq a0 n hns, bne_iff_ne]; omega
                clear h2 hn hn' hq
                go_wp2_with fail
                refine (zzRepeatCount_calls (a0.extract i a0.size) _ hz.out).mono ?_
                rintro e w'' ⟨rfl, G2⟩
                rw [R.out]
                have G3 : Hid (Grown w' w'') := G2
                clear G2
                go_wp2_with fail
                refine (zzRepeatCount_calls (a0.extract i n) _ hz2.out).mono ?_
                rintro e w3 ⟨rfl, G4⟩
                rw [A.out]
                have G5 : Hid (Grown w'' w3) := G4
                clear G4
                go_wp2
                go_ret
                exact ⟨ret_bool (by simp [*]), grown_trans (grown_trans G'.out G3.out) G5.out⟩
              · clear h2 hn hn' hq
                go_wp2_with fail
                refine (zzRepeatCount_calls (a0.extract i a0.size) _ hz.out).mono ?_
                rintro e w'' ⟨rfl, G2⟩
                rw [R.out]
                have G3 : Hid (Grown w' w'') := G2
                clear G2
                go_wp2_with fail
                refine (zzRepeatCount_calls (a0.extract i n) _ hz2.out).mono ?_
                rintro e w3 ⟨rfl, G4⟩
                rw [A.out]
                have G5 : Hid (Grown w'' w3) := G4
                clear G4
                go_wp2
                go_ret
                exact ⟨ret_bool (by simp [*]), grown_trans (grown_trans G'.out G3.out) G5.out⟩
        · have h1' : ((a0[i].toNat : Int) != 123) = true := by rw [he, bne_iff_ne]; omega
          clear he h1
          go_enter Try.func5, Try.ntmps5
          go_wp2_with fail
          refine (zz_yes a0 _ _ h).mono ?_
          rintro e w' ⟨rfl, rfl⟩
          go_wp2
          go_ret
          exact ⟨rfl, Grown.refl _⟩
      · go_enter Try.func5, Try.ntmps5
        go_wp2_with fail
        refine (zz_yes a0 _ _ h).mono ?_
        rintro e w' ⟨rfl, rfl⟩
        go_wp2
        go_ret
        exact ⟨rfl, Grown.refl _⟩
  · go_enter Try.func5, Try.ntmps5
    go_wp2_with fail
    refine (zz_no a0 _ _ w0 (by omega)).mono ?_
    rintro e w' ⟨rfl, rfl⟩
    go_wp2
    go_ret
    exact ⟨rfl, Grown.refl _⟩

/-! ### THE ROW's STEP: WRITTEN OUT: LEAVE IT -/
set_option maxRecDepth 100000 in
theorem lifted (os : Os) (started : os.Started) (H : Type) (enc : TypeId × Value → H) :
    ReturnsInHanded {} Try.checked os 5 .any (Rows.fnDialectRepeatAgreesWithRepeatCountSpec.pre6 enc Try.prog Try.f5 Rows.fnDialectRepeatAgreesWithRepeatCountRow.domain false) (Rows.fnDialectRepeatAgreesWithRepeatCountSpec.post enc Try.prog Try.f5 false true false false) := by
  refine returnsInHanded_of_change (C := Try.checked) own started (by kernel_rfl) Try.func5
    (ChangeSpec.witness6 (enc := enc) (C := Try.checked) false ⟨#[], #[.string ByteArray.empty, .int .i64 0], []⟩ 8 (by kernel_rfl) (by kernel_rfl) (by kernel_rfl) (by kernel_rfl)) ?_
  intro W base args ds gs before hval0 hW hcnd _
  have hval : ∀ (j : Nat) t v, Try.f5.params[j]? = some t → args[j]? = some v → Value.okWide Try.prog W .any base t v := hval0
  have hW' := hW
  obtain ⟨p, q, hA0, hV, rfl, hfz, hnd⟩ := hW
  have hA : DataW.TrodAll enc Try.prog W 0 (fun _ => true) true Try.f5.params.toList args.toList ds p := hA0
  rw [Try.params5] at hA hval
  obtain ⟨v0, vs0, d0, ds0, p0, q0, hargs, rfl, rfl, h0, r0⟩ := trodAll_cons hA
  obtain ⟨v1, vs1, d1, ds1, p1, q1, rfl, rfl, rfl, h1, r1⟩ := trodAll_cons r0
  obtain ⟨rfl, rfl, rfl⟩ := trodAll_nil r1
  obtain rfl : args = #[v0, v1] := by cases args; simp_all
  obtain ⟨rfl, rfl⟩ := trodVars_none hV
  obtain ⟨a0, rfl, rfl, rfl, w0⟩ := open_string Try.underlying9 (hval 0 9 v0 rfl rfl) h0
  obtain ⟨a1, rfl, rfl, rfl, w1⟩ := open_int Try.underlying3 (hval 1 3 v1 rfl rfl) h1
  clear hA0 hval0
  simp only [List.append_nil] at hW'
  refine (walk a0 a1 w0 w1 W).mono fun e W' ⟨he, hg⟩ => ?_
  subst he
  exact ⟨_, rfl, post_of_same (pa := []) (pv := []) hW' (fun _ _ _ => (trodAll_cons_mk (shut_bool Try.underlying4 _) trodAll_mk0)) (fun sp _ => (trodAll_cons_mk (shut_string Try.underlying9 w0) (trodAll_cons_mk (shut_int Try.underlying3 w1) trodAll_mk0))) (fun _ _ => rfl) rfl
    (hg.frame _) hg.2.1 (ok_one (by kernel_rfl) rfl (okWide_bool_mk Try.underlying4 _))⟩

theorem over : Rows.fnDialectRepeatAgreesWithRepeatCountRow.holds Try.pinned (OpenSpec.ofChange Rows.fnDialectRepeatAgreesWithRepeatCountSpec) :=
  OpenClaim.holds_of_wide 5 Try.f5 rfl rfl rfl rfl rfl rfl rfl ⟨rfl, rfl, rfl, rfl, rfl⟩ rfl rfl rfl rfl rfl (by kernel_rfl) Try.func5 (by kernel_rfl)
    (of_decide_eq_true (by kernel_rfl)) (by unfold Func.isWrapper; first | (rw [if_pos (by decide +kernel)]; kernel_rfl) | (rw [if_neg (by decide +kernel)]; exact ⟨rfl, rfl⟩))
    (fun os started H enc _ => lifted os started H enc)

/-- ████ THE STATEMENT ████ -/
theorem proved : Rows.FnDialectRepeatAgreesWithRepeatCountSaid :=
  over
#print axioms proved
end Go.Proofs.Qxb6000037a.fnDialectRepeatAgreesWithRepeatCount
