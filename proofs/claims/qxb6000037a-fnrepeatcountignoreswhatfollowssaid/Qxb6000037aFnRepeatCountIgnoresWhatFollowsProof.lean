/-
  THE PROOF OF 'Rows.FnRepeatCountIgnoresWhatFollowsSaid': the guide's frame, the walk filled.
-/
import Derived.Test.Qxb6000037aRows
import Derived.Test.Qxb6000037aWalkB
import Derived.Test.Qxb6000037aBytes
import Derived.WalkKit
import Derived.ProofKit
import Derived.OpenShut
import Derived.ShutString
namespace Go.Proofs.Qxb6000037a.fnRepeatCountIgnoresWhatFollows
open Go.ChangeShapes Go.WideShapes Go.ChangeAt Go.RowKit
open Go.ChangeMaps (open_string shut_string)
set_option linter.unusedVariables false      -- a walk need not use every 'w<i>' (that an integer argument fits its kind)

theorem own : ownKnob Try.prog.godebug = none := by kernel_rfl

open Pl

/-! ### STEP 1: THE WALK -/
theorem zz_yes (t u : ByteArray) (w : World) (h : t.size + u.size ≤ 1048576) :
    Calls Try.prog 11 #[.string t, .string u] w fun e w' => e = .returned (.bool true) ∧ w = w' := by
  go_enter Try.func11, Try.ntmps11
  go_wp2
  go_ret
  exact ⟨rfl, rfl⟩

theorem zz_no (t u : ByteArray) (w : World) (ht : t.size ≤ maxLen) (hu : u.size ≤ maxLen) (h : 1048576 < t.size + u.size) :
    Calls Try.prog 11 #[.string t, .string u] w fun e w' => e = .returned (.bool false) ∧ w = w' := by
  unfold maxLen at ht hu
  by_cases h1 : 1048576 < t.size
  · go_enter Try.func11, Try.ntmps11
    go_wp2
    go_ret
    exact ⟨rfl, rfl⟩
  · by_cases h2 : 1048576 < u.size
    · go_enter Try.func11, Try.ntmps11
      go_wp2
      go_ret
      exact ⟨rfl, rfl⟩
    · go_enter Try.func11, Try.ntmps11
      go_wp2
      go_ret
      exact ⟨rfl, rfl⟩

theorem rc_cut (t u : ByteArray) (m : Nat) (b : Bool) (hr : Hid (rc t = ((m : Int), b))) (hs : m ≤ t.size) : rc (t.extract 0 m ++ u) = ((m : Int), b) := by
  have hz : (t.extract 0 m).size = m := by rw [size_ext t 0 m (by omega) hs]; omega
  refine (rc_agree (t := t) (n := m) (by rw [hr.out]) hs (by rw [size_app]; omega) (fun j hj => ?_)).trans hr.out
  rw [bt_app _ _ _ (by omega), bt_ext _ _ _ _ (by omega), Nat.zero_add]

set_option maxHeartbeats 400000 in
theorem walk (a0 : ByteArray) (a1 : ByteArray) (w0 : a0.size ≤ maxLen) (w1 : a1.size ≤ maxLen) (w : World) :
    Calls Try.prog 4 #[.string a0, .string a1] w fun e w' => e = .returned (.bool true) ∧ Grown w w' := by
  by_cases h : a0.size + a1.size ≤ 1048576
  · obtain ⟨n, b, hr⟩ : ∃ n b, Hid (rc a0 = (n, b)) := ⟨_, _, rfl⟩
    rcases rc_cases a0 with hc | ⟨m, hm, h3, hs, hb⟩
    · obtain ⟨rfl, rfl⟩ : n = -1 ∧ b = false := by rw [hr.out] at hc; injection hc with x y; exact ⟨x, y⟩
      clear hc
      go_enter Try.func4, Try.ntmps4
      go_wp2_with fail
      refine (zz_yes a0 a1 _ h).mono ?_
      rintro e w' ⟨rfl, rfl⟩
      go_wp2_with fail
      refine (zzRepeatCount_calls a0 _ (by omega)).mono ?_
      rintro e w' ⟨rfl, G⟩
      rw [hr.out]
      go_wp2
      go_ret
      exact ⟨rfl, G⟩
    · obtain rfl : n = (m : Int) := by rw [hr.out] at hm; exact hm
      have hbt : ((a0[m - 1].toNat : Int) != 125) = false := by rw [bt_eq a0 (m - 1) (by omega), hb]; rfl
      clear hm hb
      go_enter Try.func4, Try.ntmps4
      go_wp2_with fail
      refine (zz_yes a0 a1 _ h).mono ?_
      rintro e w' ⟨rfl, rfl⟩
      go_wp2_with fail
      refine (zzRepeatCount_calls a0 _ (by omega)).mono ?_
      rintro e w' ⟨rfl, G⟩
      rw [hr.out]
      have G' : Hid (Grown w w') := G
      clear G
      go_wp2_with fail
      refine (zzRepeatCount_calls (a0.extract 0 m ++ a1) _ ?_).mono ?_
      · rw [size_app, size_ext _ _ _ (by omega) hs]; omega
      rintro e w'' ⟨rfl, G2⟩
      rw [rc_cut a0 a1 m b hr hs]
      have G3 : Hid (Grown w' w'') := G2
      clear G2
      go_wp2
      go_ret
      exact ⟨rfl, grown_trans G'.out G3.out⟩
  · go_enter Try.func4, Try.ntmps4
    go_wp2_with fail
    refine (zz_no a0 a1 _ w0 w1 (by omega)).mono ?_
    rintro e w' ⟨rfl, rfl⟩
    go_wp2
    go_ret
    exact ⟨rfl, Grown.refl _⟩

/-! ### THE ROW's STEP: WRITTEN OUT: LEAVE IT -/
set_option maxRecDepth 100000 in
theorem lifted (os : Os) (started : os.Started) (H : Type) (enc : TypeId × Value → H) :
    ReturnsInHanded {} Try.checked os 4 .any (Rows.fnRepeatCountIgnoresWhatFollowsSpec.pre6 enc Try.prog Try.f4 Rows.fnRepeatCountIgnoresWhatFollowsRow.domain false) (Rows.fnRepeatCountIgnoresWhatFollowsSpec.post enc Try.prog Try.f4 false true false false) := by
  refine returnsInHanded_of_change (C := Try.checked) own started (by kernel_rfl) Try.func4
    (ChangeSpec.witness6 (enc := enc) (C := Try.checked) false ⟨#[], #[.string ByteArray.empty, .string ByteArray.empty], []⟩ 8 (by kernel_rfl) (by kernel_rfl) (by kernel_rfl) (by kernel_rfl)) ?_
  intro W base args ds gs before hval0 hW hcnd _
  have hval : ∀ (j : Nat) t v, Try.f4.params[j]? = some t → args[j]? = some v → Value.okWide Try.prog W .any base t v := hval0
  have hW' := hW
  obtain ⟨p, q, hA0, hV, rfl, hfz, hnd⟩ := hW
  have hA : DataW.TrodAll enc Try.prog W 0 (fun _ => true) true Try.f4.params.toList args.toList ds p := hA0
  rw [Try.params4] at hA hval
  obtain ⟨v0, vs0, d0, ds0, p0, q0, hargs, rfl, rfl, h0, r0⟩ := trodAll_cons hA
  obtain ⟨v1, vs1, d1, ds1, p1, q1, rfl, rfl, rfl, h1, r1⟩ := trodAll_cons r0
  obtain ⟨rfl, rfl, rfl⟩ := trodAll_nil r1
  obtain rfl : args = #[v0, v1] := by cases args; simp_all
  obtain ⟨rfl, rfl⟩ := trodVars_none hV
  obtain ⟨a0, rfl, rfl, rfl, w0⟩ := open_string Try.underlying9 (hval 0 9 v0 rfl rfl) h0
  obtain ⟨a1, rfl, rfl, rfl, w1⟩ := open_string Try.underlying9 (hval 1 9 v1 rfl rfl) h1
  clear hA0 hval0
  simp only [List.append_nil] at hW'
  refine (walk a0 a1 w0 w1 W).mono fun e W' ⟨he, hg⟩ => ?_
  subst he
  exact ⟨_, rfl, post_of_same (pa := []) (pv := []) hW' (fun _ _ _ => (trodAll_cons_mk (shut_bool Try.underlying4 _) trodAll_mk0)) (fun sp _ => (trodAll_cons_mk (shut_string Try.underlying9 w0) (trodAll_cons_mk (shut_string Try.underlying9 w1) trodAll_mk0))) (fun _ _ => rfl) rfl
    (hg.frame _) hg.2.1 (ok_one (by kernel_rfl) rfl (okWide_bool_mk Try.underlying4 _))⟩

theorem over : Rows.fnRepeatCountIgnoresWhatFollowsRow.holds Try.pinned (OpenSpec.ofChange Rows.fnRepeatCountIgnoresWhatFollowsSpec) :=
  OpenClaim.holds_of_wide 4 Try.f4 rfl rfl rfl rfl rfl rfl rfl ⟨rfl, rfl, rfl, rfl, rfl⟩ rfl rfl rfl rfl rfl (by kernel_rfl) Try.func4 (by kernel_rfl)
    (of_decide_eq_true (by kernel_rfl)) (by unfold Func.isWrapper; first | (rw [if_pos (by decide +kernel)]; kernel_rfl) | (rw [if_neg (by decide +kernel)]; exact ⟨rfl, rfl⟩))
    (fun os started H enc _ => lifted os started H enc)

/-- ████ THE STATEMENT ████ -/
theorem proved : Rows.FnRepeatCountIgnoresWhatFollowsSaid :=
  over
#print axioms proved
end Go.Proofs.Qxb6000037a.fnRepeatCountIgnoresWhatFollows
