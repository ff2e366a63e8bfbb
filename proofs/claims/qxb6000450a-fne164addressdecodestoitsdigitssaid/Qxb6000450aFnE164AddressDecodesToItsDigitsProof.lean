/-
  THE PROOF OF 'Rows.FnE164AddressDecodesToItsDigitsSaid': the guide's frame (its last step turned to 'Below'), the walk filled.
-/
import Derived.Test.Qxb6000450aRows
import Derived.Test.Qxb6000450aWalkB
import Derived.WalkKit
import Derived.ProofKit
import Derived.OpenShut
import Derived.ShutString
import Derived.ChangeOld
import Derived.Below
namespace Go.Proofs.Qxb6000450a.fnE164AddressDecodesToItsDigits
open Go.ChangeShapes Go.WideShapes Go.ChangeAt Go.RowKit
open Go.ChangeMaps (open_string shut_string)
set_option linter.unusedVariables false      -- a walk need not use every 'w<i>' (that an integer argument fits its kind)

theorem own : ownKnob Try.prog.godebug = none := by kernel_rfl

open Pl

/-! ### STEP 1: THE WALK -/
theorem zz_yes (t : ByteArray) (q : Int) (w : World) (h : t.size ≤ 1048576) :
    Calls Try.prog 16 #[.string t, .int .u8 q] w fun e w' => e = .returned (.bool true) ∧ w = w' := by
  go_enter Try.func16, Try.ntmps16
  go_wp2
  go_ret
  exact ⟨rfl, rfl⟩

theorem zz_no (t : ByteArray) (q : Int) (w : World) (ht : t.size ≤ maxLen) (h : 1048576 < t.size) :
    Calls Try.prog 16 #[.string t, .int .u8 q] w fun e w' => e = .returned (.bool false) ∧ w = w' := by
  unfold maxLen at ht
  go_enter Try.func16, Try.ntmps16
  go_wp2
  go_ret
  exact ⟨rfl, rfl⟩

theorem cell_drewN (w : World) (n : Nat) (a : Addr) : (w.drewN n).cell? a = w.cell? a := by
  induction n with
  | zero => rfl
  | succ n ih => exact ih

/-- What the address reads as. -/
theorem ad_cells {w : World} {base g cap : Nat} {s : ByteArray} {q : Int} {m : Nat} (hm : (s.size + 1) / 2 = m) (h : Own w base (.slice (some ⟨g, 0, none⟩) (5 + m) cap) (ad s q)) :
    w.cell? ⟨g, 0, none⟩ = some (.int .u8 18) ∧ w.cell? ⟨g, 1, none⟩ = some (.int .u8 q) ∧ w.cell? ⟨g, 2, none⟩ = some (.int .u8 0) ∧ w.cell? ⟨g, 3, none⟩ = some (.int .u8 (sch s.size)) ∧ w.cell? ⟨g, 4, none⟩ = some (.int .u8 4) ∧
    ∀ j, j < m → w.cell? ⟨g, 5 + j, none⟩ = some (.int .u8 (oct s j)) := by
  have hl : (ad s q).length = 5 + m := by rw [ad_length, hm]
  unfold Own at h
  rw [hl] at h
  have c := fun j (hj : j < (5 + m) * 1) => h.cellAt j hj
  have e : ∀ j, ((ad s q).map (Value.int .u8))[j]? = ((ad s q)[j]?).map (Value.int .u8) := fun j => by rw [List.getElem?_map]
  refine ⟨?_, ?_, ?_, ?_, ?_, fun j hj => ?_⟩
  · rw [c 0 (by omega), e]; rfl
  · rw [c 1 (by omega), e]; rfl
  · rw [c 2 (by omega), e]; rfl
  · rw [c 3 (by omega), e]; rfl
  · rw [c 4 (by omega), e]; rfl
  · rw [c (5 + j) (by omega), e]
    unfold ad hd
    rw [List.getElem?_append_right (by simp)]
    unfold octs
    rw [List.getElem?_map, List.getElem?_range (by simp; omega)]
    simp

set_option maxHeartbeats 1000000 in
theorem walk (a0 : ByteArray) (a1 : Int) (w0 : a0.size ≤ maxLen) (w1 : (Lit.int .u8 a1).wf = true) (w : World) :
    Calls Try.prog 6 #[.string a0, .int .u8 a1] w fun e w' => e = .returned (.bool true) ∧ Below w.heap.size w w' := by
  clear w1
  by_cases h : a0.size ≤ 1048576
  · by_cases hx : 65536 < a0.size
    · go_enter Try.func6, Try.ntmps6
      go_wp2_with fail
      refine (zz_yes a0 _ _ h).mono ?_
      rintro e w' ⟨rfl, rfl⟩
      go_wp2
      go_ret
      exact ⟨rfl, Below.refl _ _⟩
    · go_enter Try.func6, Try.ntmps6
      go_wp2_with fail
      refine (zz_yes a0 _ _ h).mono ?_
      rintro e w' ⟨rfl, rfl⟩
      go_wp2
      go_loop [5] (fun i => ∃ k : Nat, k ≤ a0.size ∧ i = .int .i64 (k : Int) ∧ Hid (∀ j, j < k → 48 ≤ bt a0 j ∧ bt a0 j ≤ 57)) (fun i => a0.size - (intOf i).toNat)
      case atStart => exact ⟨0, Nat.zero_le _, rfl, fun j hj => absurd hj (by omega)⟩
      case round =>
        obtain ⟨k, hk, rfl, H⟩ := hrel
        by_cases hlt : k < a0.size
        · have he := bt_eq a0 k hlt
          by_cases hd : 48 ≤ bt a0 k ∧ bt a0 k ≤ 57
          · have H' : Hid (∀ j, j < k + 1 → 48 ≤ bt a0 j ∧ bt a0 j ≤ 57) := by
              intro j hj
              by_cases hjk : j = k
              · subst hjk; exact hd
              · exact H.out j (by omega)
            rw [← he] at hd
            obtain ⟨hd1, hd2⟩ := hd
            clear he H
            go_wp2
            go_round
            case rel => exact ⟨k + 1, by omega, by go_num, H'⟩
            case measure => simp [intOf]; omega
          · rw [← he] at hd
            clear he H
            by_cases hd1 : a0[k].toNat < 48
            · clear hd
              go_wp2
              go_ret
              exact ⟨rfl, Below.refl _ _⟩
            · have hd2 : 57 < a0[k].toNat := by omega
              clear hd
              go_wp2
              go_ret
              exact ⟨rfl, Below.refl _ _⟩
        · obtain rfl : k = a0.size := by omega
          clear hk hlt
          go_wp2_with fail
          refine (e164_calls a0 a1 _ h).mono ?_
          rintro e w1 ⟨v, rfl, hown, hb⟩
          obtain ⟨g, cap, hv, hbg, hgl⟩ := hown.form (by rw [ad_length]; omega)
          obtain ⟨m, hm⟩ : ∃ m, (a0.size + 1) / 2 = m := ⟨_, rfl⟩
          have hl : (ad a0 a1).length = 5 + m := by rw [ad_length, hm]
          rw [hl] at hv
          subst hv
          obtain ⟨c0, c1, c2, c3, c4, cb⟩ := ad_cells hm hown
          have hcap : 5 + m ≤ cap := by
            rcases hown.2 with ⟨hq, _⟩ | ⟨g', cap', cur, hq, _, _, hnc, _⟩
            · simp at hq
            · simp at hq; omega
          have hpar : (sch a0.size = 17 ∧ a0.size + 1 = 2 * m) ∨ (sch a0.size = 18 ∧ a0.size = 2 * m) := by
            unfold sch
            by_cases hp : a0.size % 2 = 1
            · exact Or.inl ⟨if_pos hp, by omega⟩
            · exact Or.inr ⟨if_neg hp, by omega⟩
          have hm3 : m ≤ 65536 := by omega
          have hb' : Hid (Below w.heap.size w w1) := hb
          have D := decode_calls a0 a1 (sch a0.size) g cap m w1 hpar hm3 hcap H hgl c0 c1 c2 c3 c4 cb
          have D' : Hid (Calls Try.prog 18 #[.slice (some ⟨g, 0, none⟩) (5 + m) cap] w1 fun e w' => ∃ v, e = .returned (.tuple #[.bool true, .int .u8 a1, v]) ∧ Own w' w1.heap.size v (sb a0 a0.size) ∧ Below w1.heap.size w1 w') := D
          clear D hown hb hbg hgl hm hl c0 c1 c2 c3 c4 cb hcap hpar hm3
          go_wp2_with fail
          refine D'.out.mono ?_
          rintro e w2 ⟨v2, rfl, hown2, hb2⟩
          clear D'
          have B2 : Hid (Below w.heap.size w w2) := hb'.out.trans (hb2.mono hb'.out.size)
          unfold Own at hown2
          rw [sb_length] at hown2
          rcases hown2.2 with ⟨rfl, h0⟩ | ⟨g2, cap2, cur, rfl, _, _, hnc, _, _, _⟩
          · have h0' : a0.size ≤ 0 := by omega
            clear hown2 h0 hb2 hb' H
            go_wp2
            go_loopw [10] (fun i wr => i = .int .i64 0 ∧ Hid (Below w.heap.size w wr)) (fun _ _ => 0)
            case atStart => exact ⟨rfl, B2⟩
            case round =>
              obtain ⟨rfl, B3⟩ := hrel
              go_wp2
              go_ret
              exact ⟨rfl, B3.out⟩
          · have C : Hid (∀ j, j < a0.size → w2.cell? ⟨g2, j, none⟩ = some (.int .u8 (bt a0 j : Int))) := by
              intro j hj
              rw [hown2.cellAt j (by omega), List.getElem?_map, sb_get _ _ _ hj]; rfl
            clear hown2 hb2 hb' H
            go_wp2
            go_loopw [10] (fun i wr => ∃ k : Nat, k ≤ a0.size ∧ i = .int .i64 (k : Int) ∧ Hid (∀ j, j < a0.size → wr.cell? ⟨g2, j, none⟩ = some (.int .u8 (bt a0 j : Int))) ∧ Hid (Below w.heap.size w wr)) (fun i _ => a0.size - (intOf i).toNat)
            case atStart => exact ⟨0, Nat.zero_le _, rfl, C, B2⟩
            case round =>
              clear C B2
              obtain ⟨k, hk, rfl, C, B3⟩ := hrel
              by_cases hlt : k < a0.size
              · have he := bt_eq a0 k hlt
                have hc := C.out k hlt
                have hlt' : (k : Int) < (a0.size : Int) := by omega
                have hk0 : (0 : Int) ≤ (k : Int) := by omega
                rw [← he] at hc
                clear he
                go_wp2
                go_quiet (fail)
                go_wp2
                go_roundw
                case rel => exact ⟨k + 1, by omega, by go_num, fun j hj => by rw [cell_drewN]; exact C.out j hj, bel_drewN B3.out _⟩
                case measure => simp [intOf]; omega
              · go_wp2
                go_ret
                exact ⟨rfl, B3.out⟩
  · go_enter Try.func6, Try.ntmps6
    go_wp2_with fail
    refine (zz_no a0 _ _ w0 (by omega)).mono ?_
    rintro e w' ⟨rfl, rfl⟩
    go_wp2
    go_ret
    exact ⟨rfl, Below.refl _ _⟩

/-! ### THE ROW's STEP: WRITTEN OUT: LEAVE IT -/
set_option maxRecDepth 100000 in
theorem lifted (os : Os) (started : os.Started) (H : Type) (enc : TypeId × Value → H) :
    ReturnsInHanded {} Try.checked os 6 .any (Rows.fnE164AddressDecodesToItsDigitsSpec.pre6 enc Try.prog Try.f6 Rows.fnE164AddressDecodesToItsDigitsRow.domain false) (Rows.fnE164AddressDecodesToItsDigitsSpec.post enc Try.prog Try.f6 false true false false) := by
  refine returnsInHanded_of_change (C := Try.checked) own started (by kernel_rfl) Try.func6
    (ChangeSpec.witness6 (enc := enc) (C := Try.checked) false ⟨#[], #[.string ByteArray.empty, .int .u8 0], []⟩ 8 (by kernel_rfl) (by kernel_rfl) (by kernel_rfl) (by kernel_rfl)) ?_
  intro W base args ds gs before hval0 hW hcnd _
  have hval : ∀ (j : Nat) t v, Try.f6.params[j]? = some t → args[j]? = some v → Value.okWide Try.prog W .any base t v := hval0
  have hW' := hW
  obtain ⟨p, q, hA0, hV, rfl, hfz, hnd⟩ := hW
  have hA : DataW.TrodAll enc Try.prog W 0 (fun _ => true) true Try.f6.params.toList args.toList ds p := hA0
  rw [Try.params6] at hA hval
  obtain ⟨v0, vs0, d0, ds0, p0, q0, hargs, rfl, rfl, h0, r0⟩ := trodAll_cons hA
  obtain ⟨v1, vs1, d1, ds1, p1, q1, rfl, rfl, rfl, h1, r1⟩ := trodAll_cons r0
  obtain ⟨rfl, rfl, rfl⟩ := trodAll_nil r1
  obtain rfl : args = #[v0, v1] := by cases args; simp_all
  obtain ⟨rfl, rfl⟩ := trodVars_none hV
  obtain ⟨a0, rfl, rfl, rfl, w0⟩ := open_string Try.underlying9 (hval 0 9 v0 rfl rfl) h0
  obtain ⟨a1, rfl, rfl, rfl, w1⟩ := open_int Try.underlying5 (hval 1 5 v1 rfl rfl) h1
  clear hA0 hval0
  simp only [List.append_nil] at hW'
  refine (walk a0 a1 w0 w1 W).mono fun e W' ⟨he, hg⟩ => ?_
  subst he
  exact ⟨_, rfl, _, _, _, [], _, [], hW', trodAll_mk1 (shut_bool Try.underlying4 _), (trodAll_cons_mk (shut_string Try.underlying9 w0) (trodAll_cons_mk (shut_int Try.underlying5 w1) trodAll_mk0)), rfl, hg.frame _, fun h => by cases h⟩

theorem over : Rows.fnE164AddressDecodesToItsDigitsRow.holds Try.pinned (OpenSpec.ofChange Rows.fnE164AddressDecodesToItsDigitsSpec) :=
  OpenClaim.holds_of_wide 6 Try.f6 rfl rfl rfl rfl rfl rfl rfl ⟨rfl, rfl, rfl, rfl, rfl⟩ rfl rfl rfl rfl rfl (by kernel_rfl) Try.func6 (by kernel_rfl)
    (of_decide_eq_true (by kernel_rfl)) (by unfold Func.isWrapper; first | (rw [if_pos (by decide +kernel)]; kernel_rfl) | (rw [if_neg (by decide +kernel)]; exact ⟨rfl, rfl⟩))
    (fun os started H enc _ => lifted os started H enc)

/-- ████ THE STATEMENT ████ -/
theorem proved : Rows.FnE164AddressDecodesToItsDigitsSaid :=
  over
#print axioms proved
end Go.Proofs.Qxb6000450a.fnE164AddressDecodesToItsDigits
