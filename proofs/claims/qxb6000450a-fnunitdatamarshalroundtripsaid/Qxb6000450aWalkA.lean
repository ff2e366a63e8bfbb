/-
  SEAT b6000450a: rows of bytes that a call owns; the walk of 'E164Address' (17).
-/
import Derived.Test.Qxb6000450aProg
import Derived.Test.Qxb6000450aPlain
import Derived.WalkKit
import Derived.WalkSpells
import Derived.WalkLawsBesides
import Derived.Deep.QuietTactic
import Derived.BigQuiet
import Derived.Deep.AppendLies
namespace Go.Proofs.Qxb6000450a
open Go.RowKit
open Pl

theorem Try.info5 : (Try.prog.info? 5).map (fun i => (i.zero, i.size, i.bytes)) = some (some (.int .u8 0), 1, 1) := by kernel_rfl

/-- The slice v owns the bytes l, in blocks from 'base' on. -/
def Own (w : World) (base : Nat) (v : Value) (l : List Int) : Prop := w.ownsRow base 5 1 v l.length (l.map (Value.int .u8))

theorem own_snoc {w : World} {base n : Nat} {v : Value} {l : List Int} {x : Int} {xs : List Value} (hn : n = l.length + 1) (hx : xs = l.map (Value.int .u8) ++ [.int .u8 x]) (h : w.ownsRow base 5 1 v n xs) : Own w base v (l ++ [x]) := by
  subst hn hx
  unfold Own
  rw [List.length_append, List.map_append]
  exact h

theorem bel_own {B : Nat} {w wr w1 : World} {v : Value} {l : List Int} {base : Nat} (hb : Below B w wr) (hown : Own wr base v l) (hB : B ≤ base) (hs : B ≤ wr.heap.size) (hg : wr.grownBy w1 v.ownBlock) : Below B w w1 :=
  hb.grown hg hs (fun k hk => Nat.le_trans hB (hown.lt k hk).1)

theorem own_start (w : World) (q c : Int) (n : Nat) (s : ByteArray) (S : Hid (sch n = c)) :
    Own (w.alloc (Obj.cells #[Value.int IntKind.u8 18, Value.int IntKind.u8 q, Value.int IntKind.u8 0, Value.int IntKind.u8 c, Value.int IntKind.u8 4] 5)) w.heap.size (Value.slice (some ⟨w.heap.size, 0, none⟩) 5 5) (hd q n ++ octs s 0) := by
  have e : hd q n ++ octs s 0 = [18, q, 0, c, 4] := by unfold hd octs; rw [S.out]; rfl
  rw [e]
  exact World.ownsRow_lit w _ 5 (Nat.le_refl _) (by unfold maxLen; decide) rfl

theorem octs_own_len (q : Int) (n : Nat) (s : ByteArray) (k : Nat) : (hd q n ++ octs s k).length = 5 + k := by
  rw [List.length_append, octs_length]; rfl

set_option maxHeartbeats 2000000 in
theorem e164_calls (s : ByteArray) (q : Int) (w : World) (hs : s.size ≤ 1048576) :
    Calls Try.prog 17 #[.string s, .int .u8 q] w fun e w' => ∃ v, e = .returned v ∧ Own w' w.heap.size v (ad s q) ∧ Below w.heap.size w w' := by
  obtain ⟨i0, hi, hz0, hz1, hz2⟩ := info_parts Try.info5
  have b1 : bits BinOp.or IntKind.u8 16 1 = 17 := by decide
  have b2 : bits BinOp.or IntKind.u8 16 2 = 18 := by decide
  rcases (show (((s.size : Int) % 2 == 1) = true ∧ Hid (sch s.size = 17)) ∨ (((s.size : Int) % 2 == 1) = false ∧ Hid (sch s.size = 18)) from by
    by_cases hp : s.size % 2 = 1
    · exact Or.inl ⟨by rw [beq_iff_eq]; omega, if_pos hp⟩
    · exact Or.inr ⟨by rw [beq_eq_false_iff_ne]; omega, if_neg hp⟩) with ⟨hp', S⟩ | ⟨hp', S⟩
  all_goals
    go_enter Try.func17, Try.ntmps17
    go_wp2
    go_loopw [6, 7] (fun v i wr => ∃ k : Nat, 2 * k ≤ s.size + 1 ∧ i = .int .i64 (2 * (k : Int)) ∧ Hid (Own wr w.heap.size v (hd q s.size ++ octs s k)) ∧ Hid (Below w.heap.size w wr)) (fun _ i _ => s.size + 2 - (intOf i).toNat)
    case atStart => exact ⟨0, by omega, rfl, own_start w q _ _ s S, (Below.refl _ _).alloc (Nat.le_refl _) _⟩
    case round =>
      obtain ⟨k, hk, rfl, hown, hb⟩ := hrel
      have hsz : w.heap.size ≤ wr.heap.size := hb.out.size
      have hln := octs_own_len q s.size s k
      by_cases h1 : 2 * k < s.size
      · have e1 := bt_eq s (2 * k) h1
        by_cases h2 : 2 * k + 1 < s.size
        · have e2 := bt_eq s (2 * k + 1) h2
          have O : Hid (oct s k = bits BinOp.or IntKind.u8 (((s[2 * k].toNat : Int) - 48) % 256) (((s[2 * k + 1].toNat : Int) - 48) % 256 * 16 % 256)) := by
            unfold Hid oct o2; rw [if_pos h2, e1, e2]
          clear e1 e2
          go_wp2_with (at_builtin; refine wpList_append_own _ rfl _ _ 26 rfl w.heap.size 5 i0 (.int .u8 0) 1 1 Try.underlying26 hi hz0 hz1 hz2 rfl (by decide) _ _ _ rfl (hown.out.alloc _) ⟨wr.heap.size, 0, none⟩ 1 1 [.int .u8 (bits BinOp.or IntKind.u8 (((s[2 * k].toNat : Int) - 48) % 256) (((s[2 * k + 1].toNat : Int) - 48) % 256 * 16 % 256))] rfl rfl ?c1 ?c2 ?c3 ?c4 ?c5 ?_)
          case c1 => exact cell_one_new _ _ _
          case c2 => intro u hu; simp at hu; subst hu; rfl
          case c3 => rw [hln]; unfold maxLen; omega
          case c4 => rw [hln]; omega
          case c5 => simp; omega
          intro v' w1 hown' hgrow _
          have N : Hid (Own w1 w.heap.size v' (hd q s.size ++ octs s (k + 1))) := by
            unfold Hid
            rw [octs_succ, ← List.append_assoc, O.out]
            exact own_snoc (by rw [hln]) (by simp) hown'
          have B : Hid (Below w.heap.size w w1) := bel_own (hb.out.alloc (by omega) _) (hown.out.alloc _) (Nat.le_refl _) (by simp; omega) hgrow
          clear hown' hgrow O
          go_wp2
          go_roundw
          case rel => exact ⟨k + 1, by omega, by go_num, N, B⟩
          case measure => simp [intOf]; omega
        · have O : Hid (oct s k = (((s[2 * k].toNat : Int) - 48) % 256)) := by
            unfold Hid oct o1; rw [if_neg h2, e1]
          clear e1
          go_wp2_with (at_builtin; refine wpList_append_own _ rfl _ _ 26 rfl w.heap.size 5 i0 (.int .u8 0) 1 1 Try.underlying26 hi hz0 hz1 hz2 rfl (by decide) _ _ _ rfl (hown.out.alloc _) ⟨wr.heap.size, 0, none⟩ 1 1 [.int .u8 (((s[2 * k].toNat : Int) - 48) % 256)] rfl rfl ?c1 ?c2 ?c3 ?c4 ?c5 ?_)
          case c1 => exact cell_one_new _ _ _
          case c2 => intro u hu; simp at hu; subst hu; rfl
          case c3 => rw [hln]; unfold maxLen; omega
          case c4 => rw [hln]; omega
          case c5 => simp; omega
          intro v' w1 hown' hgrow _
          have N : Hid (Own w1 w.heap.size v' (hd q s.size ++ octs s (k + 1))) := by
            unfold Hid
            rw [octs_succ, ← List.append_assoc, O.out]
            exact own_snoc (by rw [hln]) (by simp) hown'
          have B : Hid (Below w.heap.size w w1) := bel_own (hb.out.alloc (by omega) _) (hown.out.alloc _) (Nat.le_refl _) (by simp; omega) hgrow
          clear hown' hgrow O
          go_wp2
          go_roundw
          case rel => exact ⟨k + 1, by omega, by go_num, N, B⟩
          case measure => simp [intOf]; omega
      · have hkk : (s.size + 1) / 2 = k := by omega
        have A : Hid (ad s q = hd q s.size ++ octs s k) := by unfold Hid ad; rw [hkk]
        clear hkk hln
        go_wp2
        go_ret
        exact ⟨_, rfl, by rw [A.out]; exact hown.out, hb.out⟩

end Go.Proofs.Qxb6000450a
