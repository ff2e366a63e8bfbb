/-
  SEAT b6000450a: slices that read as bytes; laws for append, copy and make over them.
-/
import Derived.Test.Qxb6000450aWalkA
import Derived.Laws.CopyOwn
import Derived.Laws.AppendOwnNone
namespace Go.Proofs.Qxb6000450a
open Go.RowKit
open Pl

/-- The slice '.slice a l.length c' reads l in the world w. -/
def Rd (w : World) (a : Option Addr) (l : List Int) (c : Nat) : Prop :=
  (a = none ∧ l = [] ∧ c = 0) ∨
  ∃ b o : Nat, a = some ⟨b, o, none⟩ ∧ l.length ≤ c ∧ b < w.heap.size ∧ ∀ j, j < l.length → w.cell? ⟨b, o + j, none⟩ = some (.int .u8 (l.getD j 0))

theorem rd_below {w w' : World} {B : Nat} {a : Option Addr} {l : List Int} {c : Nat} (h : Rd w a l c) (hb : Below B w w') (hB : w.heap.size ≤ B) : Rd w' a l c := by
  rcases h with h | ⟨b, o, h1, h2, h3, h4⟩
  · exact Or.inl h
  · exact Or.inr ⟨b, o, h1, h2, Nat.lt_of_lt_of_le h3 hb.size, fun j hj => (hb.cell (p := ⟨b, o + j, none⟩) (Nat.lt_of_lt_of_le h3 hB)).trans (h4 j hj)⟩

theorem own_rd {w : World} {base g n cap : Nat} {l : List Int} (h : Own w base (.slice (some ⟨g, 0, none⟩) n cap) l) (hn : l.length = n) : Rd w (some ⟨g, 0, none⟩) l cap := by
  unfold Own at h
  subst hn
  refine Or.inr ⟨g, 0, rfl, ?_, ?_, fun j hj => ?_⟩
  · rcases h.2 with ⟨hq, _⟩ | ⟨g', cap', cur, hq, _, _, hnc, _⟩
    · simp at hq
    · simp at hq; omega
  · exact (h.lt g rfl).2
  · rw [Nat.zero_add, h.cellAt j (by omega), List.getElem?_map, List.getElem?_eq_getElem hj, List.getD_eq_getElem?_getD, List.getElem?_eq_getElem hj]; rfl

/-- A row that is owned and not empty, written out. -/
theorem own_form {w : World} {base : Nat} {v : Value} {l : List Int} {n : Nat} (h : Own w base v l) (hn : l.length = n) (h0 : 0 < n) : ∃ g cap : Nat, v = .slice (some ⟨g, 0, none⟩) n cap ∧ n ≤ cap ∧ base ≤ g ∧ g < w.heap.size := by
  unfold Own at h
  rw [hn] at h
  obtain ⟨g, cap, rfl, hb, hg⟩ := h.form h0
  refine ⟨g, cap, rfl, ?_, hb, hg⟩
  rcases h.2 with ⟨hq, _⟩ | ⟨g', cap', cur, hq, _, _, hnc, _⟩
  · simp at hq
  · simp at hq; omega

/-- 'append(b, part...)', b the call's own, part a slice that reads p. -/
theorem wpList_append_rd {ops : Array Oper} {rest : List Oper} {o : Oper} {a : Act} {Q : Exit → Act → World → Prop} (w : World) (hgd : o.guard = none) (s x : Operand) (t : TypeId)
    (ho : o.op = .call { callee := .builtin .append, args := #[s, x], argTypes := #[t, t] }) (ht : Try.prog.underlying t = some (.slice 5))
    (base : Nat) (v : Value) (l : List Int) (hs : a.eval s = v) (hown : Own w base v l) (A : Option Addr) (m c : Nat) (p : List Int) (hx : a.eval x = .slice A m c) (hm : p.length = m) (hrd : Rd w A p c)
    (hlen : l.length + m ≤ 16777216) (hbase : base ≤ w.heap.size)
    (h : ∀ v' w', Own w' base v' (l ++ p) → w.grownBy w' v.ownBlock → wpList Try.prog ops Q rest (a.put o.dst v') w') : wpList Try.prog ops Q (o :: rest) a w := by
  obtain ⟨i0, hi, hz0, hz1, hz2⟩ := info_parts Try.info5
  rcases hrd with ⟨rfl, rfl, rfl⟩ | ⟨b, of, rfl, h2, h3, h4⟩
  · obtain rfl : m = 0 := hm.symm
    refine wpList_append_own_none hgd s x t ho base 5 i0 1 ht hi v l.length _ hs hown hx ?_
    exact h v w (by rw [List.append_nil]; exact hown) ⟨rfl, rfl, rfl, Nat.le_refl _, fun _ _ _ => rfl⟩
  · refine wpList_append_own _ hgd s x t ho base 5 i0 (.int .u8 0) 1 1 ht hi hz0 hz1 hz2 rfl (by decide) v l.length _ hs hown ⟨b, of, none⟩ m c (p.map (Value.int .u8)) hx (by simp [hm]) ?_ ?_ ?_ ?_ hbase ?_
    · intro j u hu
      rw [List.getElem?_map] at hu
      by_cases hj : j < p.length
      · have e : (⟨b, of, none⟩ : Addr).add j = ⟨b, of + j, none⟩ := by unfold Addr.add; split <;> simp_all
        rw [e, h4 j hj, ← hu, List.getElem?_eq_getElem hj, List.getD_eq_getElem?_getD, List.getElem?_eq_getElem hj]; rfl
      · rw [List.getElem?_eq_none (by omega)] at hu; simp at hu
    · intro u hu
      obtain ⟨y, _, rfl⟩ := List.mem_map.1 hu
      rfl
    · unfold maxLen; omega
    · omega
    · intro v' w' hown' hg _
      refine h v' w' ?_ hg
      unfold Own
      rw [List.length_append, List.map_append, hm]
      exact hown'

/-- 'copy(b, head)', b the call's own and at least as long as head. -/
theorem wpList_copy_rd {ops : Array Oper} {rest : List Oper} {o : Oper} {a : Act} {Q : Exit → Act → World → Prop} (w : World) (hgd : o.guard = none) (d s : Operand)
    (ho : o.op = .call { callee := .builtin .copy, args := #[d, s], argTypes := #[22, 22] })
    (base g n cap : Nat) (l : List Int) (hd : a.eval d = .slice (some ⟨g, 0, none⟩) n cap) (hl : l.length = n) (hown : Own w base (.slice (some ⟨g, 0, none⟩) n cap) l)
    (A : Option Addr) (m c : Nat) (p : List Int) (hs : a.eval s = .slice A m c) (hm : p.length = m) (hrd : Rd w A p c) (hmn : m ≤ n)
    (B : Nat) (w0 : World) (hb : Below B w0 w) (hB : B ≤ g)
    (h : ∀ w', Own w' base (.slice (some ⟨g, 0, none⟩) n cap) (p ++ l.drop m) → Below B w0 w' → wpList Try.prog ops Q rest (a.put o.dst (goInt m)) w') : wpList Try.prog ops Q (o :: rest) a w := by
  unfold Own at hown
  rw [hl] at hown
  rcases hown.2 with ⟨hq, _⟩ | ⟨g', cap', cur, hq, hbg, hh, hnc, hcm, hcs, htake⟩
  · simp at hq
  · simp at hq
    obtain ⟨rfl, rfl⟩ := hq
    refine wpList_copy_splice hgd d s 22 22 ho 5 Try.underlying22 (by kernel_rfl) (some ⟨g, 0, none⟩) A n cap m c hd hs g 0 cur.toList 5 (by simpa using hh) (p.map (Value.int .u8)) (by simp [hm]; exact (Nat.min_eq_left hmn).symm) ?_ (by simp [hm]; omega) ?_ B w0 hb hB ?_
    · intro h0
      refine ⟨rfl, ?_⟩
      rcases hrd with ⟨_, rfl, _⟩ | ⟨b, of, rfl, h2, h3, h4⟩
      · simp at h0
      · refine ⟨_, rfl, fun j u hu => ?_⟩
        rw [List.getElem?_map] at hu
        by_cases hj : j < p.length
        · have e : (⟨b, of, none⟩ : Addr).add j = ⟨b, of + j, none⟩ := by unfold Addr.add; split <;> simp_all
          rw [e, h4 j hj, ← hu, List.getElem?_eq_getElem hj, List.getD_eq_getElem?_getD, List.getElem?_eq_getElem hj]; rfl
        · rw [List.getElem?_eq_none (by omega)] at hu; simp at hu
    · intro u hu
      obtain ⟨y, _, rfl⟩ := List.mem_map.1 hu
      rfl
    · intro w' hg hb'
      have hln : (p ++ l.drop m).length = n := by simp; omega
      have hx : (p.map (Value.int .u8)).length = m := by simp [hm]
      rw [hx]
      refine h w' ?_ hb'
      unfold Own
      rw [hln]
      refine ⟨by simp; omega, Or.inr ⟨g, cap, _, rfl, hbg, hg.out, hnc, hcm, ?_, ?_⟩⟩
      · rw [List.size_toArray, length_splice _ _ _ (by rw [hx, Array.length_toList]; omega), Array.length_toList]; exact hcs
      · rw [List.toList_toArray]
        unfold splice
        rw [List.take_zero, List.nil_append, Nat.zero_add, hx, Nat.mul_one]
        rw [Nat.mul_one] at htake
        rw [List.take_append, hx, List.take_of_length_le (by omega), List.map_append]
        congr 1
        rw [List.map_drop, ← htake, List.drop_take]

/-- 'make([]byte, n, c)'. -/
theorem wpList_make_zero {ops : Array Oper} {rest : List Oper} {o : Oper} {a : Act} {Q : Exit → Act → World → Prop} (w : World) (hgd : o.guard = none) (lo co : Operand) (hop : o.op = Op.makeSlice 22 lo co)
    (base : Nat) (kl kc : IntKind) (L C : Int) (n c : Nat) (hl : a.eval lo = .int kl L) (hc : a.eval co = .int kc C) (hL : L = (n : Int)) (hC : C = (c : Int)) (hnc : n ≤ c) (hcm : c ≤ 16777216) (hb : base ≤ w.heap.size)
    (h : ∀ w', Own w' base (.slice (some ⟨w.heap.size, 0, none⟩) n c) (List.replicate n 0) → w.grownBy w' none → wpList Try.prog ops Q rest (a.put o.dst (.slice (some ⟨w.heap.size, 0, none⟩) n c)) w') : wpList Try.prog ops Q (o :: rest) a w := by
  obtain ⟨i0, hi, hz0, hz1, hz2⟩ := info_parts Try.info5
  subst hL hC
  refine wpList_plain hgd fun K hK' => ?_
  have hrun := run_make (P := Try.prog) w 22 5 i0 (.int .u8 0) Try.underlying22 hi hz0 kl kc (n : Int) (c : Int) (by omega) (by omega) (by rw [hz2]; omega) (by omega)
  simp only [Int.toNat_natCast, hz1, Nat.mul_one] at hrun
  unfold Oper.wp
  simp [execOp, hop, hl, hc, hrun, Result.andThen]
  refine hK' _ _ (h _ ?_ (World.grownBy_alloc w _ none))
  unfold Own
  rw [List.length_replicate]
  refine ⟨by simp, Or.inr ⟨w.heap.size, c, _, rfl, hb, heap_alloc_new w _, hnc, by unfold maxLen; omega, ?_, ?_⟩⟩
  · simp [size_madeCells]
  · rw [show (Value.int IntKind.u8 0).cells = #[Value.int IntKind.u8 0] from rfl, toList_madeCells_one, List.take_replicate, Nat.mul_one, Nat.min_eq_left hnc, List.map_replicate]

end Go.Proofs.Qxb6000450a
