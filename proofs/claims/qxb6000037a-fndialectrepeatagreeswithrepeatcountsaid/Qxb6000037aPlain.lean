/-
  THE PLAIN SIDE OF SEAT b6000037a: what 'repeatCount' and '(*dialectScan).repeat' compute, as functions on bytes; no Go in sight.
-/
namespace Go.Proofs.Qxb6000037a.Pl

/-- The byte at i, as a number; 0 beyond the end. -/
def bt (t : ByteArray) (i : Nat) : Nat := (t.data.toList[i]?.getD 0).toNat

theorem bt_eq (t : ByteArray) (i : Nat) (h : i < t.size) : t[i].toNat = bt t i := by
  have h' : i < t.data.toList.length := by simpa using h
  unfold bt
  rw [List.getElem?_eq_getElem h']
  rfl

theorem bt_lt (t : ByteArray) (i : Nat) : bt t i < 256 := by
  unfold bt; exact UInt8.toNat_lt _

/-- Is it the number of a decimal digit? -/
def isD (n : Nat) : Bool := decide (48 ≤ n) && decide (n ≤ 57)

theorem isD_iff (n : Nat) : isD n = true ↔ 48 ≤ n ∧ n ≤ 57 := by simp [isD]
theorem isD_not (n : Nat) : isD n = false ↔ n < 48 ∨ 57 < n := by
  have := isD_iff n
  cases h : isD n
  · simp [h] at this; simp; omega
  · rw [h] at this; simp at this; simp; omega

/-- 'e' is where the run of digits from 'i' on ends. -/
def IsEnd (t : ByteArray) (i e : Nat) : Prop :=
  i ≤ e ∧ (∀ j, i ≤ j → j < e → j < t.size ∧ isD (bt t j) = true) ∧ ¬ (e < t.size ∧ isD (bt t e) = true)

def dGo (t : ByteArray) : Nat → Nat → Nat
  | 0, i => i
  | f + 1, i => if i < t.size ∧ isD (bt t i) = true then dGo t f (i + 1) else i

def dEnd (t : ByteArray) (i : Nat) : Nat := dGo t (t.size - i) i

theorem dGo_isEnd (t : ByteArray) : ∀ (f i : Nat), t.size - i ≤ f → IsEnd t i (dGo t f i)
  | 0, i, h => by
    refine ⟨Nat.le_refl _, fun j h1 h2 => absurd h2 (by simp only [dGo]; omega), fun h3 => ?_⟩
    simp only [dGo] at h3; omega
  | f + 1, i, h => by
    unfold dGo
    by_cases hc : i < t.size ∧ isD (bt t i) = true
    · rw [if_pos hc]
      obtain ⟨a, b, c⟩ := dGo_isEnd t f (i + 1) (by omega)
      refine ⟨by omega, fun j h1 h2 => ?_, c⟩
      by_cases hj : j = i
      · subst hj; exact hc
      · exact b j (by omega) h2
    · rw [if_neg hc]
      exact ⟨Nat.le_refl _, fun j h1 h2 => absurd h2 (by omega), hc⟩

theorem dEnd_isEnd (t : ByteArray) (i : Nat) : IsEnd t i (dEnd t i) := dGo_isEnd t _ i (Nat.le_refl _)

theorem isEnd_unique {t : ByteArray} {i e e' : Nat} (h : IsEnd t i e) (h' : IsEnd t i e') : e = e' := by
  obtain ⟨a, b, c⟩ := h
  obtain ⟨a', b', c'⟩ := h'
  rcases Nat.lt_trichotomy e e' with hlt | rfl | hlt
  · exact absurd (b' e a hlt) c
  · rfl
  · exact absurd (b e' a' hlt) c'

theorem dEnd_of {t : ByteArray} {i e : Nat} (h : IsEnd t i e) : dEnd t i = e := isEnd_unique (dEnd_isEnd t i) h

theorem dEnd_le {t : ByteArray} {i : Nat} (h : i ≤ t.size) : dEnd t i ≤ t.size := by
  obtain ⟨a, b, _⟩ := dEnd_isEnd t i
  by_cases he : dEnd t i = i
  · omega
  · have := (b (dEnd t i - 1) (by omega) (by omega)).1; omega

theorem dEnd_ge (t : ByteArray) (i : Nat) : i ≤ dEnd t i := (dEnd_isEnd t i).1

/-- Two texts that agree from i up to and with the end of the run. -/
theorem dEnd_agree {t t' : ByteArray} {i n : Nat} (hn : dEnd t i < n) (hs : n ≤ t.size) (hs' : n ≤ t'.size) (h : ∀ j, j < n → bt t' j = bt t j) : dEnd t' i = dEnd t i := by
  obtain ⟨a, b, c⟩ := dEnd_isEnd t i
  refine dEnd_of ⟨a, fun j h1 h2 => ⟨by omega, by rw [h j (by omega)]; exact (b j h1 h2).2⟩, fun h3 => c ⟨by omega, ?_⟩⟩
  rw [← h _ hn]; exact h3.2

/-- A run of two digits or more that begins with '0'. -/
def lz (t : ByteArray) (a e : Nat) : Bool := decide (1 < e - a) && decide (bt t a = 48)

theorem lz_agree {t t' : ByteArray} {a e n : Nat} (hn : a < n) (h : ∀ j, j < n → bt t' j = bt t j) : lz t' a e = lz t a e := by
  unfold lz; rw [h a hn]

/-- What 'repeatCount' answers. -/
def rc (t : ByteArray) : Int × Bool :=
  if dEnd t 1 = 1 then (-1, false)
  else if dEnd t 1 < t.size ∧ bt t (dEnd t 1) = 44 then
    if dEnd t (dEnd t 1 + 1) = t.size ∨ bt t (dEnd t (dEnd t 1 + 1)) ≠ 125 then (-1, false)
    else ((dEnd t (dEnd t 1 + 1) : Int) + 1, lz t 1 (dEnd t 1) || lz t (dEnd t 1 + 1) (dEnd t (dEnd t 1 + 1)))
  else if dEnd t 1 = t.size ∨ bt t (dEnd t 1) ≠ 125 then (-1, false)
  else ((dEnd t 1 : Int) + 1, lz t 1 (dEnd t 1))

theorem size_of_dEnd {t : ByteArray} (h : dEnd t 1 ≠ 1) : 1 < t.size ∧ dEnd t 1 ≤ t.size := by
  obtain ⟨a, b, _⟩ := dEnd_isEnd t 1
  have h1 := (b 1 (Nat.le_refl _) (by omega)).1
  exact ⟨h1, dEnd_le (by omega)⟩

/-- A refusal is (-1, false); a count is told by its length. -/
theorem rc_cases (t : ByteArray) : (rc t = (-1, false)) ∨ (∃ n : Nat, (rc t).1 = n ∧ 3 ≤ n ∧ n ≤ t.size ∧ bt t (n - 1) = 125) := by
  unfold rc
  by_cases h1 : dEnd t 1 = 1
  · rw [if_pos h1]; exact Or.inl rfl
  · rw [if_neg h1]
    obtain ⟨hs, hl⟩ := size_of_dEnd h1
    have hg := dEnd_ge t 1
    by_cases h2 : dEnd t 1 < t.size ∧ bt t (dEnd t 1) = 44
    · rw [if_pos h2]
      have hg2 := dEnd_ge t (dEnd t 1 + 1)
      have hl2 := dEnd_le (t := t) (i := dEnd t 1 + 1) (by omega)
      by_cases h3 : dEnd t (dEnd t 1 + 1) = t.size ∨ bt t (dEnd t (dEnd t 1 + 1)) ≠ 125
      · rw [if_pos h3]; exact Or.inl rfl
      · rw [if_neg h3]
        refine Or.inr ⟨dEnd t (dEnd t 1 + 1) + 1, by simp, by omega, by omega, ?_⟩
        rw [Nat.add_sub_cancel]
        exact Classical.byContradiction fun hn => h3 (Or.inr hn)
    · rw [if_neg h2]
      by_cases h3 : dEnd t 1 = t.size ∨ bt t (dEnd t 1) ≠ 125
      · rw [if_pos h3]; exact Or.inl rfl
      · rw [if_neg h3]
        refine Or.inr ⟨dEnd t 1 + 1, by simp, by omega, by omega, ?_⟩
        rw [Nat.add_sub_cancel]
        exact Classical.byContradiction fun hn => h3 (Or.inr hn)

/-- A count is read off its own bytes: whatever follows them. -/
theorem rc_agree {t t' : ByteArray} {n : Nat} (hn : (rc t).1 = n) (hs : n ≤ t.size) (hs' : n ≤ t'.size) (h : ∀ j, j < n → bt t' j = bt t j) : rc t' = rc t := by
  by_cases h1 : dEnd t 1 = 1
  · exfalso; unfold rc at hn; rw [if_pos h1] at hn; simp at hn <;> omega
  · obtain ⟨hz, hl⟩ := size_of_dEnd h1
    have hg := dEnd_ge t 1
    by_cases h2 : dEnd t 1 < t.size ∧ bt t (dEnd t 1) = 44
    · have hg2 := dEnd_ge t (dEnd t 1 + 1)
      have hl2 := dEnd_le (t := t) (i := dEnd t 1 + 1) (by omega)
      by_cases h3 : dEnd t (dEnd t 1 + 1) = t.size ∨ bt t (dEnd t (dEnd t 1 + 1)) ≠ 125
      · exfalso; unfold rc at hn; rw [if_neg h1, if_pos h2, if_pos h3] at hn; simp at hn <;> omega
      · have e : n = dEnd t (dEnd t 1 + 1) + 1 := by
          unfold rc at hn; rw [if_neg h1, if_pos h2, if_neg h3] at hn; simp at hn <;> omega
        have a1 : dEnd t' 1 = dEnd t 1 := dEnd_agree (n := n) (by omega) hs hs' h
        have a2 : dEnd t' (dEnd t 1 + 1) = dEnd t (dEnd t 1 + 1) := dEnd_agree (n := n) (by omega) hs hs' h
        have h2' : dEnd t 1 < t'.size ∧ bt t' (dEnd t 1) = 44 := ⟨by omega, by rw [h _ (by omega)]; exact h2.2⟩
        have h3' : ¬ (dEnd t (dEnd t 1 + 1) = t'.size ∨ bt t' (dEnd t (dEnd t 1 + 1)) ≠ 125) := by
          rw [h _ (by omega)]; intro hx
          rcases hx with hx | hx
          · omega
          · exact h3 (Or.inr hx)
        unfold rc
        rw [a1, a2, if_neg h1, if_neg h1, if_pos h2, if_pos h2', if_neg h3, if_neg h3', lz_agree (n := n) (by omega) h, lz_agree (n := n) (by omega) h]
    · by_cases h3 : dEnd t 1 = t.size ∨ bt t (dEnd t 1) ≠ 125
      · exfalso; unfold rc at hn; rw [if_neg h1, if_neg h2, if_pos h3] at hn; simp at hn <;> omega
      · have e : n = dEnd t 1 + 1 := by
          unfold rc at hn; rw [if_neg h1, if_neg h2, if_neg h3] at hn; simp at hn <;> omega
        have a1 : dEnd t' 1 = dEnd t 1 := dEnd_agree (n := n) (by omega) hs hs' h
        have h2' : ¬ (dEnd t 1 < t'.size ∧ bt t' (dEnd t 1) = 44) := by
          rw [h _ (by omega)]; intro hx; exact h2 ⟨by omega, hx.2⟩
        have h3' : ¬ (dEnd t 1 = t'.size ∨ bt t' (dEnd t 1) ≠ 125) := by
          rw [h _ (by omega)]; intro hx
          rcases hx with hx | hx
          · omega
          · exact h3 (Or.inr hx)
        unfold rc
        rw [a1, if_neg h1, if_neg h1, if_neg h2, if_neg h2', if_neg h3, if_neg h3', lz_agree (n := n) (by omega) h]

end Go.Proofs.Qxb6000037a.Pl
