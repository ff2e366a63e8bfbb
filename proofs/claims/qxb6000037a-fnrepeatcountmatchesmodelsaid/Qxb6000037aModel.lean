/-
  SEAT b6000037a: the plain side of 'zzModelCount': it answers what 'rc' answers. No Go in sight.
-/
import Derived.Test.Qxb6000037aPlain
namespace Go.Proofs.Qxb6000037a.Pl

/-- How many commas stand at 1 .. i. -/
def cm (t : ByteArray) : Nat → Nat
  | 0 => 0
  | i + 1 => cm t i + (if bt t (i + 1) = 44 then 1 else 0)

/-- The model's third loop: behind i rounds ('k' is i + 1): where the run at hand began, and the flag. -/
def mz (t : ByteArray) (j : Nat) : Nat → Nat × Bool
  | 0 => (1, false)
  | i + 1 => if i + 1 = j ∨ bt t (i + 1) = 44 then (i + 2, (mz t j i).2 || lz t (mz t j i).1 (i + 1)) else mz t j i

theorem cm_le (t : ByteArray) (i : Nat) : cm t i ≤ i := by
  induction i with
  | zero => simp [cm]
  | succ i ih => simp only [cm]; split <;> omega

theorem mz_le (t : ByteArray) (j i : Nat) : 1 ≤ (mz t j i).1 ∧ (mz t j i).1 ≤ i + 1 := by
  induction i with
  | zero => simp [mz]
  | succ i ih =>
    simp only [mz]
    split
    · simp
    · omega

theorem cm_zero {t : ByteArray} : ∀ {i : Nat}, cm t i = 0 → ∀ x, 1 ≤ x → x ≤ i → bt t x ≠ 44
  | 0, _, x, h1, h2 => by omega
  | i + 1, h, x, h1, h2 => by
    simp only [cm] at h
    by_cases hx : x = i + 1
    · subst hx; intro he; rw [if_pos he] at h; omega
    · exact cm_zero (i := i) (by omega) x h1 (by omega)

theorem cm_pos {t : ByteArray} : ∀ {i : Nat}, 1 ≤ cm t i → ∃ x, 1 ≤ x ∧ x ≤ i ∧ bt t x = 44
  | 0, h => by simp [cm] at h
  | i + 1, h => by
    simp only [cm] at h
    by_cases hx : bt t (i + 1) = 44
    · exact ⟨i + 1, by omega, Nat.le_refl _, hx⟩
    · rw [if_neg hx] at h
      obtain ⟨x, h1, h2, h3⟩ := cm_pos (i := i) (by omega)
      exact ⟨x, h1, by omega, h3⟩

theorem cm_two {t : ByteArray} : ∀ {i : Nat}, 2 ≤ cm t i → ∃ x y, 1 ≤ x ∧ x < y ∧ y ≤ i ∧ bt t x = 44 ∧ bt t y = 44
  | 0, h => by simp [cm] at h
  | i + 1, h => by
    simp only [cm] at h
    by_cases hx : bt t (i + 1) = 44
    · rw [if_pos hx] at h
      obtain ⟨x, h1, h2, h3⟩ := cm_pos (t := t) (i := i) (by omega)
      exact ⟨x, i + 1, h1, by omega, Nat.le_refl _, h3, hx⟩
    · rw [if_neg hx] at h
      obtain ⟨x, y, h1, h2, h3, h4, h5⟩ := cm_two (i := i) (by omega)
      exact ⟨x, y, h1, h2, by omega, h4, h5⟩

theorem cm_mono {t : ByteArray} {i i' : Nat} (h : i ≤ i') : cm t i ≤ cm t i' := by
  induction i' with
  | zero => obtain rfl : i = 0 := by omega
            exact Nat.le_refl _
  | succ n ih =>
    by_cases hi : i = n + 1
    · subst hi; exact Nat.le_refl _
    · have := ih (by omega); simp only [cm]; omega

theorem cm_one {t : ByteArray} {p : Nat} (hp : bt t p = 44) (h1 : 1 ≤ p) : ∀ {i : Nat}, p ≤ i → cm t i ≤ 1 → ∀ x, 1 ≤ x → x ≤ i → x ≠ p → bt t x ≠ 44 := by
  intro i hi hc x hx1 hx2 hne he
  -- the two commas are counted
  have up : ∀ a b, 1 ≤ a → a < b → b ≤ i → bt t a = 44 → bt t b = 44 → 2 ≤ cm t i := by
    intro a b ha hab hb e1 e2
    obtain ⟨a', rfl⟩ : ∃ a', a = a' + 1 := ⟨a - 1, by omega⟩
    obtain ⟨b', rfl⟩ : ∃ b', b = b' + 1 := ⟨b - 1, by omega⟩
    have s1 : cm t (a' + 1) = cm t a' + 1 := by simp only [cm]; rw [if_pos e1]
    have s2 : cm t (b' + 1) = cm t b' + 1 := by simp only [cm]; rw [if_pos e2]
    have m1 := cm_mono (t := t) (i := a' + 1) (i' := b') (by omega)
    have m2 := cm_mono (t := t) (i := b' + 1) (i' := i) (by omega)
    omega
  rcases Nat.lt_or_gt_of_ne hne with hlt | hgt
  · have := up x p hx1 hlt hi he hp; omega
  · have := up p x h1 hgt hx2 hp he; omega

/-- What a count consists of. -/
theorem rc_body {t : ByteArray} (h : rc t ≠ (-1, false)) : ∃ n : Nat, (rc t).1 = (n : Int) + 1 ∧ 2 ≤ n ∧ n < t.size ∧ bt t n = 125 ∧ (∀ x, 1 ≤ x → x < n → isD (bt t x) = true ∨ bt t x = 44) ∧ (∀ x y, 1 ≤ x → x < n → 1 ≤ y → y < n → bt t x = 44 → bt t y = 44 → x = y) ∧ bt t 1 ≠ 44 := by
  obtain ⟨a, b, c⟩ := dEnd_isEnd t 1
  unfold rc at h ⊢
  by_cases h1 : dEnd t 1 = 1
  · rw [if_pos h1] at h; exact absurd rfl h
  · obtain ⟨hz, hl⟩ := size_of_dEnd h1
    rw [if_neg h1] at h ⊢
    have nd : ∀ x, 1 ≤ x → x < dEnd t 1 → bt t x ≠ 44 := fun x h2 h3 he => by
      have := (b x h2 h3).2; rw [he] at this; simp [isD] at this
    by_cases h2 : dEnd t 1 < t.size ∧ bt t (dEnd t 1) = 44
    · rw [if_pos h2] at h ⊢
      obtain ⟨a2, b2, c2⟩ := dEnd_isEnd t (dEnd t 1 + 1)
      have hl2 := dEnd_le (t := t) (i := dEnd t 1 + 1) (by omega)
      by_cases h3 : dEnd t (dEnd t 1 + 1) = t.size ∨ bt t (dEnd t (dEnd t 1 + 1)) ≠ 125
      · rw [if_pos h3] at h; exact absurd rfl h
      · rw [if_neg h3]
        have nd2 : ∀ x, dEnd t 1 + 1 ≤ x → x < dEnd t (dEnd t 1 + 1) → bt t x ≠ 44 := fun x h2 h3 he => by
          have := (b2 x h2 h3).2; rw [he] at this; simp [isD] at this
        have only : ∀ x, 1 ≤ x → x < dEnd t (dEnd t 1 + 1) → bt t x = 44 → x = dEnd t 1 := fun x hx1 hx2 he => by
          rcases Nat.lt_trichotomy x (dEnd t 1) with q | q | q
          · exact absurd he (nd x hx1 q)
          · exact q
          · exact absurd he (nd2 x (by omega) hx2)
        refine ⟨dEnd t (dEnd t 1 + 1), rfl, by omega, by omega, Classical.byContradiction fun hn => h3 (Or.inr hn), fun x hx1 hx2 => ?_, fun x y hx1 hx2 hy1 hy2 ex ey => ?_, nd 1 (by omega) (by omega)⟩
        · rcases Nat.lt_trichotomy x (dEnd t 1) with q | q | q
          · exact Or.inl (b x hx1 q).2
          · subst q; exact Or.inr h2.2
          · exact Or.inl (b2 x (by omega) hx2).2
        · rw [only x hx1 hx2 ex, only y hy1 hy2 ey]
    · rw [if_neg h2] at h ⊢
      by_cases h3 : dEnd t 1 = t.size ∨ bt t (dEnd t 1) ≠ 125
      · rw [if_pos h3] at h; exact absurd rfl h
      · rw [if_neg h3]
        exact ⟨dEnd t 1, rfl, by omega, by omega, Classical.byContradiction fun hn => h3 (Or.inr hn), fun x hx1 hx2 => Or.inl (b x hx1 hx2).2, fun x y hx1 hx2 hy1 hy2 ex ey => absurd ex (nd x hx1 hx2), nd 1 (by omega) (by omega)⟩

/-- j is where the first closing brace from 1 on stands. -/
def FB (t : ByteArray) (j : Nat) : Prop := 1 ≤ j ∧ j < t.size ∧ bt t j = 125 ∧ ∀ x, 1 ≤ x → x < j → bt t x ≠ 125

theorem m_nobrace {t : ByteArray} (h : ∀ x, 1 ≤ x → x < t.size → bt t x ≠ 125) : rc t = (-1, false) := by
  refine Classical.byContradiction fun hn => ?_
  obtain ⟨n, _, h2, h3, h4, _⟩ := rc_body hn
  exact h n (by omega) h3 h4

theorem m_first {t : ByteArray} {j : Nat} (h : FB t j) (hn : rc t ≠ (-1, false)) : (rc t).1 = (j : Int) + 1 ∧ 2 ≤ j ∧ (∀ x, 1 ≤ x → x < j → isD (bt t x) = true ∨ bt t x = 44) ∧ (∀ x y, 1 ≤ x → x < j → 1 ≤ y → y < j → bt t x = 44 → bt t y = 44 → x = y) ∧ bt t 1 ≠ 44 := by
  obtain ⟨n, h1, h2, h3, h4, h5, h6, h7⟩ := rc_body hn
  obtain ⟨f1, f2, f3, f4⟩ := h
  have e : j = n := by
    rcases Nat.lt_trichotomy j n with q | q | q
    · rcases h5 j f1 q with r | r <;> rw [f3] at r <;> simp [isD] at r
    · exact q
    · exact absurd h4 (f4 n (by omega) q)
  subst e
  exact ⟨h1, h2, h5, h6, h7⟩

theorem m_one {t : ByteArray} (h : FB t 1) : rc t = (-1, false) := by
  refine Classical.byContradiction fun hn => ?_
  have := (m_first h hn).2.1; omega

theorem m_comma {t : ByteArray} {j : Nat} (h : FB t j) (hc : bt t 1 = 44) : rc t = (-1, false) := by
  refine Classical.byContradiction fun hn => ?_
  exact (m_first h hn).2.2.2.2 hc

theorem m_bad {t : ByteArray} {j x : Nat} (h : FB t j) (h1 : 1 ≤ x) (h2 : x < j) (h3 : isD (bt t x) = false) (h4 : bt t x ≠ 44) : rc t = (-1, false) := by
  refine Classical.byContradiction fun hn => ?_
  rcases (m_first h hn).2.2.1 x h1 h2 with q | q
  · rw [h3] at q; simp at q
  · exact h4 q

theorem m_many {t : ByteArray} {j : Nat} (h : FB t j) (hc : 2 ≤ cm t (j - 1)) : rc t = (-1, false) := by
  refine Classical.byContradiction fun hn => ?_
  obtain ⟨x, y, h1, h2, h3, h4, h5⟩ := cm_two hc
  have := (m_first h hn).2.2.2.1 x y h1 (by omega) (by omega) (by omega) h4 h5
  omega

theorem mz_before {t : ByteArray} {j : Nat} : ∀ {i : Nat}, i < j → (∀ x, 1 ≤ x → x ≤ i → bt t x ≠ 44) → mz t j i = (1, false)
  | 0, _, _ => rfl
  | i + 1, hi, h => by
    simp only [mz]
    rw [if_neg (fun hx => hx.elim (fun q => by omega) (fun q => h (i + 1) (by omega) (by omega) q))]
    exact mz_before (by omega) (fun x h1 h2 => h x h1 (by omega))

theorem mz_after {t : ByteArray} {j p : Nat} (hp : bt t p = 44) (h1 : 1 ≤ p) (hb : ∀ x, 1 ≤ x → x < p → bt t x ≠ 44) : ∀ {i : Nat}, p ≤ i → i < j → (∀ x, p < x → x ≤ i → bt t x ≠ 44) → mz t j i = (p + 1, lz t 1 p)
  | 0, h, _, _ => by omega
  | i + 1, h, hi, hx => by
    simp only [mz]
    by_cases he : p = i + 1
    · rw [if_pos (Or.inr (by rw [← he]; exact hp)), mz_before (by omega) (fun x a b => hb x a (by omega)), ← he]
      simp; omega
    · rw [if_neg (fun hy => hy.elim (fun q => by omega) (fun q => hx (i + 1) (by omega) (by omega) q))]
      exact mz_after hp h1 hb (by omega) (by omega) (fun x a b => hx x a (by omega))

theorem m_good {t : ByteArray} {j : Nat} (h : FB t j) (h2 : 2 ≤ j) (h44 : bt t 1 ≠ 44) (hall : ∀ x, 1 ≤ x → x < j → isD (bt t x) = true ∨ bt t x = 44) (hc : cm t (j - 1) ≤ 1) : rc t = ((j : Int) + 1, (mz t j j).2) := by
  obtain ⟨f1, f2, f3, f4⟩ := h
  obtain ⟨i, rfl⟩ : ∃ i, j = i + 1 := ⟨j - 1, by omega⟩
  rw [Nat.add_sub_cancel] at hc
  have nd : isD (bt t (i + 1)) = false := by rw [f3]; rfl
  by_cases h0 : cm t i = 0
  · have no := cm_zero h0
    have dg : ∀ x, 1 ≤ x → x < i + 1 → isD (bt t x) = true := fun x a b => by
      rcases hall x a b with q | q
      · exact q
      · exact absurd q (no x a (by omega))
    have e1 : dEnd t 1 = i + 1 := dEnd_of ⟨by omega, fun x a b => ⟨by omega, dg x a b⟩, fun q => by rw [nd] at q; simp at q⟩
    have em : mz t (i + 1) (i + 1) = (i + 2, lz t 1 (i + 1)) := by
      unfold mz; rw [if_pos (Or.inl rfl), mz_before (by omega) no]; simp
    unfold rc
    rw [e1, if_neg (by omega), if_neg (by rw [f3]; simp), if_neg (by rw [f3]; simp; omega), em]
  · obtain ⟨p, p1, p2, p3⟩ := cm_pos (t := t) (i := i) (by omega)
    have only := cm_one p3 p1 p2 hc
    have pne : p ≠ 1 := fun q => by subst q; exact h44 p3
    have dg : ∀ x, 1 ≤ x → x < i + 1 → x ≠ p → isD (bt t x) = true := fun x a b c => by
      rcases hall x a b with q | q
      · exact q
      · exact absurd q (only x a (by omega) c)
    have e1 : dEnd t 1 = p := dEnd_of ⟨by omega, fun x a b => ⟨by omega, dg x a (by omega) (by omega)⟩, fun q => by rw [p3] at q; simp [isD] at q⟩
    have e2 : dEnd t (p + 1) = i + 1 := dEnd_of ⟨by omega, fun x a b => ⟨by omega, dg x (by omega) (by omega) (by omega)⟩, fun q => by rw [nd] at q; simp at q⟩
    have em : mz t (i + 1) (i + 1) = (i + 2, lz t 1 p || lz t (p + 1) (i + 1)) := by
      unfold mz
      rw [if_pos (Or.inl rfl), mz_after p3 p1 (fun x a b => only x a (by omega) (by omega)) p2 (by omega) (fun x a b => only x (by omega) b (by omega))]
    unfold rc
    rw [e1, if_neg (by omega), if_pos ⟨by omega, p3⟩, e2, if_neg (by rw [f3]; simp; omega), em]

end Go.Proofs.Qxb6000037a.Pl
