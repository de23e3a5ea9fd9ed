namespace Go.Proofs.Qxb6618695aMods.Sk

/-! THE PLAIN SKIP: no Go in sight. 'b i': the byte at place i; 'n': the line's length. -/
def skipF (b : Nat → Nat) (n : Nat) : Nat → Nat → Nat
  | 0, p => p
  | f + 1, p =>
    if p < n then
      if b p = 32 ∨ b p = 9 then skipF b n f (p + 1)
      else if b p = 92 ∧ p + 1 < n ∧ b (p + 1) = 10 then skipF b n f (p + 2)
      else p
    else p

def skip (b : Nat → Nat) (n p : Nat) : Nat := skipF b n (n - p) p

theorem skipF_ge (b : Nat → Nat) (n p : Nat) (h : n ≤ p) : ∀ f, skipF b n f p = p
  | 0 => rfl
  | f + 1 => by rw [skipF, if_neg (by omega)]

/-- fuel beyond what is left changes nothing -/
theorem skipF_more (b : Nat → Nat) (n : Nat) : ∀ f p, n - p ≤ f → skipF b n (f + 1) p = skipF b n f p
  | 0, p, h => by rw [skipF_ge b n p (by omega), skipF_ge b n p (by omega)]
  | f + 1, p, h => by
    rw [skipF, skipF.eq_2 b n p f]
    rw [skipF_more b n f (p + 1) (by omega), skipF_more b n f (p + 2) (by omega)]

theorem skipF_fuel (b : Nat → Nat) (n p : Nat) : ∀ d, skipF b n (n - p + d) p = skip b n p
  | 0 => rfl
  | d + 1 => by rw [← Nat.add_assoc, skipF_more b n _ p (by omega)]; exact skipF_fuel b n p d

theorem skipF_eq (b : Nat → Nat) (n p f : Nat) (h : n - p ≤ f) : skipF b n f p = skip b n p := by
  rw [show f = n - p + (f - (n - p)) from by omega]; exact skipF_fuel b n p _

/-! one step -/
theorem skip_end (b : Nat → Nat) (n p : Nat) (h : n ≤ p) : skip b n p = p := skipF_ge b n p h _

theorem skip_blank (b : Nat → Nat) (n p : Nat) (h : p < n) (hb : b p = 32 ∨ b p = 9) : skip b n p = skip b n (p + 1) := by
  rw [← skipF_eq b n p (n - p + 1) (by omega), skipF, if_pos h, if_pos hb, skipF_eq b n (p + 1) _ (by omega)]

theorem skip_pair (b : Nat → Nat) (n p : Nat) (h : p + 1 < n) (h1 : b p = 92) (h2 : b (p + 1) = 10) : skip b n p = skip b n (p + 2) := by
  rw [← skipF_eq b n p (n - p + 1) (by omega), skipF, if_pos (by omega), if_neg (by omega), if_pos ⟨h1, h, h2⟩, skipF_eq b n (p + 2) _ (by omega)]

theorem skip_stop (b : Nat → Nat) (n p : Nat) (hb : ¬ (b p = 32 ∨ b p = 9)) (h : ¬ (b p = 92 ∧ p + 1 < n ∧ b (p + 1) = 10)) : skip b n p = p := by
  rw [← skipF_eq b n p (n - p + 1) (by omega), skipF, if_neg hb, if_neg h]
  split <;> rfl

/-- the four ways of a step -/
theorem ways (b : Nat → Nat) (n p : Nat) :
    n ≤ p ∨ (p < n ∧ (b p = 32 ∨ b p = 9)) ∨ (p + 1 < n ∧ b p = 92 ∧ b (p + 1) = 10) ∨
      (p < n ∧ ¬ (b p = 32 ∨ b p = 9) ∧ ¬ (b p = 92 ∧ p + 1 < n ∧ b (p + 1) = 10)) := by
  omega

/-! ### the laws -/
theorem skip_ge (b : Nat → Nat) (n : Nat) : ∀ f p, n - p ≤ f → p ≤ skip b n p
  | 0, p, h => by rw [skip_end b n p (by omega)]; exact Nat.le_refl _
  | f + 1, p, h => by
    rcases ways b n p with h1 | ⟨h1, h2⟩ | ⟨h1, h2, h3⟩ | ⟨h1, h2, h3⟩
    · rw [skip_end b n p h1]; exact Nat.le_refl _
    · rw [skip_blank b n p h1 h2]; have := skip_ge b n f (p + 1) (by omega); omega
    · rw [skip_pair b n p h1 h2 h3]; have := skip_ge b n f (p + 2) (by omega); omega
    · rw [skip_stop b n p h2 h3]; exact Nat.le_refl _

theorem skip_le (b : Nat → Nat) (n : Nat) : ∀ f p, n - p ≤ f → p ≤ n → skip b n p ≤ n
  | 0, p, h, hp => by rw [skip_end b n p (by omega)]; exact hp
  | f + 1, p, h, hp => by
    rcases ways b n p with h1 | ⟨h1, h2⟩ | ⟨h1, h2, h3⟩ | ⟨h1, h2, h3⟩
    · rw [skip_end b n p h1]; exact hp
    · rw [skip_blank b n p h1 h2]; exact skip_le b n f (p + 1) (by omega) (by omega)
    · rw [skip_pair b n p h1 h2 h3]; exact skip_le b n f (p + 2) (by omega) (by omega)
    · rw [skip_stop b n p h2 h3]; exact hp

/-- where it stops nothing can be skipped -/
theorem skip_at (b : Nat → Nat) (n : Nat) : ∀ f p, n - p ≤ f → skip b n p < n →
    b (skip b n p) ≠ 32 ∧ b (skip b n p) ≠ 9 ∧ ¬ (b (skip b n p) = 92 ∧ skip b n p + 1 < n ∧ b (skip b n p + 1) = 10)
  | 0, p, h, hp => by rw [skip_end b n p (by omega)] at hp; omega
  | f + 1, p, h, hp => by
    rcases ways b n p with h1 | ⟨h1, h2⟩ | ⟨h1, h2, h3⟩ | ⟨h1, h2, h3⟩
    · rw [skip_end b n p h1] at hp; omega
    · rw [skip_blank b n p h1 h2] at hp ⊢; exact skip_at b n f (p + 1) (by omega) hp
    · rw [skip_pair b n p h1 h2 h3] at hp ⊢; exact skip_at b n f (p + 2) (by omega) hp
    · rw [skip_stop b n p h2 h3]; omega

/-- what lies in the stretch -/
theorem skip_in (b : Nat → Nat) (n : Nat) : ∀ f p, n - p ≤ f → ∀ i, p ≤ i → i < skip b n p →
    (b i = 92 → i + 1 < skip b n p ∧ b (i + 1) = 10) ∧ (b i = 10 → p < i ∧ b (i - 1) = 92) ∧ (b i = 92 ∨ b i = 10 ∨ b i = 32 ∨ b i = 9)
  | 0, p, h, i, hi, hr => by rw [skip_end b n p (by omega)] at hr; omega
  | f + 1, p, h, i, hi, hr => by
    rcases ways b n p with h1 | ⟨h1, h2⟩ | ⟨h1, h2, h3⟩ | ⟨h1, h2, h3⟩
    · rw [skip_end b n p h1] at hr; omega
    · rw [skip_blank b n p h1 h2] at hr ⊢
      by_cases e : i = p
      · subst e; omega
      · have := skip_in b n f (p + 1) (by omega) i (by omega) hr
        refine ⟨this.1, fun h => ?_, this.2.2⟩
        have := this.2.1 h; omega
    · rw [skip_pair b n p h1 h2 h3] at hr ⊢
      have g := skip_ge b n _ (p + 2) (Nat.le_refl _)
      by_cases e : i = p
      · subst e; exact ⟨fun _ => ⟨by omega, h3⟩, fun h => by omega, Or.inl h2⟩
      · by_cases e1 : i = p + 1
        · subst e1; exact ⟨fun h => by omega, fun _ => ⟨by omega, by simpa using h2⟩, Or.inr (Or.inl h3)⟩
        · have := skip_in b n f (p + 2) (by omega) i (by omega) hr
          refine ⟨this.1, fun h => ?_, this.2.2⟩
          have := this.2.1 h; omega
    · rw [skip_stop b n p h2 h3] at hr; omega

/-- started again inside the stretch -/
theorem skip_again (b : Nat → Nat) (n : Nat) : ∀ f p, n - p ≤ f → ∀ j, p ≤ j → j ≤ skip b n p →
    (p < j ∧ b (j - 1) = 92 → skip b n j = j) ∧ (¬ (p < j ∧ b (j - 1) = 92) → skip b n j = skip b n p)
  | 0, p, h, j, hi, hr => by
    rw [skip_end b n p (by omega)] at hr ⊢
    obtain rfl : j = p := by omega
    exact ⟨fun h => by omega, fun _ => skip_end b n j (by omega)⟩
  | f + 1, p, h, j, hi, hr => by
    by_cases e : j = p
    · subst e; exact ⟨fun h => by omega, fun _ => rfl⟩
    · rcases ways b n p with h1 | ⟨h1, h2⟩ | ⟨h1, h2, h3⟩ | ⟨h1, h2, h3⟩
      · rw [skip_end b n p h1] at hr; omega
      · rw [skip_blank b n p h1 h2] at hr ⊢
        have ih := skip_again b n f (p + 1) (by omega) j (by omega) hr
        by_cases e1 : j = p + 1
        · subst e1; exact ⟨fun h => by simp at h; omega, fun _ => rfl⟩
        · exact ⟨fun h => ih.1 (by omega), fun h => ih.2 (by omega)⟩
      · rw [skip_pair b n p h1 h2 h3] at hr ⊢
        by_cases e1 : j = p + 1
        · subst e1
          refine ⟨fun _ => skip_stop b n (p + 1) (by omega) (by omega), fun h => ?_⟩
          exact absurd ⟨by omega, by simpa using h2⟩ h
        · have ih := skip_again b n f (p + 2) (by omega) j (by omega) hr
          by_cases e2 : j = p + 2
          · subst e2
            refine ⟨fun h => ?_, fun _ => rfl⟩
            have h5 : b (p + 1) = 92 := by simpa using h.2
            omega
          · exact ⟨fun h => ih.1 (by omega), fun h => ih.2 (by omega)⟩
      · rw [skip_stop b n p h2 h3] at hr; omega

/-- on the line cut at k -/
theorem skip_cut (b c : Nat → Nat) (n k : Nat) (hk : k ≤ n) (hc : ∀ i, i < k → c i = b i) : ∀ f p, n - p ≤ f → p ≤ k →
    (skip b n p ≤ k → skip c k p = skip b n p) ∧ (k < skip b n p → p < k ∧ b (k - 1) = 92 → skip c k p = k - 1) ∧
      (k < skip b n p → ¬ (p < k ∧ b (k - 1) = 92) → skip c k p = k)
  | 0, p, h, hp => by
    rw [skip_end b n p (by omega), skip_end c k p (by omega)]
    exact ⟨fun _ => rfl, fun h => by omega, fun h => by omega⟩
  | f + 1, p, h, hp => by
    by_cases e : p = k
    · subst e
      have g := skip_ge b n _ p (Nat.le_refl _)
      rw [skip_end c p p (Nat.le_refl _)]
      exact ⟨fun h => by omega, fun _ h => by omega, fun _ _ => rfl⟩
    · have cp := hc p (by omega)
      rcases ways b n p with h1 | ⟨h1, h2⟩ | ⟨h1, h2, h3⟩ | ⟨h1, h2, h3⟩
      · omega
      · rw [skip_blank b n p h1 h2, skip_blank c k p (by omega) (by rw [cp]; exact h2)]
        have ih := skip_cut b c n k hk hc f (p + 1) (by omega) (by omega)
        by_cases e1 : p + 1 = k
        · subst e1
          rw [skip_end c (p + 1) (p + 1) (Nat.le_refl _)] at ih ⊢
          refine ⟨ih.1, fun h h' => ?_, fun _ _ => rfl⟩
          have : b p = 92 := by simpa using h'.2
          omega
        · exact ⟨ih.1, fun h h' => ih.2.1 h (by omega), fun h h' => ih.2.2 h (by omega)⟩
      · rw [skip_pair b n p h1 h2 h3]
        have g := skip_ge b n _ (p + 2) (Nat.le_refl _)
        by_cases e1 : p + 1 = k
        · subst e1
          rw [skip_stop c (p + 1) p (by rw [cp]; omega) (by omega)]
          refine ⟨fun h => by omega, fun _ _ => by omega, fun _ h' => ?_⟩
          exact absurd ⟨by omega, by simpa using h2⟩ h'
        · rw [skip_pair c k p (by omega) (by rw [cp]; exact h2) (by rw [hc (p + 1) (by omega)]; exact h3)]
          have ih := skip_cut b c n k hk hc f (p + 2) (by omega) (by omega)
          by_cases e2 : p + 2 = k
          · subst e2
            rw [skip_end c (p + 2) (p + 2) (Nat.le_refl _)] at ih ⊢
            refine ⟨ih.1, fun h h' => ?_, fun _ _ => rfl⟩
            have : b (p + 1) = 92 := by simpa using h'.2
            omega
          · exact ⟨ih.1, fun h h' => ih.2.1 h (by omega), fun h h' => ih.2.2 h (by omega)⟩
      · rw [skip_stop b n p h2 h3, skip_stop c k p (by rw [cp]; exact h2) (by
          rw [cp]; intro hh
          have := hc (p + 1) (by omega)
          omega)]
        exact ⟨fun _ => rfl, fun h => by omega, fun h => by omega⟩

/-- over a run of blanks -/
theorem skip_run (b : Nat → Nat) (n p : Nat) : ∀ d, p + d ≤ n → (∀ i, p ≤ i → i < p + d → b i = 32 ∨ b i = 9) → skip b n p = skip b n (p + d)
  | 0, _, _ => rfl
  | d + 1, h, hb => by
    rw [skip_run b n p d (by omega) (fun i h1 h2 => hb i h1 (by omega)), skip_blank b n (p + d) (by omega) (hb (p + d) (by omega) (by omega))]
    rfl
end Go.Proofs.Qxb6618695aMods.Sk
