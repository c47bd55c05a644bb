namespace Go.Proofs.Ybulkcawk.PA

theorem two_pos (i : Nat) : (1 : Int) ≤ 2 ^ i := by
  induction i with
  | zero => decide
  | succ n ih => rw [Int.pow_succ]; omega

theorem two_succ (i : Nat) : (2 : Int) ^ (i + 1) = 2 * 2 ^ i := by
  rw [Int.pow_succ]; omega

theorem two_mono {i j : Nat} (h : i ≤ j) : (2 : Int) ^ i ≤ 2 ^ j := by
  induction j with
  | zero => obtain rfl : i = 0 := by omega
            exact Int.le_refl _
  | succ n ih =>
    by_cases e : i = n + 1
    · subst e; exact Int.le_refl _
    · have := ih (by omega); have := two_pos n; rw [two_succ]; omega

/-- the last phase's k is 2^i: the least power that is at least t -/
def IsLast (t : Int) (i : Nat) : Prop := t ≤ 2 ^ i ∧ ∀ j, j < i → (2 : Int) ^ j < t

theorem last_upto (t : Int) (n : Nat) (h : t ≤ 2 ^ n) : ∃ i, i ≤ n ∧ IsLast t i := by
  induction n with
  | zero => exact ⟨0, Nat.le_refl _, h, fun j hj => absurd hj (Nat.not_lt_zero _)⟩
  | succ n ih =>
    by_cases hn : t ≤ 2 ^ n
    · obtain ⟨i, hi, hl⟩ := ih hn; exact ⟨i, by omega, hl⟩
    · refine ⟨n + 1, Nat.le_refl _, h, fun j hj => ?_⟩
      have := two_mono (show j ≤ n by omega); omega

/-- does phase j + 1 (whose k is 2^j) decide? -/
def okB (n t m : Int) (j : Nat) : Bool := decide (m ≤ 2 ^ j) && decide ((2 * 2 ^ j + 1) * (3 * 2 ^ j + 1) ≤ n - t - 2 ^ j)

/-- the first phase of those from 'j' on, at most 'f' of them, that decides; else the one behind them -/
def firstOk (n t m : Int) : Nat → Nat → Nat
  | 0, j => j
  | f + 1, j => if okB n t m j then j else firstOk n t m f (j + 1)

/-- the round at whose end phase j ends -/
def endOf (j : Nat) : Int := 6 * j + 30 * 2 ^ j - 29

/-- what DecidedBy answers where the last phase's k is 2^i -/
def dec (n t m : Int) (i : Nat) : Int := endOf (firstOk n t m i 0 + 1)

theorem endOf_succ (j : Nat) : endOf (j + 1) = endOf j + (6 + 30 * 2 ^ j) := by
  unfold endOf; rw [two_succ]; omega

theorem endOf_mono {i j : Nat} (h : i ≤ j) : endOf i ≤ endOf j := by
  unfold endOf; have := two_mono h; omega

theorem firstOk_le (n t m : Int) (f j : Nat) : j ≤ firstOk n t m f j ∧ firstOk n t m f j ≤ j + f := by
  induction f generalizing j with
  | zero => exact ⟨Nat.le_refl _, Nat.le_refl _⟩
  | succ f ih =>
    unfold firstOk; split
    · omega
    · have := ih (j + 1); omega

/-- whatever fewer phases decide by, decides later -/
theorem firstOk_mono {n t m n' t' m' : Int} (f j : Nat) (h : ∀ k, okB n t m k = true → okB n' t' m' k = true) : firstOk n' t' m' f j ≤ firstOk n t m f j := by
  induction f generalizing j with
  | zero => exact Nat.le_refl _
  | succ f ih =>
    unfold firstOk
    by_cases c : okB n t m j = true
    · rw [if_pos c, if_pos (h j c)]; exact Nat.le_refl _
    · rw [if_neg c]
      split
      · have := firstOk_le n t m f (j + 1); omega
      · exact ih (j + 1)

theorem dec_m (n t m : Int) (i : Nat) : dec n t m i ≤ dec n t (m + 1) i := by
  unfold dec
  have := firstOk_mono (n := n) (t := t) (m := m + 1) (n' := n) (t' := t) (m' := m) i 0 (by
    intro k hk; simp only [okB, Bool.and_eq_true, decide_eq_true_eq] at hk ⊢; exact ⟨by omega, hk.2⟩)
  exact endOf_mono (by omega)

theorem dec_n (n t m : Int) (i : Nat) : dec (n + 1) t m i ≤ dec n t m i := by
  unfold dec
  have := firstOk_mono (n := n) (t := t) (m := m) (n' := n + 1) (t' := t) (m' := m) i 0 (by
    intro k hk; simp only [okB, Bool.and_eq_true, decide_eq_true_eq] at hk ⊢; exact ⟨hk.1, by omega⟩)
  exact endOf_mono (by omega)

/-- the two tests of Fits are the one of the model -/
theorem fits_no1 (n k : Int) (hk : 1 ≤ k) (h : (n - 1).tdiv 3 < k) : ¬ (2 * k + 1) * (3 * k + 1) ≤ n := by
  have h3 : n ≤ 3 * k := by
    by_cases hn : 0 ≤ n - 1
    · rw [Int.tdiv_eq_ediv_of_nonneg hn] at h; omega
    · omega
  have e : (2 * k + 1) * (3 * k + 1) = 2 * k * (3 * k + 1) + (3 * k + 1) := by rw [Int.add_mul]; omega
  have p : 0 ≤ 2 * k * (3 * k + 1) := Int.mul_nonneg (by omega) (by omega)
  omega

theorem fits_pos (n k : Int) (hk : 1 ≤ k) (h : ¬ (n - 1).tdiv 3 < k) : 1 ≤ n ∧ 3 * k + 1 ≤ n := by
  by_cases hn : 0 ≤ n - 1
  · rw [Int.tdiv_eq_ediv_of_nonneg hn] at h; omega
  · have e : (n - 1).tdiv 3 = -((1 - n).tdiv 3) := by rw [← Int.neg_tdiv]; congr 1; omega
    have := Int.tdiv_nonneg (show (0 : Int) ≤ 1 - n by omega) (show (0 : Int) ≤ 3 by omega)
    omega

theorem fits_two (n k : Int) (hk : 1 ≤ k) : 2 * k + 1 ≤ n / (3 * k + 1) ↔ (2 * k + 1) * (3 * k + 1) ≤ n :=
  Int.le_ediv_iff_mul_le (by omega)

theorem prod_bd (k : Int) (h1 : 1 ≤ k) (h2 : k ≤ 1048576) : 0 ≤ (2 * k + 1) * (3 * k + 1) ∧ (2 * k + 1) * (3 * k + 1) ≤ 6597075009537 := by
  refine ⟨Int.mul_nonneg (by omega) (by omega), ?_⟩
  have a : (2 * k + 1) * (3 * k + 1) ≤ 2097153 * (3 * k + 1) := Int.mul_le_mul_of_nonneg_right (by omega) (by omega)
  omega

end Go.Proofs.Ybulkcawk.PA
