/-
  The plain mathematics of the binomial numbers: no Go in sight.
-/
namespace Go.Proofs.Qxb6617639a.Plain

/-- Pascal's triangle. -/
def ch : Nat → Nat → Nat
  | _, 0 => 1
  | 0, _ + 1 => 0
  | n + 1, k + 1 => ch n k + ch n (k + 1)

theorem ch_zero (n : Nat) : ch n 0 = 1 := by cases n <;> rfl
theorem ch_pascal (n k : Nat) : ch (n + 1) (k + 1) = ch n k + ch n (k + 1) := rfl
theorem ch_over (n : Nat) : ∀ k, n < k → ch n k = 0 := by
  induction n with
  | zero => intro k h; cases k with
    | zero => omega
    | succ k => rfl
  | succ n ih => intro k h; cases k with
    | zero => omega
    | succ k => rw [ch_pascal, ih k (by omega), ih (k + 1) (by omega)]
theorem ch_one (n : Nat) : ch n 1 = n := by
  induction n with
  | zero => rfl
  | succ n ih => rw [ch_pascal, ih, ch_zero]; omega

/-- The step of the loop: C(n, k+1) * (k+1) = C(n, k) * (n - k), over the integers for every k. -/
theorem ch_step (n : Nat) : ∀ k : Nat, (ch n (k + 1) : Int) * ((k : Int) + 1) = (ch n k : Int) * ((n : Int) - (k : Int)) := by
  induction n with
  | zero => intro k; cases k with
    | zero => simp [ch]
    | succ k => simp [ch]
  | succ n ih => intro k; cases k with
    | zero => rw [ch_pascal, ch_zero, ch_zero, ch_one]; push_cast; omega
    | succ k =>
      have h1 := ih k
      have h2 := ih (k + 1)
      rw [ch_pascal n (k + 1), ch_pascal n k]
      push_cast at h1 h2 ⊢
      generalize (ch n k : Int) = a at *
      generalize (ch n (k + 1) : Int) = b at *
      generalize (ch n (k + 1 + 1) : Int) = c at *
      generalize (n : Int) = m at *
      generalize (k : Int) = j at *
      have e1 : b * (j + 1) = a * (m - j) := h1
      have e2 : c * (j + 1 + 1) = b * (m - (j + 1)) := h2
      have x1 : (b + c) * (j + 1 + 1) = b * (j + 1) + b + c * (j + 1 + 1) := by
        simp only [Int.add_mul, Int.mul_add, Int.mul_one]; omega
      have x2 : (a + b) * (m + 1 - (j + 1)) = a * (m - j) + b * (m - (j + 1)) + b := by
        have : m + 1 - (j + 1) = m - j := by omega
        rw [this]
        simp only [Int.add_mul, Int.mul_add, Int.mul_sub, Int.mul_one]; omega
      rw [x1, x2, e1, e2]; omega

theorem ch_div (n k : Nat) : (ch n k : Int) * ((n : Int) - (k : Int)) / ((k : Int) + 1) = (ch n (k + 1) : Int) := by
  rw [← ch_step]; exact Int.mul_ediv_cancel _ (by omega)
theorem ch_nonneg (n k : Nat) : 0 ≤ (ch n k : Int) * ((n : Int) - (k : Int)) := by
  rw [← ch_step]; exact Int.mul_nonneg (by omega) (by omega)

/-- Every row lies under the later rows. -/
theorem ch_le_succ (n k : Nat) : ch n k ≤ ch (n + 1) k := by
  cases k with
  | zero => rw [ch_zero, ch_zero]; exact Nat.le_refl _
  | succ k => rw [ch_pascal]; omega
theorem ch_mono (n d k : Nat) : ch n k ≤ ch (n + d) k := by
  induction d with
  | zero => exact Nat.le_refl _
  | succ d ih => exact Nat.le_trans ih (ch_le_succ _ _)
theorem step_mono (n m k : Nat) (h : n ≤ m) : (ch n k : Int) * ((n : Int) - (k : Int)) ≤ (ch m k : Int) * ((m : Int) - (k : Int)) := by
  rw [← ch_step, ← ch_step]
  refine Int.mul_le_mul_of_nonneg_right ?_ (by omega)
  obtain ⟨d, rfl⟩ : ∃ d, m = n + d := ⟨m - n, by omega⟩
  have := ch_mono n d (k + 1)
  omega

/-- Each step stays within an int. -/
def Fits (n k : Nat) : Prop := ∀ i : Nat, i < k → (ch n i : Int) * ((n : Int) - (i : Int)) ≤ 9223372036854775807
theorem Fits.le {n m k : Nat} (h : Fits m k) (hn : n ≤ m) : Fits n k := fun i hi => Int.le_trans (step_mono n m i hn) (h i hi)
theorem Fits.less {n k j : Nat} (h : Fits n k) (hn : j ≤ k) : Fits n j := fun i hi => h i (by omega)

/-- The row by a quick reckoning. -/
def qk (n : Nat) : Nat → Nat
  | 0 => 1
  | k + 1 => qk n k * (n - k) / (k + 1)
theorem qk_ch (n : Nat) : ∀ k, qk n k = ch n k := by
  intro k
  induction k with
  | zero => rw [ch_zero]; rfl
  | succ k ih =>
    show qk n k * (n - k) / (k + 1) = _
    rw [ih]
    have h := ch_step n k
    by_cases hk : k ≤ n
    · have e : ch n (k + 1) * (k + 1) = ch n k * (n - k) := by
        have : ((n - k : Nat) : Int) = (n : Int) - (k : Int) := by omega
        rw [← this] at h
        exact_mod_cast h
      rw [← e]; exact Nat.mul_div_cancel _ (by omega)
    · rw [ch_over n k (by omega), ch_over n (k + 1) (by omega)]; simp

theorem tab61 : ∀ i, i < 61 → qk 61 i * (61 - i) ≤ 9223372036854775807 := by decide +kernel
theorem fits61 (n k : Nat) (h : n ≤ 61) : Fits n k := by
  refine Fits.le (m := 61) (fun i _ => ?_) h
  by_cases hi : i < 61
  · have := tab61 i hi
    rw [qk_ch] at this
    have e : ((61 : Nat) : Int) - (i : Int) = ((61 - i : Nat) : Int) := by omega
    rw [e, ← Int.natCast_mul]; omega
  · by_cases h2 : i = 61
    · rw [h2, show ((61 : Nat) : Int) - ((61 : Nat) : Int) = 0 from by omega, Int.mul_zero]; omega
    · rw [ch_over 61 i (by omega)]; omega

/-- C(n, k) ≤ n^k. -/
theorem ch_pow (n : Nat) : ∀ k, (ch n k : Int) ≤ (n : Int) ^ k := by
  intro k
  induction k with
  | zero => rw [ch_zero]; simp
  | succ k ih =>
    have h := ch_step n k
    by_cases hk : k ≤ n
    · have a : (ch n k : Int) * ((n : Int) - (k : Int)) ≤ (n : Int) ^ k * (n : Int) :=
        Int.mul_le_mul ih (by omega) (by omega) (Int.pow_nonneg (by omega))
      have b : (ch n (k + 1) : Int) ≤ (ch n (k + 1) : Int) * ((k : Int) + 1) := by
        have x : 0 ≤ (ch n (k + 1) : Int) * (k : Int) := Int.mul_nonneg (by omega) (by omega)
        rw [Int.mul_add, Int.mul_one]; omega
      rw [Int.pow_succ]; omega
    · rw [ch_over n (k + 1) (by omega)]; exact Int.pow_nonneg (by omega)
theorem pow_le (n : Nat) (h : 1 ≤ n) : ∀ i k : Nat, i ≤ k → (n : Int) ^ i ≤ (n : Int) ^ k := by
  intro i k hik
  have : n ^ i ≤ n ^ k := Nat.pow_le_pow_right h hik
  exact_mod_cast this
theorem fits_pow (n k : Nat) (h : 1 ≤ n) (hp : (n : Int) ^ k ≤ 9223372036854775807) : Fits n k := by
  intro i hi
  have a := ch_pow n i
  have c := pow_le n h (i + 1) k (by omega)
  rw [Int.pow_succ] at c
  by_cases hn : i ≤ n
  · have b : (ch n i : Int) * ((n : Int) - (i : Int)) ≤ (n : Int) ^ i * (n : Int) :=
      Int.mul_le_mul a (by omega) (by omega) (Int.pow_nonneg (by omega))
    omega
  · rw [ch_over n i (by omega)]; simp

/-! ### The row's sums -/
def sm (n : Nat) : Nat → Int
  | 0 => 0
  | j + 1 => sm n j + (ch n j : Int)
def al (n : Nat) : Nat → Int
  | 0 => 0
  | j + 1 => al n j + (if j % 2 = 0 then (ch n j : Int) else - (ch n j : Int))

theorem sm_succ (n : Nat) : ∀ j, sm (n + 1) (j + 1) = sm n (j + 1) + sm n j := by
  intro j
  induction j with
  | zero => simp [sm, ch_zero]
  | succ j ih =>
    show sm (n + 1) (j + 1) + (ch (n + 1) (j + 1) : Int) = sm n (j + 1) + (ch n (j + 1) : Int) + (sm n j + (ch n j : Int))
    rw [ih, ch_pascal]; push_cast; omega
theorem sm_row (n : Nat) : sm n (n + 1) = 2 ^ n := by
  induction n with
  | zero => simp [sm, ch_zero]
  | succ n ih =>
    rw [sm_succ]
    show sm n (n + 1) + (ch n (n + 1) : Int) + sm n (n + 1) = _
    rw [ih, ch_over n (n + 1) (by omega), Int.pow_succ]; omega
theorem al_succ (n : Nat) : ∀ j, al (n + 1) (j + 1) = al n (j + 1) - al n j := by
  intro j
  induction j with
  | zero => simp [al, ch_zero]
  | succ j ih =>
    show al (n + 1) (j + 1) + (if (j + 1) % 2 = 0 then (ch (n + 1) (j + 1) : Int) else - (ch (n + 1) (j + 1) : Int)) = al n (j + 1) + (if (j + 1) % 2 = 0 then (ch n (j + 1) : Int) else - (ch n (j + 1) : Int)) - (al n j + (if j % 2 = 0 then (ch n j : Int) else - (ch n j : Int)))
    rw [ih, ch_pascal]; push_cast
    by_cases h : j % 2 = 0
    · have h' : ¬ (j + 1) % 2 = 0 := by omega
      simp only [if_pos h, if_neg h']; omega
    · have h' : (j + 1) % 2 = 0 := by omega
      simp only [if_neg h, if_pos h']; omega
theorem al_row (n : Nat) (h : 0 < n) : al n (n + 1) = 0 := by
  obtain ⟨m, rfl⟩ : ∃ m, n = m + 1 := ⟨n - 1, by omega⟩
  rw [al_succ]
  show al m (m + 1) + (if (m + 1) % 2 = 0 then (ch m (m + 1) : Int) else - (ch m (m + 1) : Int)) - al m (m + 1) = 0
  rw [ch_over m (m + 1) (by omega)]; simp

/-- Bounds on the sums on the way. -/
theorem sm_mono (n : Nat) : ∀ d j, sm n j ≤ sm n (j + d) := by
  intro d
  induction d with
  | zero => intro j; exact Int.le_refl _
  | succ d ih => intro j; have := ih j; show _ ≤ sm n (j + d) + (ch n (j + d) : Int); omega
theorem sm_bd (n j : Nat) (h : j ≤ n + 1) : 0 ≤ sm n j ∧ sm n j ≤ 2 ^ n := by
  have a := sm_mono n j 0
  have b := sm_mono n (n + 1 - j) j
  rw [show 0 + j = j from by omega] at a
  rw [show j + (n + 1 - j) = n + 1 from by omega, sm_row] at b
  exact ⟨a, b⟩
theorem al_bd (n : Nat) : ∀ j, - sm n j ≤ al n j ∧ al n j ≤ sm n j := by
  intro j
  induction j with
  | zero => exact ⟨Int.le_refl _, Int.le_refl _⟩
  | succ j ih =>
    show - (sm n j + (ch n j : Int)) ≤ al n j + (if j % 2 = 0 then (ch n j : Int) else - (ch n j : Int)) ∧ al n j + (if j % 2 = 0 then (ch n j : Int) else - (ch n j : Int)) ≤ sm n j + (ch n j : Int)
    by_cases h : j % 2 = 0
    · simp only [if_pos h]; omega
    · simp only [if_neg h]; omega

/-- The row reads the same from both ends. -/
theorem ch_symm_add : ∀ a b : Nat, ch (a + b) a = ch (a + b) b := by
  suffices h : ∀ s a b : Nat, a + b = s → ch s a = ch s b from fun a b => h _ a b rfl
  intro s
  induction s with
  | zero => intro a b h; have : a = 0 := by omega
            have : b = 0 := by omega
            subst a; subst b; rfl
  | succ s ih =>
    intro a b h
    cases a with
    | zero =>
      cases b with
      | zero => rfl
      | succ b =>
        have : b = s := by omega
        subst this
        rw [ch_zero, ch_pascal, ch_over b (b + 1) (by omega), ih b 0 (by omega), ch_zero]
    | succ a =>
      cases b with
      | zero =>
        have : a = s := by omega
        subst this
        rw [ch_zero, ch_pascal, ch_over a (a + 1) (by omega), ih a 0 (by omega), ch_zero]
      | succ b => rw [ch_pascal, ch_pascal, ih a (b + 1) (by omega), ih (a + 1) b (by omega)]; omega
theorem ch_symm (n k : Nat) (h : k ≤ n) : ch n k = ch n (n - k) := by
  have := ch_symm_add k (n - k)
  rwa [show k + (n - k) = n from by omega] at this

end Go.Proofs.Qxb6617639a.Plain
