/-
  The proof of 'Rows.FnBinomialPascalTriangleSaid': the guide's frame, the walk filled.
-/
import Derived.Test.Qxb6617639aRows
import Derived.WalkKit
import Derived.ProofKit
import Derived.OpenShut
import Derived.ShutString
import Derived.Test.Qxb6617639aBin
namespace Go.Proofs.Qxb6617639a.fnBinomialPascalTriangle
open Go.ChangeShapes Go.WideShapes Go.ChangeAt Go.RowKit
open Go.ChangeMaps (open_string shut_string)
open Plain
set_option linter.unusedVariables false      -- a walk need not use every 'w<i>' (that an integer argument fits its kind)

theorem own : ownKnob Try.prog.godebug = none := by kernel_rfl

theorem ch_bd (n k : Nat) (h1 : 1 ≤ k) (hf : Fits n k) : (ch n k : Int) ≤ 9223372036854775807 := by
  obtain ⟨j, rfl⟩ : ∃ j, k = j + 1 := ⟨k - 1, by omega⟩
  have a := hf j (by omega)
  rw [← ch_step] at a
  have b : 0 ≤ (ch n (j + 1) : Int) * (j : Int) := Int.mul_nonneg (by omega) (by omega)
  rw [Int.mul_add, Int.mul_one] at a
  omega
theorem ch_split (n k : Nat) (hn : 1 ≤ n) (hk : 1 ≤ k) : ch n k = ch (n - 1) (k - 1) + ch (n - 1) k := by
  obtain ⟨m, rfl⟩ : ∃ m, n = m + 1 := ⟨n - 1, by omega⟩
  obtain ⟨j, rfl⟩ : ∃ j, k = j + 1 := ⟨k - 1, by omega⟩
  exact ch_pascal m j
theorem fits_one (n : Nat) (h : (n : Int) ≤ 9223372036854775807) : Fits n 1 := by
  intro i hi
  have : i = 0 := by omega
  subst this
  rw [ch_zero]; omega
theorem pow62 (n : Nat) (h : 62 ≤ n) (hp : (n : Int) ^ n ≤ 9223372036854775807) : False := by
  have a := pow_le n (by omega) 11 n (by omega)
  have b : 62 ^ 11 ≤ n ^ 11 := Nat.pow_le_pow_left h 11
  have c : (62 : Nat) ^ 11 = 52036560683837093888 := by decide +kernel
  rw [c] at b
  have d : ((n ^ 11 : Nat) : Int) = (n : Int) ^ 11 := by rw [Int.natCast_pow]
  omega

set_option maxHeartbeats 1000000 in
theorem w00 (w : World) : Calls Try.prog 3 #[.int .i64 ((0 : Nat) : Int), .int .i64 ((0 : Nat) : Int)] w fun e w' => e = .returned (.bool true) ∧ Grown w w' := by
  have h0 : Hid (∀ w, Calls Try.prog 7 #[.int .i64 0, .int .i64 0] w fun e w' => e = .returned (.int .i64 1) ∧ w' = w) := by
    intro w
    exact zzbinomial_any 0 0 0 0 rfl rfl (by omega) (by omega) (fits61 0 0 (by omega)) w
  go_enter Try.func3, Try.ntmps3
  go_wp2_with (go_at_call 5; refine (maxRow_any _).mono ?_; rintro e w' ⟨rfl, rfl⟩)
  refine (h0.out _).mono ?_
  rintro e w' ⟨rfl, rfl⟩
  go_wp2_with fail
  refine (h0.out _).mono ?_
  rintro e w' ⟨rfl, rfl⟩
  go_wp2_with fail
  go_ret
  exact ⟨rfl, Grown.refl _⟩

set_option maxHeartbeats 1000000 in
theorem w0k (k : Nat) (h1 : 1 ≤ k) (hk : (k : Int) ≤ 65536) (w : World) : Calls Try.prog 3 #[.int .i64 ((0 : Nat) : Int), .int .i64 (k : Int)] w fun e w' => e = .returned (.bool true) ∧ Grown w w' := by
  have h0 : Hid (∀ w, Calls Try.prog 7 #[.int .i64 0, .int .i64 0] w fun e w' => e = .returned (.int .i64 1) ∧ w' = w) := by
    intro w
    exact zzbinomial_any 0 0 0 0 rfl rfl (by omega) (by omega) (fits61 0 0 (by omega)) w
  have hk0 : Hid (∀ w, Calls Try.prog 7 #[.int .i64 0, .int .i64 (k : Int)] w fun e w' => e = .returned (.int .i64 ((0 : Nat) : Int)) ∧ w' = w) := by
    intro w
    have := zzbinomial_any 0 (k : Int) 0 k (by omega) (by omega) (by omega) (by omega) (fits61 0 k (by omega)) w
    rw [ch_over 0 k (by omega)] at this
    exact this
  go_enter Try.func3, Try.ntmps3
  go_wp2_with (go_at_call 5; refine (maxRow_any _).mono ?_; rintro e w' ⟨rfl, rfl⟩)
  refine (hk0.out _).mono ?_
  rintro e w' ⟨rfl, rfl⟩
  go_wp2_with fail
  refine (h0.out _).mono ?_
  rintro e w' ⟨rfl, rfl⟩
  go_wp2_with fail
  go_ret
  exact ⟨rfl, Grown.refl _⟩

set_option maxHeartbeats 1000000 in
theorem small_n0 (n : Nat) (h1 : 1 ≤ n) (hn : (n : Int) ≤ 61) (w : World) : Calls Try.prog 3 #[.int .i64 (n : Int), .int .i64 ((0 : Nat) : Int)] w fun e w' => e = .returned (.bool true) ∧ Grown w w' := by
  have h0 : Hid (∀ w, Calls Try.prog 7 #[.int .i64 (n : Int), .int .i64 0] w fun e w' => e = .returned (.int .i64 ((1 : Nat) : Int)) ∧ w' = w) := by
    intro w
    have := zzbinomial_any (n : Int) 0 n 0 (by omega) (by omega) (by omega) (by omega) (fits61 n 0 (by omega)) w
    rw [ch_zero] at this
    exact this
  have h1c : Hid (∀ w, Calls Try.prog 7 #[.int .i64 (n : Int), .int .i64 1] w fun e w' => e = .returned (.int .i64 (n : Int)) ∧ w' = w) := by
    intro w
    have := zzbinomial_any (n : Int) 1 n 1 (by omega) (by omega) (by omega) (by omega) (fits61 n 1 (by omega)) w
    rw [ch_one] at this
    exact this
  go_enter Try.func3, Try.ntmps3
  go_wp2_with (go_at_call 5; refine (maxRow_any _).mono ?_; rintro e w' ⟨rfl, rfl⟩)
  refine (h0.out _).mono ?_
  rintro e w' ⟨rfl, rfl⟩
  go_wp2_with fail
  refine (h0.out _).mono ?_
  rintro e w' ⟨rfl, rfl⟩
  go_wp2_with fail
  refine (h1c.out _).mono ?_
  rintro e w' ⟨rfl, rfl⟩
  go_wp2_with fail
  go_ret
  exact ⟨rfl, Grown.refl _⟩

set_option maxHeartbeats 1000000 in
theorem small_over (n k : Nat) (h1 : 1 ≤ n) (hn : (n : Int) ≤ 61 ∧ (k : Int) ≤ 65536) (hkn : (n : Int) < (k : Int)) (w : World) : Calls Try.prog 3 #[.int .i64 (n : Int), .int .i64 (k : Int)] w fun e w' => e = .returned (.bool true) ∧ Grown w w' := by
  have h0 : Hid (∀ w, Calls Try.prog 7 #[.int .i64 (n : Int), .int .i64 0] w fun e w' => e = .returned (.int .i64 ((1 : Nat) : Int)) ∧ w' = w) := by
    intro w
    have := zzbinomial_any (n : Int) 0 n 0 (by omega) (by omega) (by omega) (by omega) (fits61 n 0 (by omega)) w
    rw [ch_zero] at this
    exact this
  have h1c : Hid (∀ w, Calls Try.prog 7 #[.int .i64 (n : Int), .int .i64 1] w fun e w' => e = .returned (.int .i64 (n : Int)) ∧ w' = w) := by
    intro w
    have := zzbinomial_any (n : Int) 1 n 1 (by omega) (by omega) (by omega) (by omega) (fits61 n 1 (by omega)) w
    rw [ch_one] at this
    exact this
  have hc : Hid (∀ w, Calls Try.prog 7 #[.int .i64 (n : Int), .int .i64 (k : Int)] w fun e w' => e = .returned (.int .i64 ((0 : Nat) : Int)) ∧ w' = w) := by
    intro w
    have := zzbinomial_any (n : Int) (k : Int) n k (by omega) (by omega) (by omega) (by omega) (fits61 n k (by omega)) w
    rw [ch_over n k (by omega)] at this
    exact this
  have hx : Hid (∀ w, Calls Try.prog 7 #[.int .i64 ((n : Int) - 1), .int .i64 ((k : Int) - 1)] w fun e w' => e = .returned (.int .i64 ((0 : Nat) : Int)) ∧ w' = w) := by
    intro w
    have := zzbinomial_any ((n : Int) - 1) ((k : Int) - 1) (n - 1) (k - 1) (by omega) (by omega) (by omega) (by omega) (fits61 (n - 1) (k - 1) (by omega)) w
    rw [ch_over (n - 1) (k - 1) (by omega)] at this
    exact this
  have hy : Hid (∀ w, Calls Try.prog 7 #[.int .i64 ((n : Int) - 1), .int .i64 (k : Int)] w fun e w' => e = .returned (.int .i64 ((0 : Nat) : Int)) ∧ w' = w) := by
    intro w
    have := zzbinomial_any ((n : Int) - 1) (k : Int) (n - 1) k (by omega) (by omega) (by omega) (by omega) (fits61 (n - 1) k (by omega)) w
    rw [ch_over (n - 1) k (by omega)] at this
    exact this
  go_enter Try.func3, Try.ntmps3
  go_wp2_with (go_at_call 5; refine (maxRow_any _).mono ?_; rintro e w' ⟨rfl, rfl⟩)
  refine (hc.out _).mono ?_
  rintro e w' ⟨rfl, rfl⟩
  go_wp2_with fail
  refine (h0.out _).mono ?_
  rintro e w' ⟨rfl, rfl⟩
  go_wp2_with fail
  refine (h1c.out _).mono ?_
  rintro e w' ⟨rfl, rfl⟩
  go_wp2_with fail
  refine (hx.out _).mono ?_
  rintro e w' ⟨rfl, rfl⟩
  go_wp2_with fail
  refine (hy.out _).mono ?_
  rintro e w' ⟨rfl, rfl⟩
  go_wp2_with fail
  go_ret
  exact ⟨rfl, Grown.refl _⟩

set_option maxHeartbeats 1000000 in
theorem small_in (n k : Nat) (h1 : 1 ≤ k) (hn : (n : Int) ≤ 61) (hkn : (k : Int) ≤ (n : Int)) (w : World) : Calls Try.prog 3 #[.int .i64 (n : Int), .int .i64 (k : Int)] w fun e w' => e = .returned (.bool true) ∧ Grown w w' := by
  have h0 : Hid (∀ w, Calls Try.prog 7 #[.int .i64 (n : Int), .int .i64 0] w fun e w' => e = .returned (.int .i64 ((1 : Nat) : Int)) ∧ w' = w) := by
    intro w
    have := zzbinomial_any (n : Int) 0 n 0 (by omega) (by omega) (by omega) (by omega) (fits61 n 0 (by omega)) w
    rw [ch_zero] at this
    exact this
  have h1c : Hid (∀ w, Calls Try.prog 7 #[.int .i64 (n : Int), .int .i64 1] w fun e w' => e = .returned (.int .i64 (n : Int)) ∧ w' = w) := by
    intro w
    have := zzbinomial_any (n : Int) 1 n 1 (by omega) (by omega) (by omega) (by omega) (fits61 n 1 (by omega)) w
    rw [ch_one] at this
    exact this
  have hbd := ch_bd n k h1 (fits61 n k (by omega))
  rw [ch_split n k (by omega) h1] at hbd
  have hc : Hid (∀ w, Calls Try.prog 7 #[.int .i64 (n : Int), .int .i64 (k : Int)] w fun e w' => e = .returned (.int .i64 ((ch (n - 1) (k - 1) : Int) + (ch (n - 1) k : Int))) ∧ w' = w) := by
    intro w
    have := zzbinomial_any (n : Int) (k : Int) n k (by omega) (by omega) (by omega) (by omega) (fits61 n k (by omega)) w
    rw [ch_split n k (by omega) h1, Int.natCast_add] at this
    exact this
  have hx : Hid (∀ w, Calls Try.prog 7 #[.int .i64 ((n : Int) - 1), .int .i64 ((k : Int) - 1)] w fun e w' => e = .returned (.int .i64 (ch (n - 1) (k - 1) : Int)) ∧ w' = w) := fun w =>
    zzbinomial_any _ _ (n - 1) (k - 1) (by omega) (by omega) (by omega) (by omega) (fits61 (n - 1) (k - 1) (by omega)) w
  have hy : Hid (∀ w, Calls Try.prog 7 #[.int .i64 ((n : Int) - 1), .int .i64 (k : Int)] w fun e w' => e = .returned (.int .i64 (ch (n - 1) k : Int)) ∧ w' = w) := fun w =>
    zzbinomial_any _ _ (n - 1) k (by omega) (by omega) (by omega) (by omega) (fits61 (n - 1) k (by omega)) w
  go_enter Try.func3, Try.ntmps3
  go_wp2_with (go_at_call 5; refine (maxRow_any _).mono ?_; rintro e w' ⟨rfl, rfl⟩)
  refine (hc.out _).mono ?_
  rintro e w' ⟨rfl, rfl⟩
  go_wp2_with fail
  refine (h0.out _).mono ?_
  rintro e w' ⟨rfl, rfl⟩
  go_wp2_with fail
  refine (h1c.out _).mono ?_
  rintro e w' ⟨rfl, rfl⟩
  go_wp2_with fail
  refine (hx.out _).mono ?_
  rintro e w' ⟨rfl, rfl⟩
  go_wp2_with fail
  refine (hy.out _).mono ?_
  rintro e w' ⟨rfl, rfl⟩
  go_wp2_with fail
  go_ret
  exact ⟨rfl, Grown.refl _⟩

set_option maxHeartbeats 1000000 in
theorem large_over (n k : Nat) (h1 : 62 ≤ (n : Int)) (hn : (n : Int) ≤ 9223372036854775807) (hk : (k : Int) ≤ 65536) (hkn : (n : Int) < (k : Int)) (w : World) : Calls Try.prog 3 #[.int .i64 (n : Int), .int .i64 (k : Int)] w fun e w' => e = .returned (.bool true) ∧ Grown w w' := by
  go_enter Try.func3, Try.ntmps3
  go_wp2_with (go_at_call 5; refine (maxRow_any _).mono ?_; rintro e w' ⟨rfl, rfl⟩)
  refine (powFits_any n n (by omega) (by omega) (by omega) _).mono ?_
  intro e w' hps
  obtain ⟨b, rfl, rfl, hb⟩ := hps
  cases b with
  | false =>
    clear hb
    go_wp2
    go_ret
    exact ⟨rfl, Grown.refl _⟩
  | true =>
    exact (pow62 n (by omega) (hb rfl)).elim
set_option maxHeartbeats 1000000 in
theorem large_n0 (n : Nat) (h1 : 62 ≤ (n : Int)) (hn : (n : Int) ≤ 9223372036854775807) (w : World) : Calls Try.prog 3 #[.int .i64 (n : Int), .int .i64 ((0 : Nat) : Int)] w fun e w' => e = .returned (.bool true) ∧ Grown w w' := by
  have h0 : Hid (∀ w, Calls Try.prog 7 #[.int .i64 (n : Int), .int .i64 0] w fun e w' => e = .returned (.int .i64 ((1 : Nat) : Int)) ∧ w' = w) := by
    intro w
    have := zzbinomial_any (n : Int) 0 n 0 (by omega) (by omega) (by omega) (by omega) ((fits_one n hn).less (by omega)) w
    rw [ch_zero] at this
    exact this
  have h1c : Hid (∀ w, Calls Try.prog 7 #[.int .i64 (n : Int), .int .i64 1] w fun e w' => e = .returned (.int .i64 (n : Int)) ∧ w' = w) := by
    intro w
    have := zzbinomial_any (n : Int) 1 n 1 (by omega) (by omega) (by omega) (by omega) (fits_one n hn) w
    rw [ch_one] at this
    exact this
  go_enter Try.func3, Try.ntmps3
  go_wp2_with (go_at_call 5; refine (maxRow_any _).mono ?_; rintro e w' ⟨rfl, rfl⟩)
  refine (powFits_any n 0 (by omega) (by omega) (by omega) _).mono ?_
  intro e w' hps
  obtain ⟨b, rfl, rfl, hb⟩ := hps
  cases b with
  | false =>
    clear hb
    go_wp2
    go_ret
    exact ⟨rfl, Grown.refl _⟩
  | true =>
    clear hb
    go_wp2_with fail
    refine (h0.out _).mono ?_
    rintro e w' ⟨rfl, rfl⟩
    go_wp2_with fail
    refine (h0.out _).mono ?_
    rintro e w' ⟨rfl, rfl⟩
    go_wp2_with fail
    refine (h1c.out _).mono ?_
    rintro e w' ⟨rfl, rfl⟩
    go_wp2_with fail
    go_ret
    exact ⟨rfl, Grown.refl _⟩

set_option maxHeartbeats 1000000 in
theorem large_in (n k : Nat) (h1 : 62 ≤ (n : Int)) (hn : (n : Int) ≤ 9223372036854775807) (hk1 : 1 ≤ k) (hk : (k : Int) ≤ 65536) (hkn : (k : Int) ≤ (n : Int)) (w : World) : Calls Try.prog 3 #[.int .i64 (n : Int), .int .i64 (k : Int)] w fun e w' => e = .returned (.bool true) ∧ Grown w w' := by
  have h0 : Hid (∀ w, Calls Try.prog 7 #[.int .i64 (n : Int), .int .i64 0] w fun e w' => e = .returned (.int .i64 ((1 : Nat) : Int)) ∧ w' = w) := by
    intro w
    have := zzbinomial_any (n : Int) 0 n 0 (by omega) (by omega) (by omega) (by omega) ((fits_one n hn).less (by omega)) w
    rw [ch_zero] at this
    exact this
  have h1c : Hid (∀ w, Calls Try.prog 7 #[.int .i64 (n : Int), .int .i64 1] w fun e w' => e = .returned (.int .i64 (n : Int)) ∧ w' = w) := by
    intro w
    have := zzbinomial_any (n : Int) 1 n 1 (by omega) (by omega) (by omega) (by omega) (fits_one n hn) w
    rw [ch_one] at this
    exact this
  go_enter Try.func3, Try.ntmps3
  go_wp2_with (go_at_call 5; refine (maxRow_any _).mono ?_; rintro e w' ⟨rfl, rfl⟩)
  refine (powFits_any n k (by omega) (by omega) (by omega) _).mono ?_
  intro e w' hps
  obtain ⟨b, rfl, rfl, hb⟩ := hps
  cases b with
  | false =>
    clear hb
    go_wp2
    go_ret
    exact ⟨rfl, Grown.refl _⟩
  | true =>
    have hf : Fits n k := fits_pow n k (by omega) (hb rfl)
    clear hb
    have hf1 : Fits (n - 1) k := hf.le (by omega)
    have hf2 : Fits (n - 1) (k - 1) := hf1.less (by omega)
    have hbd := ch_bd n k hk1 hf
    rw [ch_split n k (by omega) hk1] at hbd
    have hc : Hid (∀ w, Calls Try.prog 7 #[.int .i64 (n : Int), .int .i64 (k : Int)] w fun e w' => e = .returned (.int .i64 ((ch (n - 1) (k - 1) : Int) + (ch (n - 1) k : Int))) ∧ w' = w) := by
      intro w
      have := zzbinomial_any (n : Int) (k : Int) n k (by omega) (by omega) (by omega) (by omega) hf w
      rw [ch_split n k (by omega) hk1, Int.natCast_add] at this
      exact this
    have hx : Hid (∀ w, Calls Try.prog 7 #[.int .i64 ((n : Int) - 1), .int .i64 ((k : Int) - 1)] w fun e w' => e = .returned (.int .i64 (ch (n - 1) (k - 1) : Int)) ∧ w' = w) := fun w =>
      zzbinomial_any _ _ (n - 1) (k - 1) (by omega) (by omega) (by omega) (by omega) hf2 w
    have hy : Hid (∀ w, Calls Try.prog 7 #[.int .i64 ((n : Int) - 1), .int .i64 (k : Int)] w fun e w' => e = .returned (.int .i64 (ch (n - 1) k : Int)) ∧ w' = w) := fun w =>
      zzbinomial_any _ _ (n - 1) k (by omega) (by omega) (by omega) (by omega) hf1 w
    go_wp2_with fail
    refine (hc.out _).mono ?_
    rintro e w' ⟨rfl, rfl⟩
    go_wp2_with fail
    refine (h0.out _).mono ?_
    rintro e w' ⟨rfl, rfl⟩
    go_wp2_with fail
    refine (h1c.out _).mono ?_
    rintro e w' ⟨rfl, rfl⟩
    go_wp2_with fail
    refine (hx.out _).mono ?_
    rintro e w' ⟨rfl, rfl⟩
    go_wp2_with fail
    refine (hy.out _).mono ?_
    rintro e w' ⟨rfl, rfl⟩
    go_wp2_with fail
    go_ret
    exact ⟨rfl, Grown.refl _⟩

/-! ### STEP 1: THE WALK: the Go text returns true. 'Grown w w'': the world has at most new blocks (Derived/RowKit3.lean). Part the cases AHEAD of 'go_enter' where a test parts the walk; take each callee by a contract of your own. -/
theorem walk (a0 : Int) (a1 : Int) (w0 : (Lit.int .i64 a0).wf = true) (w1 : (Lit.int .i64 a1).wf = true) (w : World) :
    Calls Try.prog 3 #[.int .i64 a0, .int .i64 a1] w fun e w' => e = .returned (.bool true) ∧ Grown w w' := by
  have b0 := bounds_i64 w0
  have b1 := bounds_i64 w1
  by_cases c0 : a0 < 0
  · go_enter Try.func3, Try.ntmps3
    go_wp2
    go_ret
    exact ⟨rfl, Grown.refl _⟩
  · by_cases c1 : a1 < 0
    · go_enter Try.func3, Try.ntmps3
      go_wp2
      go_ret
      exact ⟨rfl, Grown.refl _⟩
    · by_cases c2 : 65536 < a1
      · go_enter Try.func3, Try.ntmps3
        go_wp2
        go_ret
        exact ⟨rfl, Grown.refl _⟩
      · obtain ⟨n, rfl⟩ : ∃ n : Nat, a0 = (n : Int) := ⟨a0.toNat, by omega⟩
        obtain ⟨k, rfl⟩ : ∃ k : Nat, a1 = (k : Int) := ⟨a1.toNat, by omega⟩
        clear w0 w1 c0 c1
        by_cases hn : n ≤ 61
        · have hf : ∀ m j, m ≤ n → Fits m j := fun m j h => fits61 m j (by omega)
          by_cases hz : n = 0
          · subst hz
            by_cases hk0 : k = 0
            · subst hk0; exact w00 w
            · exact w0k k (by omega) (by omega) w
          · by_cases hk0 : k = 0
            · subst hk0; exact small_n0 n (by omega) (by omega) w
            · by_cases hkn : n < k
              · exact small_over n k (by omega) (by omega) (by omega) w
              · exact small_in n k (by omega) (by omega) (by omega) w
        · by_cases hkn : n < k
          · exact large_over n k (by omega) (by omega) (by omega) (by omega) w
          · by_cases hk0 : k = 0
            · subst hk0; exact large_n0 n (by omega) (by omega) w
            · exact large_in n k (by omega) (by omega) (by omega) (by omega) (by omega) w

/-! ### THE ROW's STEP: WRITTEN OUT: LEAVE IT -/
set_option maxRecDepth 100000 in
theorem lifted (os : Os) (started : os.Started) (H : Type) (enc : TypeId × Value → H) :
    ReturnsInHanded {} Try.checked os 3 .any (Rows.fnBinomialPascalTriangleSpec.pre6 enc Try.prog Try.f3 Rows.fnBinomialPascalTriangleRow.domain false) (Rows.fnBinomialPascalTriangleSpec.post enc Try.prog Try.f3 false true false false) := by
  refine returnsInHanded_of_change (C := Try.checked) own started (by kernel_rfl) Try.func3
    (ChangeSpec.witness6 (enc := enc) (C := Try.checked) false ⟨#[], #[.int .i64 0, .int .i64 0], []⟩ 8 (by kernel_rfl) (by kernel_rfl) (by kernel_rfl) (by kernel_rfl)) ?_
  intro W base args ds gs before hval0 hW hcnd _
  have hval : ∀ (j : Nat) t v, Try.f3.params[j]? = some t → args[j]? = some v → Value.okWide Try.prog W .any base t v := hval0
  have hW' := hW
  obtain ⟨p, q, hA0, hV, rfl, hfz, hnd⟩ := hW
  have hA : DataW.TrodAll enc Try.prog W 0 (fun _ => true) true Try.f3.params.toList args.toList ds p := hA0
  rw [Try.params3] at hA hval
  obtain ⟨v0, vs0, d0, ds0, p0, q0, hargs, rfl, rfl, h0, r0⟩ := trodAll_cons hA
  obtain ⟨v1, vs1, d1, ds1, p1, q1, rfl, rfl, rfl, h1, r1⟩ := trodAll_cons r0
  obtain ⟨rfl, rfl, rfl⟩ := trodAll_nil r1
  obtain rfl : args = #[v0, v1] := by cases args; simp_all
  obtain ⟨rfl, rfl⟩ := trodVars_none hV
  obtain ⟨a0, rfl, rfl, rfl, w0⟩ := open_int Try.underlying3 (hval 0 3 v0 rfl rfl) h0
  obtain ⟨a1, rfl, rfl, rfl, w1⟩ := open_int Try.underlying3 (hval 1 3 v1 rfl rfl) h1
  clear hA0 hval0
  simp only [List.append_nil] at hW'
  refine (walk a0 a1 w0 w1 W).mono fun e W' ⟨he, hg⟩ => ?_
  subst he
  exact ⟨_, rfl, post_of_same (pa := []) (pv := []) hW' (fun _ _ _ => (trodAll_cons_mk (shut_bool Try.underlying4 _) trodAll_mk0)) (fun sp _ => (trodAll_cons_mk (shut_int Try.underlying3 w0) (trodAll_cons_mk (shut_int Try.underlying3 w1) trodAll_mk0))) (fun _ _ => rfl) rfl
    (hg.frame _) hg.2.1 (ok_one (by kernel_rfl) rfl (okWide_bool_mk Try.underlying4 _))⟩

theorem over : Rows.fnBinomialPascalTriangleRow.holds Try.pinned (OpenSpec.ofChange Rows.fnBinomialPascalTriangleSpec) :=
  OpenClaim.holds_of_wide 3 Try.f3 rfl rfl rfl rfl rfl rfl rfl ⟨rfl, rfl, rfl, rfl, rfl⟩ rfl rfl rfl rfl rfl (by kernel_rfl) Try.func3 (by kernel_rfl)
    (of_decide_eq_true (by kernel_rfl)) (by unfold Func.isWrapper; first | (rw [if_pos (by decide +kernel)]; kernel_rfl) | (rw [if_neg (by decide +kernel)]; exact ⟨rfl, rfl⟩))
    (fun os started H enc _ => lifted os started H enc)

/-- ████ THE STATEMENT ████ -/
theorem proved : Rows.FnBinomialPascalTriangleSaid :=
  over
#print axioms proved
end Go.Proofs.Qxb6617639a.fnBinomialPascalTriangle
