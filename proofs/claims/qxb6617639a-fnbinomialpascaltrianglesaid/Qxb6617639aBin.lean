/-
  The contracts of binomial, ZZbinomial, maxRowNoOverflow and powFits.
-/
import Derived.Test.Qxb6617639aRows
import Derived.Test.Qxb6617639aPlain
import Derived.WalkKit
import Derived.ProofKit
namespace Go.Proofs.Qxb6617639a
open Go.ChangeShapes Go.WideShapes Go.ChangeAt Go.RowKit
open Plain

theorem ret_int {k : IntKind} {a b : Int} (h : a = b) : Ending.returned (.int k a) = .returned (.int k b) := by rw [h]
theorem val_int {k : IntKind} {a b : Int} (h : a = b) : Value.int k a = .int k b := by rw [h]

set_option maxHeartbeats 400000 in
theorem binomial_any (a b : Int) (n k : Nat) (ha : a = (n : Int)) (hb : b = (k : Int)) (hn : (n : Int) ≤ 9223372036854775807) (hk : (k : Int) ≤ 65536) (hf : Fits n k) (w : World) :
    Calls Try.prog 8 #[.int .i64 a, .int .i64 b] w fun e w' => e = .returned (.int .i64 (ch n k : Int)) ∧ w' = w := by
  subst ha; subst hb
  go_enter Try.func8, Try.ntmps8
  go_wp2
  go_loop [5, 8] (fun c i => ∃ j : Nat, j ≤ k ∧ i = .int .i64 (j : Int) ∧ c = .int .i64 (ch n j : Int)) (fun _ i => k - (intOf i).toNat)
  case atStart => exact ⟨0, Nat.zero_le _, rfl, by rw [ch_zero]; rfl⟩
  case round =>
    obtain ⟨j, hj, rfl, rfl⟩ := hrel
    by_cases hlt : j < k
    · have h1 := hf j hlt
      have h0 := ch_nonneg n j
      go_wp2
      go_round
      case rel => exact ⟨j + 1, by omega, by go_num, val_int (ch_div n j)⟩
      case measure => simp [intOf]; omega
    · go_wp2
      go_ret
      exact ⟨ret_int (by rw [show j = k from by omega]), rfl⟩

theorem zzbinomial_any (a b : Int) (n k : Nat) (ha : a = (n : Int)) (hb : b = (k : Int)) (hn : (n : Int) ≤ 9223372036854775807) (hk : (k : Int) ≤ 65536) (hf : Fits n k) (w : World) :
    Calls Try.prog 7 #[.int .i64 a, .int .i64 b] w fun e w' => e = .returned (.int .i64 (ch n k : Int)) ∧ w' = w := by
  subst ha; subst hb
  go_enter Try.func7, Try.ntmps7
  go_wp2_with (go_at_call 8; refine (binomial_any _ _ n k rfl rfl hn hk hf _).mono ?_; rintro e w' ⟨rfl, rfl⟩)
  go_ret
  exact ⟨rfl, rfl⟩

theorem maxRow_any (w : World) : Calls Try.prog 5 #[] w fun e w' => e = .returned (.int .i64 61) ∧ w' = w := by
  go_enter Try.func5, Try.ntmps5
  go_wp2
  go_ret
  exact ⟨rfl, rfl⟩

theorem pow_lt {p q n : Int} (hn : 1 ≤ n) (h : p ≤ q / n) : p * n ≤ q := by
  have := Int.mul_le_mul_of_nonneg_right h (show 0 ≤ n by omega)
  have := Int.ediv_mul_le q (show n ≠ 0 by omega)
  omega

def PowSaid (n m : Nat) (w : World) (e : Ending) (w' : World) : Prop := ∃ b : Bool, e = .returned (.bool b) ∧ w' = w ∧ (b = true → (n : Int) ^ m ≤ 9223372036854775807)
set_option maxHeartbeats 400000 in
theorem powFits_any (n m : Nat) (hn : 62 ≤ (n : Int)) (hn2 : (n : Int) ≤ 9223372036854775807) (hm : (m : Int) ≤ 65536) (w : World) :
    Calls Try.prog 6 #[.int .i64 (n : Int), .int .i64 (m : Int)] w (PowSaid n m w) := by
  go_enter Try.func6, Try.ntmps6
  go_wp2
  go_loop [5, 6] (fun p i => ∃ j : Nat, j ≤ m ∧ i = .int .i64 (j : Int) ∧ p = .int .i64 ((n : Int) ^ j) ∧ 1 ≤ (n : Int) ^ j ∧ (n : Int) ^ j ≤ 9223372036854775807) (fun _ i => m - (intOf i).toNat)
  case atStart => exact ⟨0, Nat.zero_le _, rfl, by simp, by simp, by simp⟩
  case round =>
    obtain ⟨j, hj, rfl, rfl, hp1, hp2⟩ := hrel
    by_cases hlt : j < m
    · by_cases hd : 9223372036854775807 / (n : Int) < (n : Int) ^ j
      · go_wp2
        go_ret
        exact ⟨false, rfl, rfl, by simp⟩
      · have hx : (n : Int) ^ j * (n : Int) ≤ 9223372036854775807 := pow_lt (by omega) (by omega)
        have hy : 1 * 1 ≤ (n : Int) ^ j * (n : Int) := Int.mul_le_mul hp1 (by omega) (by omega) (by omega)
        go_wp2
        go_round
        case rel => exact ⟨j + 1, by omega, by go_num, val_int (by rw [Int.pow_succ]), by rw [Int.pow_succ]; omega, by rw [Int.pow_succ]; omega⟩
        case measure => simp [intOf]; omega
    · have hjm0 : j = m := by omega
      have hjm : Hid (j = m) := hjm0
      clear hjm0
      go_wp2
      go_ret
      exact ⟨true, rfl, rfl, fun _ => by rw [← hjm.out]; exact hp2⟩
end Go.Proofs.Qxb6617639a
