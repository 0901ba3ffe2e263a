/-
  The contracts of abs and ZZabs.
-/
import Derived.Test.Qxb6617715aRows
import Derived.WalkKit
import Derived.ProofKit
namespace Go.Proofs.Qxb6617715a
open Go.ChangeShapes Go.WideShapes Go.ChangeAt Go.RowKit

theorem abs_neg (x y : Int) (h0 : x < 0) (h1 : -9223372036854775807 ≤ x) (hy : y = -x) (w : World) :
    Calls Try.prog 5 #[.int .i64 x] w fun e w' => e = .returned (.int .i64 y) ∧ w' = w := by
  subst hy
  go_enter Try.func5, Try.ntmps5
  go_wp2
  go_ret
  exact ⟨rfl, rfl⟩
theorem abs_pos (x : Int) (h0 : 0 ≤ x) (w : World) :
    Calls Try.prog 5 #[.int .i64 x] w fun e w' => e = .returned (.int .i64 x) ∧ w' = w := by
  go_enter Try.func5, Try.ntmps5
  go_wp2
  go_ret
  exact ⟨rfl, rfl⟩
theorem neg_min (x : Int) (h0 : x ≤ -9223372036854775808) (h1 : -9223372036854775808 ≤ x) : wrap64 (-x) = x := by
  unfold wrap64; omega
theorem ret_int {k : IntKind} {a b : Int} (h : a = b) : Ending.returned (.int k a) = .returned (.int k b) := by rw [h]
theorem ret_bool {b : Bool} (h : b = true) : Ending.returned (.bool b) = .returned (.bool true) := by rw [h]
theorem abs_min (v x : Int) (hv : v = x) (h0 : x ≤ -9223372036854775808) (h1 : -9223372036854775808 ≤ x) (w : World) :
    Calls Try.prog 5 #[.int .i64 v] w fun e w' => e = .returned (.int .i64 x) ∧ w' = w := by
  subst hv
  have h : Hid (wrap64 (-v) = v) := neg_min v h0 h1
  go_enter Try.func5, Try.ntmps5
  go_wp2
  go_ret
  exact ⟨ret_int h.out, rfl⟩
end Go.Proofs.Qxb6617715a
