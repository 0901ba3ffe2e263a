/-
  The contract of zzBytes_FnTrustedFirstCoveringEntryWins.
-/
import Derived.Test.Qxb6617698aOut
namespace Go.Proofs.Qxb6617698a
open Go.ChangeShapes Go.WideShapes Go.ChangeAt Go.RowKit

def SomeBool (w : World) (e : Ending) (w' : World) : Prop := ∃ b : Bool, e = .returned (.bool b) ∧ w = w'
set_option maxHeartbeats 400000 in
theorem bytes_any (w : World) (v0 v1 v2 v3 v7 v8 v9 : Value) (aS aU aT : Option Addr) (lS lU lT cS cU cT : Nat) (hS : lS ≤ 9223372036854775807) (hU : lU ≤ 9223372036854775807) (hT : lT ≤ 9223372036854775807) :
    Calls Try.prog 4 #[v0, v1, v2, v3, .slice aS lS cS, .slice aU lU cU, .slice aT lT cT, v7, v8, v9] w (SomeBool w) := by
  go_enter Try.func4, Try.ntmps4
  go_wp2
  all_goals
    go_ret
    exact ⟨_, rfl, rfl⟩
end Go.Proofs.Qxb6617698a
