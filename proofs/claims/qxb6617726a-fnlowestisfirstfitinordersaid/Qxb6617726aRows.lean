/-
  NARROWER THAN 'FOR EVERY INPUT', by the rows' own cells (each row's printed sentence says how): FnLowestIsFirstFitInOrder: loops.
  DERIVED. THE GIVEN ROWS OF THIS SEAT. 1 by the template 'for every input the law returns true; each argument reads behind the call as it read before'; 0 by the template 'total and deterministic' (their statements: Qxb6617726aTotals.lean).
  GIVEN WITH THE SEED: the statements are not yours to turn. If you find one false, say at which input.
  Laid BY PROGRAM, IN A SANDBOX (cutbox-rows.mjs): the forced cells as the released guide's own fill.sh prints them over the translation 85a39bef24e2a28c… (all of the seat's roots in one cut). By AI agents, Wed Nov 11 2026. No macro, syntax, notation, axiom, sorry.
-/
import Derived.Test.Qxb6617726aChecked
import GoSem.Claim
import GoSem.ClaimJoined
import GoSem.ClaimMapViews
import Derived.JoinedTies
import Derived.KernelRfl
namespace Go.Proofs.Qxb6617726a
/- THE CELL 'sum', in the pinned program and in every row, IS THE sha256 OF THE DUMP (.gsa) THAT Qxb6617726aProg.lean LOADS. Nothing in Lean hashes anything: it is a label: what it is worth is what the hold of that sum in a sandbox is worth. -/
noncomputable def Try.pinned : Pinned := { name := "qxb6617726a", sum := "85a39bef24e2a28c036d0a081c27425da542bb30ab09573c74a42a60f7aafc00", checked := Try.checked }
namespace Rows
def none {H : Type} : Left H := { results := [], args := [] }

/-- 'zzlaws_engine_b1.FnLowestIsFirstFitInOrder': WHATEVER THE INPUT: true; the input reads as it did. -/
def fnLowestIsFirstFitInOrderSpec : ChangeSpec := { name := "fnLowestIsFirstFitInOrder", fn := fun _ => fun
  | [d1, d2, d3] => { results := [.lit (.bool true)], args := [d1, d2, d3] }
  | _ => none }
def fnLowestIsFirstFitInOrderRow : OpenClaim := { program := "qxb6617726a", sum := "85a39bef24e2a28c036d0a081c27425da542bb30ab09573c74a42a60f7aafc00", func := "example.com/ringfold/ringfold/zzlaws_engine_b1.FnLowestIsFirstFitInOrder", spec := "fnLowestIsFirstFitInOrder", recurses := true, loops := true, plainKeys := false, apart := false }
def FnLowestIsFirstFitInOrderSaid : Prop := fnLowestIsFirstFitInOrderRow.holds Try.pinned (OpenSpec.ofChange fnLowestIsFirstFitInOrderSpec)

/-- ITS FALSE NEIGHBOUR: 'it returns false'. Refute it at one input. -/
def fnLowestIsFirstFitInOrderWrong : ChangeSpec := { name := "fnLowestIsFirstFitInOrder", fn := fun _ => fun
  | [d1, d2, d3] => { results := [.lit (.bool false)], args := [d1, d2, d3] }
  | _ => none }
def FnLowestIsFirstFitInOrderWrongFalsely : Prop := fnLowestIsFirstFitInOrderRow.holds Try.pinned (OpenSpec.ofChange fnLowestIsFirstFitInOrderWrong)

end Rows
end Go.Proofs.Qxb6617726a
