/-
  No cell of these rows narrows 'for every input' (looked for: loops, veiled, ifaces, maps, wideKeys, modest, calm, conditions, laid).
  DERIVED. THE GIVEN ROWS OF THIS SEAT. 2 by the template 'for every input the law returns true; each argument reads behind the call as it read before'; 0 by the template 'total and deterministic' (their statements: Qxb6617639aTotals.lean).
  GIVEN WITH THE SEED: the statements are not yours to turn. If you find one false, say at which input.
  Laid BY PROGRAM, IN A SANDBOX (cutbox-rows.mjs): the forced cells as the released guide's own fill.sh prints them over the translation 2fa0b105ec9ee9ec… (all of the seat's roots in one cut). By AI agents, Wed Nov 11 2026. No macro, syntax, notation, axiom, sorry.
-/
import Derived.Test.Qxb6617639aChecked
import GoSem.Claim
import GoSem.ClaimJoined
import GoSem.ClaimMapViews
import Derived.JoinedTies
import Derived.KernelRfl
namespace Go.Proofs.Qxb6617639a
/- THE CELL 'sum', in the pinned program and in every row, IS THE sha256 OF THE DUMP (.gsa) THAT Qxb6617639aProg.lean LOADS. Nothing in Lean hashes anything: it is a label: what it is worth is what the hold of that sum in a sandbox is worth. -/
noncomputable def Try.pinned : Pinned := { name := "qxb6617639a", sum := "2fa0b105ec9ee9ecef9dc7a62d01a2f1fada97af7b670bf39aa99fceace76175", checked := Try.checked }
namespace Rows
def none {H : Type} : Left H := { results := [], args := [] }

/-- 'zzlaws_root_b1.FnBinomialPascalTriangle': WHATEVER THE INPUT: true; the input reads as it did. -/
def fnBinomialPascalTriangleSpec : ChangeSpec := { name := "fnBinomialPascalTriangle", fn := fun _ => fun
  | [d1, d2] => { results := [.lit (.bool true)], args := [d1, d2] }
  | _ => none }
def fnBinomialPascalTriangleRow : OpenClaim := { program := "qxb6617639a", sum := "2fa0b105ec9ee9ecef9dc7a62d01a2f1fada97af7b670bf39aa99fceace76175", func := "example.com/assent/assent/zzlaws_root_b1.FnBinomialPascalTriangle", spec := "fnBinomialPascalTriangle", apart := false }
def FnBinomialPascalTriangleSaid : Prop := fnBinomialPascalTriangleRow.holds Try.pinned (OpenSpec.ofChange fnBinomialPascalTriangleSpec)

/-- ITS FALSE NEIGHBOUR: 'it returns false'. Refute it at one input. -/
def fnBinomialPascalTriangleWrong : ChangeSpec := { name := "fnBinomialPascalTriangle", fn := fun _ => fun
  | [d1, d2] => { results := [.lit (.bool false)], args := [d1, d2] }
  | _ => none }
def FnBinomialPascalTriangleWrongFalsely : Prop := fnBinomialPascalTriangleRow.holds Try.pinned (OpenSpec.ofChange fnBinomialPascalTriangleWrong)

/-- 'zzlaws_root_b1.FnBinomialRowSymmetryAndSum': WHATEVER THE INPUT: true; the input reads as it did. -/
def fnBinomialRowSymmetryAndSumSpec : ChangeSpec := { name := "fnBinomialRowSymmetryAndSum", fn := fun _ => fun
  | [d1, d2] => { results := [.lit (.bool true)], args := [d1, d2] }
  | _ => none }
def fnBinomialRowSymmetryAndSumRow : OpenClaim := { program := "qxb6617639a", sum := "2fa0b105ec9ee9ecef9dc7a62d01a2f1fada97af7b670bf39aa99fceace76175", func := "example.com/assent/assent/zzlaws_root_b1.FnBinomialRowSymmetryAndSum", spec := "fnBinomialRowSymmetryAndSum", apart := false }
def FnBinomialRowSymmetryAndSumSaid : Prop := fnBinomialRowSymmetryAndSumRow.holds Try.pinned (OpenSpec.ofChange fnBinomialRowSymmetryAndSumSpec)

/-- ITS FALSE NEIGHBOUR: 'it returns false'. Refute it at one input. -/
def fnBinomialRowSymmetryAndSumWrong : ChangeSpec := { name := "fnBinomialRowSymmetryAndSum", fn := fun _ => fun
  | [d1, d2] => { results := [.lit (.bool false)], args := [d1, d2] }
  | _ => none }
def FnBinomialRowSymmetryAndSumWrongFalsely : Prop := fnBinomialRowSymmetryAndSumRow.holds Try.pinned (OpenSpec.ofChange fnBinomialRowSymmetryAndSumWrong)

end Rows
end Go.Proofs.Qxb6617639a
