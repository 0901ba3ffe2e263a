/-
  No cell of these rows narrows 'for every input' (looked for: loops, veiled, ifaces, maps, wideKeys, modest, calm, conditions, laid).
  DERIVED. THE GIVEN ROWS OF THIS SEAT. 2 by the template 'for every input the law returns true; each argument reads behind the call as it read before'; 0 by the template 'total and deterministic' (their statements: Qxb6617715aTotals.lean).
  GIVEN WITH THE SEED: the statements are not yours to turn. If you find one false, say at which input.
  Laid BY PROGRAM, IN A SANDBOX (cutbox-rows.mjs): the forced cells as the released guide's own fill.sh prints them over the translation 0dacff13ae1ea9a9… (all of the seat's roots in one cut). By AI agents, Wed Nov 11 2026. No macro, syntax, notation, axiom, sorry.
-/
import Derived.Test.Qxb6617715aChecked
import GoSem.Claim
import GoSem.ClaimJoined
import GoSem.ClaimMapViews
import Derived.JoinedTies
import Derived.KernelRfl
namespace Go.Proofs.Qxb6617715a
/- THE CELL 'sum', in the pinned program and in every row, IS THE sha256 OF THE DUMP (.gsa) THAT Qxb6617715aProg.lean LOADS. Nothing in Lean hashes anything: it is a label: what it is worth is what the hold of that sum in a sandbox is worth. -/
noncomputable def Try.pinned : Pinned := { name := "qxb6617715a", sum := "0dacff13ae1ea9a9eb1e77f58c7cdc120eea3a8483485f807a6408cf24e1f5a4", checked := Try.checked }
namespace Rows
def none {H : Type} : Left H := { results := [], args := [] }

/-- 'zzlaws_pkg_compound_b1.FnAbsSignAndSymmetry': WHATEVER THE INPUT: true; the input reads as it did. -/
def fnAbsSignAndSymmetrySpec : ChangeSpec := { name := "fnAbsSignAndSymmetry", fn := fun _ => fun
  | [d] => { results := [.lit (.bool true)], args := [d] }
  | _ => none }
def fnAbsSignAndSymmetryRow : OpenClaim := { program := "qxb6617715a", sum := "0dacff13ae1ea9a9eb1e77f58c7cdc120eea3a8483485f807a6408cf24e1f5a4", func := "example.com/nocturne/nocturne/zzlaws_pkg_compound_b1.FnAbsSignAndSymmetry", spec := "fnAbsSignAndSymmetry", apart := false }
def FnAbsSignAndSymmetrySaid : Prop := fnAbsSignAndSymmetryRow.holds Try.pinned (OpenSpec.ofChange fnAbsSignAndSymmetrySpec)

/-- ITS FALSE NEIGHBOUR: 'it returns false'. Refute it at one input. -/
def fnAbsSignAndSymmetryWrong : ChangeSpec := { name := "fnAbsSignAndSymmetry", fn := fun _ => fun
  | [d] => { results := [.lit (.bool false)], args := [d] }
  | _ => none }
def FnAbsSignAndSymmetryWrongFalsely : Prop := fnAbsSignAndSymmetryRow.holds Try.pinned (OpenSpec.ofChange fnAbsSignAndSymmetryWrong)

/-- 'zzlaws_pkg_compound_b1.FnAbsDistance': WHATEVER THE INPUT: true; the input reads as it did. -/
def fnAbsDistanceSpec : ChangeSpec := { name := "fnAbsDistance", fn := fun _ => fun
  | [d1, d2] => { results := [.lit (.bool true)], args := [d1, d2] }
  | _ => none }
def fnAbsDistanceRow : OpenClaim := { program := "qxb6617715a", sum := "0dacff13ae1ea9a9eb1e77f58c7cdc120eea3a8483485f807a6408cf24e1f5a4", func := "example.com/nocturne/nocturne/zzlaws_pkg_compound_b1.FnAbsDistance", spec := "fnAbsDistance", apart := false }
def FnAbsDistanceSaid : Prop := fnAbsDistanceRow.holds Try.pinned (OpenSpec.ofChange fnAbsDistanceSpec)

/-- ITS FALSE NEIGHBOUR: 'it returns false'. Refute it at one input. -/
def fnAbsDistanceWrong : ChangeSpec := { name := "fnAbsDistance", fn := fun _ => fun
  | [d1, d2] => { results := [.lit (.bool false)], args := [d1, d2] }
  | _ => none }
def FnAbsDistanceWrongFalsely : Prop := fnAbsDistanceRow.holds Try.pinned (OpenSpec.ofChange fnAbsDistanceWrong)

end Rows
end Go.Proofs.Qxb6617715a
