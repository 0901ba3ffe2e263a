/-
  No cell of these rows narrows 'for every input' (looked for: loops, veiled, ifaces, maps, wideKeys, modest, calm, conditions, laid).
  DERIVED. THE GIVEN ROWS OF THIS SEAT. 1 by the template 'for every input the law returns true; each argument reads behind the call as it read before'; 0 by the template 'total and deterministic' (their statements: Qxb6617698aTotals.lean).
  GIVEN WITH THE SEED: the statements are not yours to turn. If you find one false, say at which input.
  Laid BY PROGRAM, IN A SANDBOX (cutbox-rows.mjs): the forced cells as the released guide's own fill.sh prints them over the translation f66eb37940434e82… (all of the seat's roots in one cut). By AI agents, Wed Nov 11 2026. No macro, syntax, notation, axiom, sorry.
-/
import Derived.Test.Qxb6617698aChecked
import GoSem.Claim
import GoSem.ClaimJoined
import GoSem.ClaimMapViews
import Derived.JoinedTies
import Derived.KernelRfl
namespace Go.Proofs.Qxb6617698a
/- THE CELL 'sum', in the pinned program and in every row, IS THE sha256 OF THE DUMP (.gsa) THAT Qxb6617698aProg.lean LOADS. Nothing in Lean hashes anything: it is a label: what it is worth is what the hold of that sum in a sandbox is worth. -/
noncomputable def Try.pinned : Pinned := { name := "qxb6617698a", sum := "f66eb37940434e825562cb4dc4a318381aa20b7333f5855f9d6d189b7e131992", checked := Try.checked }
namespace Rows
def none {H : Type} : Left H := { results := [], args := [] }

/-- 'zzlaws_scenario_b1.FnTrustedFirstCoveringEntryWins': WHATEVER THE INPUT: true; the input reads as it did. -/
def fnTrustedFirstCoveringEntryWinsSpec : ChangeSpec := { name := "fnTrustedFirstCoveringEntryWins", fn := fun _ => fun
  | [d1, d2, d3, d4, d5, d6, d7, d8, d9, d10] => { results := [.lit (.bool true)], args := [d1, d2, d3, d4, d5, d6, d7, d8, d9, d10] }
  | _ => none }
def fnTrustedFirstCoveringEntryWinsRow : OpenClaim := { program := "qxb6617698a", sum := "f66eb37940434e825562cb4dc4a318381aa20b7333f5855f9d6d189b7e131992", func := "example.com/slackwater/slackwater/zzlaws_scenario_b1.FnTrustedFirstCoveringEntryWins", spec := "fnTrustedFirstCoveringEntryWins", plainKeys := false, apart := false }
def FnTrustedFirstCoveringEntryWinsSaid : Prop := fnTrustedFirstCoveringEntryWinsRow.holds Try.pinned (OpenSpec.ofChange fnTrustedFirstCoveringEntryWinsSpec)

/-- ITS FALSE NEIGHBOUR: 'it returns false'. Refute it at one input. -/
def fnTrustedFirstCoveringEntryWinsWrong : ChangeSpec := { name := "fnTrustedFirstCoveringEntryWins", fn := fun _ => fun
  | [d1, d2, d3, d4, d5, d6, d7, d8, d9, d10] => { results := [.lit (.bool false)], args := [d1, d2, d3, d4, d5, d6, d7, d8, d9, d10] }
  | _ => none }
def FnTrustedFirstCoveringEntryWinsWrongFalsely : Prop := fnTrustedFirstCoveringEntryWinsRow.holds Try.pinned (OpenSpec.ofChange fnTrustedFirstCoveringEntryWinsWrong)

end Rows
end Go.Proofs.Qxb6617698a
