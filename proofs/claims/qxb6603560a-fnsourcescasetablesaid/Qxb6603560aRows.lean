/-
  No cell of these rows narrows 'for every input' (looked for: loops, veiled, ifaces, maps, wideKeys, modest, calm, conditions, laid).
  DERIVED. THE GIVEN ROWS OF THIS SEAT. 2 by the template 'for every input the law returns true; each argument reads behind the call as it read before'; 0 by the template 'total and deterministic' (their statements: Qxb6603560aTotals.lean).
  GIVEN WITH THE SEED: the statements are not yours to turn. If you find one false, say at which input.
  Laid BY PROGRAM, IN A SANDBOX (cutbox-rows.mjs): the forced cells as the released guide's own fill.sh prints them over the translation d4f3a34704786a17… (all of the seat's roots in one cut). By AI agents, Wed Nov 11 2026. No macro, syntax, notation, axiom, sorry.
-/
import Derived.Test.Qxb6603560aChecked
import GoSem.Claim
import GoSem.ClaimJoined
import GoSem.ClaimMapViews
import Derived.JoinedTies
import Derived.KernelRfl
namespace Go.Proofs.Qxb6603560a
/- THE CELL 'sum', in the pinned program and in every row, IS THE sha256 OF THE DUMP (.gsa) THAT Qxb6603560aProg.lean LOADS. Nothing in Lean hashes anything: it is a label: what it is worth is what the hold of that sum in a sandbox is worth. -/
noncomputable def Try.pinned : Pinned := { name := "qxb6603560a", sum := "d4f3a34704786a173b0defbde1d35bcf11e84c55afa1db4d67164e71994d63f5", checked := Try.checked }
namespace Rows
def none {H : Type} : Left H := { results := [], args := [] }

/-- 'zzlaws_manifest_b1.FnSourcesCaseTable': WHATEVER THE INPUT: true; the input reads as it did. -/
def fnSourcesCaseTableSpec : ChangeSpec := { name := "fnSourcesCaseTable", fn := fun _ => fun
  | [d1, d2, d3, d4, d5, d6, d7, d8] => { results := [.lit (.bool true)], args := [d1, d2, d3, d4, d5, d6, d7, d8] }
  | _ => none }
def fnSourcesCaseTableRow : OpenClaim := { program := "qxb6603560a", sum := "d4f3a34704786a173b0defbde1d35bcf11e84c55afa1db4d67164e71994d63f5", func := "example.com/pillion/pillion/zzlaws_manifest_b1.FnSourcesCaseTable", spec := "fnSourcesCaseTable", apart := false }
def FnSourcesCaseTableSaid : Prop := fnSourcesCaseTableRow.holds Try.pinned (OpenSpec.ofChange fnSourcesCaseTableSpec)

/-- ITS FALSE NEIGHBOUR: 'it returns false'. Refute it at one input. -/
def fnSourcesCaseTableWrong : ChangeSpec := { name := "fnSourcesCaseTable", fn := fun _ => fun
  | [d1, d2, d3, d4, d5, d6, d7, d8] => { results := [.lit (.bool false)], args := [d1, d2, d3, d4, d5, d6, d7, d8] }
  | _ => none }
def FnSourcesCaseTableWrongFalsely : Prop := fnSourcesCaseTableRow.holds Try.pinned (OpenSpec.ofChange fnSourcesCaseTableWrong)

/-- 'zzlaws_manifest_b1.FnSourcesRoundTrip': WHATEVER THE INPUT: true; the input reads as it did. -/
def fnSourcesRoundTripSpec : ChangeSpec := { name := "fnSourcesRoundTrip", fn := fun _ => fun
  | [d1, d2, d3, d4, d5, d6, d7, d8] => { results := [.lit (.bool true)], args := [d1, d2, d3, d4, d5, d6, d7, d8] }
  | _ => none }
def fnSourcesRoundTripRow : OpenClaim := { program := "qxb6603560a", sum := "d4f3a34704786a173b0defbde1d35bcf11e84c55afa1db4d67164e71994d63f5", func := "example.com/pillion/pillion/zzlaws_manifest_b1.FnSourcesRoundTrip", spec := "fnSourcesRoundTrip", apart := false }
def FnSourcesRoundTripSaid : Prop := fnSourcesRoundTripRow.holds Try.pinned (OpenSpec.ofChange fnSourcesRoundTripSpec)

/-- ITS FALSE NEIGHBOUR: 'it returns false'. Refute it at one input. -/
def fnSourcesRoundTripWrong : ChangeSpec := { name := "fnSourcesRoundTrip", fn := fun _ => fun
  | [d1, d2, d3, d4, d5, d6, d7, d8] => { results := [.lit (.bool false)], args := [d1, d2, d3, d4, d5, d6, d7, d8] }
  | _ => none }
def FnSourcesRoundTripWrongFalsely : Prop := fnSourcesRoundTripRow.holds Try.pinned (OpenSpec.ofChange fnSourcesRoundTripWrong)

end Rows
end Go.Proofs.Qxb6603560a
