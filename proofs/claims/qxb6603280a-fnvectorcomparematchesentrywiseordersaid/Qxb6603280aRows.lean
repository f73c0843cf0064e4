/-
  No cell of these rows narrows 'for every input' (looked for: loops, veiled, ifaces, maps, wideKeys, modest, calm, conditions, laid).
  DERIVED. THE GIVEN ROWS OF THIS SEAT. 3 by the template 'for every input the law returns true; each argument reads behind the call as it read before'; 0 by the template 'total and deterministic' (their statements: Qxb6603280aTotals.lean).
  GIVEN WITH THE SEED: the statements are not yours to turn. If you find one false, say at which input.
  Laid BY PROGRAM, IN A SANDBOX (cutbox-rows.mjs): the forced cells as the released guide's own fill.sh prints them over the translation 7bb7ecaf28fddf84… (all of the seat's roots in one cut). By AI agents, Wed Nov 11 2026. No macro, syntax, notation, axiom, sorry.
-/
import Derived.Test.Qxb6603280aChecked
import GoSem.Claim
import GoSem.ClaimJoined
import GoSem.ClaimMapViews
import Derived.JoinedTies
import Derived.KernelRfl
namespace Go.Proofs.Qxb6603280a
/- THE CELL 'sum', in the pinned program and in every row, IS THE sha256 OF THE DUMP (.gsa) THAT Qxb6603280aProg.lean LOADS. Nothing in Lean hashes anything: it is a label: what it is worth is what the hold of that sum in a sandbox is worth. -/
noncomputable def Try.pinned : Pinned := { name := "qxb6603280a", sum := "7bb7ecaf28fddf848c076cef670dad3019e1c9ce5e781bcdba77ddec562f86fa", checked := Try.checked }
namespace Rows
def none {H : Type} : Left H := { results := [], args := [] }

/-- 'zzlaws_root_b1.FnVectorCompareMatchesEntrywiseOrder': WHATEVER THE INPUT: true; the input reads as it did. -/
def fnVectorCompareMatchesEntrywiseOrderSpec : ChangeSpec := { name := "fnVectorCompareMatchesEntrywiseOrder", fn := fun _ => fun
  | [d1, d2, d3, d4] => { results := [.lit (.bool true)], args := [d1, d2, d3, d4] }
  | _ => none }
def fnVectorCompareMatchesEntrywiseOrderRow : OpenClaim := { program := "qxb6603280a", sum := "7bb7ecaf28fddf848c076cef670dad3019e1c9ce5e781bcdba77ddec562f86fa", func := "example.com/antecede/antecede/zzlaws_root_b1.FnVectorCompareMatchesEntrywiseOrder", spec := "fnVectorCompareMatchesEntrywiseOrder", inPlace := ["internal/bytealg.abigen_runtime_cmpstring"], apart := false }
def FnVectorCompareMatchesEntrywiseOrderSaid : Prop := fnVectorCompareMatchesEntrywiseOrderRow.holds Try.pinned (OpenSpec.ofChange fnVectorCompareMatchesEntrywiseOrderSpec)

/-- ITS FALSE NEIGHBOUR: 'it returns false'. Refute it at one input. -/
def fnVectorCompareMatchesEntrywiseOrderWrong : ChangeSpec := { name := "fnVectorCompareMatchesEntrywiseOrder", fn := fun _ => fun
  | [d1, d2, d3, d4] => { results := [.lit (.bool false)], args := [d1, d2, d3, d4] }
  | _ => none }
def FnVectorCompareMatchesEntrywiseOrderWrongFalsely : Prop := fnVectorCompareMatchesEntrywiseOrderRow.holds Try.pinned (OpenSpec.ofChange fnVectorCompareMatchesEntrywiseOrderWrong)

/-- 'zzlaws_root_b1.FnVectorCompareIsAntisymmetricAndReflexive': WHATEVER THE INPUT: true; the input reads as it did. -/
def fnVectorCompareIsAntisymmetricAndReflexiveSpec : ChangeSpec := { name := "fnVectorCompareIsAntisymmetricAndReflexive", fn := fun _ => fun
  | [d1, d2, d3, d4] => { results := [.lit (.bool true)], args := [d1, d2, d3, d4] }
  | _ => none }
def fnVectorCompareIsAntisymmetricAndReflexiveRow : OpenClaim := { program := "qxb6603280a", sum := "7bb7ecaf28fddf848c076cef670dad3019e1c9ce5e781bcdba77ddec562f86fa", func := "example.com/antecede/antecede/zzlaws_root_b1.FnVectorCompareIsAntisymmetricAndReflexive", spec := "fnVectorCompareIsAntisymmetricAndReflexive", inPlace := ["internal/bytealg.abigen_runtime_cmpstring"], apart := false }
def FnVectorCompareIsAntisymmetricAndReflexiveSaid : Prop := fnVectorCompareIsAntisymmetricAndReflexiveRow.holds Try.pinned (OpenSpec.ofChange fnVectorCompareIsAntisymmetricAndReflexiveSpec)

/-- ITS FALSE NEIGHBOUR: 'it returns false'. Refute it at one input. -/
def fnVectorCompareIsAntisymmetricAndReflexiveWrong : ChangeSpec := { name := "fnVectorCompareIsAntisymmetricAndReflexive", fn := fun _ => fun
  | [d1, d2, d3, d4] => { results := [.lit (.bool false)], args := [d1, d2, d3, d4] }
  | _ => none }
def FnVectorCompareIsAntisymmetricAndReflexiveWrongFalsely : Prop := fnVectorCompareIsAntisymmetricAndReflexiveRow.holds Try.pinned (OpenSpec.ofChange fnVectorCompareIsAntisymmetricAndReflexiveWrong)

/-- 'zzlaws_root_b1.FnVectorCompareBeforeChainsAndEqualsAgree': WHATEVER THE INPUT: true; the input reads as it did. -/
def fnVectorCompareBeforeChainsAndEqualsAgreeSpec : ChangeSpec := { name := "fnVectorCompareBeforeChainsAndEqualsAgree", fn := fun _ => fun
  | [d1, d2, d3, d4, d5, d6] => { results := [.lit (.bool true)], args := [d1, d2, d3, d4, d5, d6] }
  | _ => none }
def fnVectorCompareBeforeChainsAndEqualsAgreeRow : OpenClaim := { program := "qxb6603280a", sum := "7bb7ecaf28fddf848c076cef670dad3019e1c9ce5e781bcdba77ddec562f86fa", func := "example.com/antecede/antecede/zzlaws_root_b1.FnVectorCompareBeforeChainsAndEqualsAgree", spec := "fnVectorCompareBeforeChainsAndEqualsAgree", inPlace := ["internal/bytealg.abigen_runtime_cmpstring"], apart := false }
def FnVectorCompareBeforeChainsAndEqualsAgreeSaid : Prop := fnVectorCompareBeforeChainsAndEqualsAgreeRow.holds Try.pinned (OpenSpec.ofChange fnVectorCompareBeforeChainsAndEqualsAgreeSpec)

/-- ITS FALSE NEIGHBOUR: 'it returns false'. Refute it at one input. -/
def fnVectorCompareBeforeChainsAndEqualsAgreeWrong : ChangeSpec := { name := "fnVectorCompareBeforeChainsAndEqualsAgree", fn := fun _ => fun
  | [d1, d2, d3, d4, d5, d6] => { results := [.lit (.bool false)], args := [d1, d2, d3, d4, d5, d6] }
  | _ => none }
def FnVectorCompareBeforeChainsAndEqualsAgreeWrongFalsely : Prop := fnVectorCompareBeforeChainsAndEqualsAgreeRow.holds Try.pinned (OpenSpec.ofChange fnVectorCompareBeforeChainsAndEqualsAgreeWrong)

end Rows
end Go.Proofs.Qxb6603280a
