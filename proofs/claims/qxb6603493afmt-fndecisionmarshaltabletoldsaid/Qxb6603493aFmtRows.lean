/-
  NARROWER THAN 'FOR EVERY INPUT', by the rows' own cells (each row's printed sentence says how): FnDecisionMarshalTable: laid · FnDecisionTextRoundTrip: laid.
  DERIVED. THE GIVEN ROWS OF THIS SEAT. 2 by the template 'for every input the law returns true; each argument reads behind the call as it read before'; 0 by the template 'total and deterministic' (their statements: Qxb6603493aFmtTotals.lean).
  GIVEN WITH THE SEED: the statements are not yours to turn. If you find one false, say at which input.
  Laid BY PROGRAM, IN A SANDBOX (cutbox-rows.mjs): the forced cells as the released guide's own fill.sh prints them over the translation 7839594cc6d44b0c… (all of the seat's roots in one cut). By AI agents, Wed Nov 11 2026. No macro, syntax, notation, axiom, sorry.
-/
import Derived.Test.Qxb6603493aFmtChecked
import GoSem.Claim
import GoSem.ClaimJoined
import GoSem.ClaimMapViews
import Derived.JoinedTies
import Derived.KernelRfl
namespace Go.Proofs.Qxb6603493aFmt
/- THE CELL 'sum', in the pinned program and in every row, IS THE sha256 OF THE DUMP (.gsa) THAT Qxb6603493aFmtProg.lean LOADS. Nothing in Lean hashes anything: it is a label: what it is worth is what the hold of that sum in a sandbox is worth. -/
noncomputable def Tryf.pinned : Pinned := { name := "qxb6603493afmt", sum := "7839594cc6d44b0ca39ab60919e9823fbcf86b74da0d0b84575f77362a2de2c5", checked := Tryf.checked }
namespace Rows
def none {H : Type} : Left H := { results := [], args := [] }

/- WHAT THE LISTED PACKAGE-LEVEL VARIABLES READ AS WHEN THE CALL BEGINS. Each datum BY PROGRAM (the guide's laid-datum.mjs) off the statement by which the dump's own 'gosem.cut.vars' lays the variable. In a bare row this is a premise. The card (Qxb6603493aFmtCards.lean) ties it to the program's text. -/
def laid_example_com_zhaomu_zhaomu_largeRedemptionDecisions {H : Type} : DataW H := .agg [.lit (.string [76, 97, 114, 103, 101, 82, 101, 100, 101, 109, 112, 116, 105, 111, 110, 68, 101, 99, 105, 115, 105, 111, 110]), .lit (.string [97, 32, 108, 97, 114, 103, 101, 45, 114, 101, 100, 101, 109, 112, 116, 105, 111, 110, 32, 100, 101, 99, 105, 115, 105, 111, 110]), .slice [.lit (.string []), .lit (.string [97, 99, 99, 101, 112, 116, 45, 97, 108, 108]), .lit (.string [100, 101, 102, 101, 114])] []]

/-- 'zzlaws_root_b1.FnDecisionMarshalTable': WHATEVER THE INPUT: true; the input reads as it did. -/
def fnDecisionMarshalTableSpec : ChangeSpec := { name := "fnDecisionMarshalTable", vars := ["example.com/zhaomu/zhaomu.largeRedemptionDecisions"], fn := fun _ => fun
  | [d, g1] => { results := [.lit (.bool true)], args := [d], vars := [g1] }
  | _ => none }
def fnDecisionMarshalTableRow : OpenClaim := { program := "qxb6603493afmt", sum := "7839594cc6d44b0ca39ab60919e9823fbcf86b74da0d0b84575f77362a2de2c5", func := "example.com/zhaomu/zhaomu/zzlaws_root_b1.FnDecisionMarshalTable", spec := "fnDecisionMarshalTable", stops := ["fmt.errorf"], inPlace := ["fmt.errorf"], named := ["example.com/zhaomu/zhaomu.largeRedemptionDecisions"], apart := false, laid := [("example.com/zhaomu/zhaomu.largeRedemptionDecisions", laid_example_com_zhaomu_zhaomu_largeRedemptionDecisions)] }
/-- NO THEOREM (fmt's text is open here; it may be false): for the released tool's asking of the row's closed facts alone. THE STATEMENT IS 'FnDecisionMarshalTableToldSaid' (Qxb6603493aFmtCards.lean). -/
def FnDecisionMarshalTableFormAsk : Prop := fnDecisionMarshalTableRow.holds Tryf.pinned (OpenSpec.ofChange fnDecisionMarshalTableSpec)

/-- ITS FALSE NEIGHBOUR: 'it returns false'. Refute it at one input. -/
def fnDecisionMarshalTableWrong : ChangeSpec := { name := "fnDecisionMarshalTable", vars := ["example.com/zhaomu/zhaomu.largeRedemptionDecisions"], fn := fun _ => fun
  | [d, g1] => { results := [.lit (.bool false)], args := [d], vars := [g1] }
  | _ => none }
def FnDecisionMarshalTableWrongFormAsk : Prop := fnDecisionMarshalTableRow.holds Tryf.pinned (OpenSpec.ofChange fnDecisionMarshalTableWrong)

/-- 'zzlaws_root_b1.FnDecisionTextRoundTrip': WHATEVER THE INPUT: true; the input reads as it did. -/
def fnDecisionTextRoundTripSpec : ChangeSpec := { name := "fnDecisionTextRoundTrip", vars := ["example.com/zhaomu/zhaomu.largeRedemptionDecisions"], fn := fun _ => fun
  | [d, g1] => { results := [.lit (.bool true)], args := [d], vars := [g1] }
  | _ => none }
def fnDecisionTextRoundTripRow : OpenClaim := { program := "qxb6603493afmt", sum := "7839594cc6d44b0ca39ab60919e9823fbcf86b74da0d0b84575f77362a2de2c5", func := "example.com/zhaomu/zhaomu/zzlaws_root_b1.FnDecisionTextRoundTrip", spec := "fnDecisionTextRoundTrip", stops := ["fmt.errorf"], inPlace := ["internal/abi.NoEscape", "internal/bytealg.MakeNoZero", "fmt.errorf"], named := ["example.com/zhaomu/zhaomu.largeRedemptionDecisions"], apart := false, laid := [("example.com/zhaomu/zhaomu.largeRedemptionDecisions", laid_example_com_zhaomu_zhaomu_largeRedemptionDecisions)] }
/-- NO THEOREM (fmt's text is open here; it may be false): for the released tool's asking of the row's closed facts alone. THE STATEMENT IS 'FnDecisionTextRoundTripToldSaid' (Qxb6603493aFmtCards.lean). -/
def FnDecisionTextRoundTripFormAsk : Prop := fnDecisionTextRoundTripRow.holds Tryf.pinned (OpenSpec.ofChange fnDecisionTextRoundTripSpec)

/-- ITS FALSE NEIGHBOUR: 'it returns false'. Refute it at one input. -/
def fnDecisionTextRoundTripWrong : ChangeSpec := { name := "fnDecisionTextRoundTrip", vars := ["example.com/zhaomu/zhaomu.largeRedemptionDecisions"], fn := fun _ => fun
  | [d, g1] => { results := [.lit (.bool false)], args := [d], vars := [g1] }
  | _ => none }
def FnDecisionTextRoundTripWrongFormAsk : Prop := fnDecisionTextRoundTripRow.holds Tryf.pinned (OpenSpec.ofChange fnDecisionTextRoundTripWrong)

end Rows
end Go.Proofs.Qxb6603493aFmt
