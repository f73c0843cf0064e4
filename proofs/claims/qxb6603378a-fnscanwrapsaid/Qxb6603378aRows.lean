/-
  No cell of these rows narrows 'for every input' (looked for: loops, veiled, ifaces, maps, wideKeys, modest, calm, conditions, laid).
  DERIVED. THE GIVEN ROWS OF THIS SEAT. 8 by the template 'for every input the law returns true; each argument reads behind the call as it read before'; 0 by the template 'total and deterministic' (their statements: Qxb6603378aTotals.lean).
  GIVEN WITH THE SEED: the statements are not yours to turn. If you find one false, say at which input.
  Laid BY PROGRAM, IN A SANDBOX (cutbox-rows.mjs): the forced cells as the released guide's own fill.sh prints them over the translation 75a4350036ef133c… (all of the seat's roots in one cut). By AI agents, Wed Nov 11 2026. No macro, syntax, notation, axiom, sorry.
-/
import Derived.Test.Qxb6603378aChecked
import GoSem.Claim
import GoSem.ClaimJoined
import GoSem.ClaimMapViews
import Derived.JoinedTies
import Derived.KernelRfl
namespace Go.Proofs.Qxb6603378a
/- THE CELL 'sum', in the pinned program and in every row, IS THE sha256 OF THE DUMP (.gsa) THAT Qxb6603378aProg.lean LOADS. Nothing in Lean hashes anything: it is a label: what it is worth is what the hold of that sum in a sandbox is worth. -/
noncomputable def Try.pinned : Pinned := { name := "qxb6603378a", sum := "75a4350036ef133c0da0ab795d444a1f9fbe91f3b4576d79160b7011f01fd2cf", checked := Try.checked }
namespace Rows
def none {H : Type} : Left H := { results := [], args := [] }

/-- 'zzlaws_internal_intake_b1.FnIsReviewerOrderAndNameFree': WHATEVER THE INPUT: true; the input reads as it did. -/
def fnIsReviewerOrderAndNameFreeSpec : ChangeSpec := { name := "fnIsReviewerOrderAndNameFree", fn := fun _ => fun
  | [d1, d2, d3, d4] => { results := [.lit (.bool true)], args := [d1, d2, d3, d4] }
  | _ => none }
def fnIsReviewerOrderAndNameFreeRow : OpenClaim := { program := "qxb6603378a", sum := "75a4350036ef133c0da0ab795d444a1f9fbe91f3b4576d79160b7011f01fd2cf", func := "example.com/tandem-intake/tandem-intake/zzlaws_internal_intake_b1.FnIsReviewerOrderAndNameFree", spec := "fnIsReviewerOrderAndNameFree", apart := false }
def FnIsReviewerOrderAndNameFreeSaid : Prop := fnIsReviewerOrderAndNameFreeRow.holds Try.pinned (OpenSpec.ofChange fnIsReviewerOrderAndNameFreeSpec)

/-- ITS FALSE NEIGHBOUR: 'it returns false'. Refute it at one input. -/
def fnIsReviewerOrderAndNameFreeWrong : ChangeSpec := { name := "fnIsReviewerOrderAndNameFree", fn := fun _ => fun
  | [d1, d2, d3, d4] => { results := [.lit (.bool false)], args := [d1, d2, d3, d4] }
  | _ => none }
def FnIsReviewerOrderAndNameFreeWrongFalsely : Prop := fnIsReviewerOrderAndNameFreeRow.holds Try.pinned (OpenSpec.ofChange fnIsReviewerOrderAndNameFreeWrong)

/-- 'zzlaws_internal_intake_b1.FnIsReviewerAppend': WHATEVER THE INPUT: true; the input reads as it did. -/
def fnIsReviewerAppendSpec : ChangeSpec := { name := "fnIsReviewerAppend", fn := fun _ => fun
  | [d1, d2, d3, d4] => { results := [.lit (.bool true)], args := [d1, d2, d3, d4] }
  | _ => none }
def fnIsReviewerAppendRow : OpenClaim := { program := "qxb6603378a", sum := "75a4350036ef133c0da0ab795d444a1f9fbe91f3b4576d79160b7011f01fd2cf", func := "example.com/tandem-intake/tandem-intake/zzlaws_internal_intake_b1.FnIsReviewerAppend", spec := "fnIsReviewerAppend", apart := false }
def FnIsReviewerAppendSaid : Prop := fnIsReviewerAppendRow.holds Try.pinned (OpenSpec.ofChange fnIsReviewerAppendSpec)

/-- ITS FALSE NEIGHBOUR: 'it returns false'. Refute it at one input. -/
def fnIsReviewerAppendWrong : ChangeSpec := { name := "fnIsReviewerAppend", fn := fun _ => fun
  | [d1, d2, d3, d4] => { results := [.lit (.bool false)], args := [d1, d2, d3, d4] }
  | _ => none }
def FnIsReviewerAppendWrongFalsely : Prop := fnIsReviewerAppendRow.holds Try.pinned (OpenSpec.ofChange fnIsReviewerAppendWrong)

/-- 'zzlaws_internal_intake_b1.FnScanExact': WHATEVER THE INPUT: true; the input reads as it did. -/
def fnScanExactSpec : ChangeSpec := { name := "fnScanExact", fn := fun _ => fun
  | [d1, d2] => { results := [.lit (.bool true)], args := [d1, d2] }
  | _ => none }
def fnScanExactRow : OpenClaim := { program := "qxb6603378a", sum := "75a4350036ef133c0da0ab795d444a1f9fbe91f3b4576d79160b7011f01fd2cf", func := "example.com/tandem-intake/tandem-intake/zzlaws_internal_intake_b1.FnScanExact", spec := "fnScanExact", recurses := true, apart := false }
def FnScanExactSaid : Prop := fnScanExactRow.holds Try.pinned (OpenSpec.ofChange fnScanExactSpec)

/-- ITS FALSE NEIGHBOUR: 'it returns false'. Refute it at one input. -/
def fnScanExactWrong : ChangeSpec := { name := "fnScanExact", fn := fun _ => fun
  | [d1, d2] => { results := [.lit (.bool false)], args := [d1, d2] }
  | _ => none }
def FnScanExactWrongFalsely : Prop := fnScanExactRow.holds Try.pinned (OpenSpec.ofChange fnScanExactWrong)

/-- 'zzlaws_internal_intake_b1.FnScanSelfDelimited': WHATEVER THE INPUT: true; the input reads as it did. -/
def fnScanSelfDelimitedSpec : ChangeSpec := { name := "fnScanSelfDelimited", fn := fun _ => fun
  | [d1, d2] => { results := [.lit (.bool true)], args := [d1, d2] }
  | _ => none }
def fnScanSelfDelimitedRow : OpenClaim := { program := "qxb6603378a", sum := "75a4350036ef133c0da0ab795d444a1f9fbe91f3b4576d79160b7011f01fd2cf", func := "example.com/tandem-intake/tandem-intake/zzlaws_internal_intake_b1.FnScanSelfDelimited", spec := "fnScanSelfDelimited", recurses := true, apart := false }
def FnScanSelfDelimitedSaid : Prop := fnScanSelfDelimitedRow.holds Try.pinned (OpenSpec.ofChange fnScanSelfDelimitedSpec)

/-- ITS FALSE NEIGHBOUR: 'it returns false'. Refute it at one input. -/
def fnScanSelfDelimitedWrong : ChangeSpec := { name := "fnScanSelfDelimited", fn := fun _ => fun
  | [d1, d2] => { results := [.lit (.bool false)], args := [d1, d2] }
  | _ => none }
def FnScanSelfDelimitedWrongFalsely : Prop := fnScanSelfDelimitedRow.holds Try.pinned (OpenSpec.ofChange fnScanSelfDelimitedWrong)

/-- 'zzlaws_internal_intake_b1.FnScanWrap': WHATEVER THE INPUT: true; the input reads as it did. -/
def fnScanWrapSpec : ChangeSpec := { name := "fnScanWrap", fn := fun _ => fun
  | [d1, d2] => { results := [.lit (.bool true)], args := [d1, d2] }
  | _ => none }
def fnScanWrapRow : OpenClaim := { program := "qxb6603378a", sum := "75a4350036ef133c0da0ab795d444a1f9fbe91f3b4576d79160b7011f01fd2cf", func := "example.com/tandem-intake/tandem-intake/zzlaws_internal_intake_b1.FnScanWrap", spec := "fnScanWrap", recurses := true, apart := false }
def FnScanWrapSaid : Prop := fnScanWrapRow.holds Try.pinned (OpenSpec.ofChange fnScanWrapSpec)

/-- ITS FALSE NEIGHBOUR: 'it returns false'. Refute it at one input. -/
def fnScanWrapWrong : ChangeSpec := { name := "fnScanWrap", fn := fun _ => fun
  | [d1, d2] => { results := [.lit (.bool false)], args := [d1, d2] }
  | _ => none }
def FnScanWrapWrongFalsely : Prop := fnScanWrapRow.holds Try.pinned (OpenSpec.ofChange fnScanWrapWrong)

/-- 'zzlaws_internal_intake_b1.FnStringEndExact': WHATEVER THE INPUT: true; the input reads as it did. -/
def fnStringEndExactSpec : ChangeSpec := { name := "fnStringEndExact", fn := fun _ => fun
  | [d1, d2] => { results := [.lit (.bool true)], args := [d1, d2] }
  | _ => none }
def fnStringEndExactRow : OpenClaim := { program := "qxb6603378a", sum := "75a4350036ef133c0da0ab795d444a1f9fbe91f3b4576d79160b7011f01fd2cf", func := "example.com/tandem-intake/tandem-intake/zzlaws_internal_intake_b1.FnStringEndExact", spec := "fnStringEndExact", apart := false }
def FnStringEndExactSaid : Prop := fnStringEndExactRow.holds Try.pinned (OpenSpec.ofChange fnStringEndExactSpec)

/-- ITS FALSE NEIGHBOUR: 'it returns false'. Refute it at one input. -/
def fnStringEndExactWrong : ChangeSpec := { name := "fnStringEndExact", fn := fun _ => fun
  | [d1, d2] => { results := [.lit (.bool false)], args := [d1, d2] }
  | _ => none }
def FnStringEndExactWrongFalsely : Prop := fnStringEndExactRow.holds Try.pinned (OpenSpec.ofChange fnStringEndExactWrong)

/-- 'zzlaws_internal_intake_b1.FnStringEndShift': WHATEVER THE INPUT: true; the input reads as it did. -/
def fnStringEndShiftSpec : ChangeSpec := { name := "fnStringEndShift", fn := fun _ => fun
  | [d1, d2] => { results := [.lit (.bool true)], args := [d1, d2] }
  | _ => none }
def fnStringEndShiftRow : OpenClaim := { program := "qxb6603378a", sum := "75a4350036ef133c0da0ab795d444a1f9fbe91f3b4576d79160b7011f01fd2cf", func := "example.com/tandem-intake/tandem-intake/zzlaws_internal_intake_b1.FnStringEndShift", spec := "fnStringEndShift", apart := false }
def FnStringEndShiftSaid : Prop := fnStringEndShiftRow.holds Try.pinned (OpenSpec.ofChange fnStringEndShiftSpec)

/-- ITS FALSE NEIGHBOUR: 'it returns false'. Refute it at one input. -/
def fnStringEndShiftWrong : ChangeSpec := { name := "fnStringEndShift", fn := fun _ => fun
  | [d1, d2] => { results := [.lit (.bool false)], args := [d1, d2] }
  | _ => none }
def FnStringEndShiftWrongFalsely : Prop := fnStringEndShiftRow.holds Try.pinned (OpenSpec.ofChange fnStringEndShiftWrong)

/-- 'zzlaws_internal_intake_b1.FnStringEndQuoted': WHATEVER THE INPUT: true; the input reads as it did. -/
def fnStringEndQuotedSpec : ChangeSpec := { name := "fnStringEndQuoted", fn := fun _ => fun
  | [d1, d2, d3] => { results := [.lit (.bool true)], args := [d1, d2, d3] }
  | _ => none }
def fnStringEndQuotedRow : OpenClaim := { program := "qxb6603378a", sum := "75a4350036ef133c0da0ab795d444a1f9fbe91f3b4576d79160b7011f01fd2cf", func := "example.com/tandem-intake/tandem-intake/zzlaws_internal_intake_b1.FnStringEndQuoted", spec := "fnStringEndQuoted", apart := false }
def FnStringEndQuotedSaid : Prop := fnStringEndQuotedRow.holds Try.pinned (OpenSpec.ofChange fnStringEndQuotedSpec)

/-- ITS FALSE NEIGHBOUR: 'it returns false'. Refute it at one input. -/
def fnStringEndQuotedWrong : ChangeSpec := { name := "fnStringEndQuoted", fn := fun _ => fun
  | [d1, d2, d3] => { results := [.lit (.bool false)], args := [d1, d2, d3] }
  | _ => none }
def FnStringEndQuotedWrongFalsely : Prop := fnStringEndQuotedRow.holds Try.pinned (OpenSpec.ofChange fnStringEndQuotedWrong)

end Rows
end Go.Proofs.Qxb6603378a
