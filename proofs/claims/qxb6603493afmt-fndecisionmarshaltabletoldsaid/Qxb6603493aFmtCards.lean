/-
  DERIVED. GIVEN WITH THE SEED: THE CARDS: each row of Qxb6603493aFmtRows.lean that lists a variable, with what it lists TIED to the program's text (the seventh form; the later family's looks); each row that meets fmt, with fmt's text TOLD by the authors' own Lean function (tested against real Go, not proved from fmt's source: count such statements apart). THE CARD IS WHAT COUNTS. Prove the row's statement (the work); the ties are given (Qxb6603493aFmtTie.lean); close each card by the builder's one call (the guide's Derived/Test/ToyasCard.lean, 'card_holds'). Laid BY PROGRAM, IN A SANDBOX (cutbox-door.mjs). By AI agents, Wed Nov 11 2026. No macro, syntax, notation, axiom, sorry.
-/
import Derived.Test.Qxb6603493aFmtRows
import GoSem.ClaimSeven
namespace Go.Proofs.Qxb6603493aFmt
namespace Rows

/-- THE TOLD AND TIED CARD OF 'zzlaws_root_b1.FnDecisionMarshalTable'. -/
def fnDecisionMarshalTableCard : Claim7 := { stood := { row := fnDecisionMarshalTableRow, standIns := [], harness := (true, "0d1fa546e32001d42dc95f8c87feb14f67056684e9be130fdbf350b0ae49c539"), looks := false }, told := true, laidByText := true, laidKinds := [.widerDeep], laidTests := true, laidLooks := .later, goes := false }
def FnDecisionMarshalTableToldSaid : Prop := Claim7.holds Tryf.pinned (.plain (OpenSpec.ofChange fnDecisionMarshalTableSpec)) fnDecisionMarshalTableCard
/-- ITS FALSE NEIGHBOUR. Refute it at one input. -/
def FnDecisionMarshalTableToldWrongFalsely : Prop := Claim7.holds Tryf.pinned (.plain (OpenSpec.ofChange fnDecisionMarshalTableWrong)) fnDecisionMarshalTableCard

/-- THE TOLD AND TIED CARD OF 'zzlaws_root_b1.FnDecisionTextRoundTrip'. -/
def fnDecisionTextRoundTripCard : Claim7 := { stood := { row := fnDecisionTextRoundTripRow, standIns := [], harness := (true, "0d1fa546e32001d42dc95f8c87feb14f67056684e9be130fdbf350b0ae49c539"), looks := false }, told := true, laidByText := true, laidKinds := [.widerDeep], laidTests := true, laidLooks := .later, goes := false }
def FnDecisionTextRoundTripToldSaid : Prop := Claim7.holds Tryf.pinned (.plain (OpenSpec.ofChange fnDecisionTextRoundTripSpec)) fnDecisionTextRoundTripCard
/-- ITS FALSE NEIGHBOUR. Refute it at one input. -/
def FnDecisionTextRoundTripToldWrongFalsely : Prop := Claim7.holds Tryf.pinned (.plain (OpenSpec.ofChange fnDecisionTextRoundTripWrong)) fnDecisionTextRoundTripCard
end Rows
end Go.Proofs.Qxb6603493aFmt
