/-
  DERIVED. GIVEN WITH THE SEED: THE PROGRAM's TIES (one call each: nine closed facts by the kernel) AND EACH ROW's TIE, after the 31st guide's Derived/Test/Toyas{Tie, Card}.lean. No idea stands in it: it is a product of the set-up. Laid BY PROGRAM, IN A SANDBOX (cutbox-door.mjs). By AI agents, Wed Nov 11 2026. No macro, syntax, notation, axiom, sorry.
-/
import Derived.Test.Qxb6603493aFmtRows
import Derived.LaidByTextLater
import Derived.SevenTiedAt
import Derived.LaidSub
import Derived.LaidOnce
namespace Go.Proofs.Qxb6603493aFmt
open Go
set_option maxRecDepth 100000
theorem seatTie1 : Tryf.prog.laidByTextLater [("example.com/zhaomu/zhaomu.largeRedemptionDecisions", Rows.laid_example_com_zhaomu_zhaomu_largeRedemptionDecisions)] [.widerDeep] true :=
  Program.laidByTextLater_by_one 15 8 4 (by kernel_rfl) (by kernel_rfl) (by kernel_rfl) (by kernel_rfl) (by kernel_rfl) (by kernel_rfl) (fun _ _ => by kernel_rfl)
theorem noOwnUnsafe : Tryf.pinned.checked.prog.headLifts.contains "ownunsafe" = false := by kernel_rfl
theorem tie : Tryf.prog.laidByTextLater [("example.com/zhaomu/zhaomu.largeRedemptionDecisions", Rows.laid_example_com_zhaomu_zhaomu_largeRedemptionDecisions)] [.widerDeep] true :=
  Program.laidByTextLater.sub seatTie1 ["example.com/zhaomu/zhaomu.largeRedemptionDecisions"] (by kernel_rfl) (by kernel_rfl)
theorem fnDecisionMarshalTable_row_tie : Rows.fnDecisionMarshalTableRow.laidByTextAt .later Tryf.pinned [.widerDeep] true :=
  OpenClaim.laidByTextAt_later rfl rfl tie noOwnUnsafe
theorem fnDecisionTextRoundTrip_row_tie : Rows.fnDecisionTextRoundTripRow.laidByTextAt .later Tryf.pinned [.widerDeep] true :=
  OpenClaim.laidByTextAt_later rfl rfl tie noOwnUnsafe
end Go.Proofs.Qxb6603493aFmt
