/-
  DERIVED. GIVEN WITH THE SEED: THE PROGRAM's TIES (one call each: nine closed facts by the kernel) AND EACH ROW's TIE, after the 31st guide's Derived/Test/Toyas{Tie, Card}.lean. No idea stands in it: it is a product of the set-up. Laid BY PROGRAM, IN A SANDBOX (cutbox-door.mjs). By AI agents, Wed Nov 11 2026. No macro, syntax, notation, axiom, sorry.
-/
import Derived.Test.Qxb6614685aFmtRows
import Derived.LaidByTextLater
import Derived.SevenTiedAt
import Derived.LaidSub
import Derived.LaidOnce
namespace Go.Proofs.Qxb6614685aFmt
open Go
set_option maxRecDepth 100000
theorem seatTie1 : Tryf.prog.laidByTextLater [("example.com/amends/amends/internal/saga.outcomeNames", Rows.laid_example_com_amends_amends_internal_saga_outcomeNames), ("example.com/amends/amends/internal/saga.abortReasonNames", Rows.laid_example_com_amends_amends_internal_saga_abortReasonNames)] [.widerDeep, .widerDeep] true :=
  Program.laidByTextLater_by_one 22 8 5 (by kernel_rfl) (by kernel_rfl) (by kernel_rfl) (by kernel_rfl) (by kernel_rfl) (by kernel_rfl) (fun _ _ => by kernel_rfl)
theorem noOwnUnsafe : Tryf.pinned.checked.prog.headLifts.contains "ownunsafe" = false := by kernel_rfl
theorem tie : Tryf.prog.laidByTextLater [("example.com/amends/amends/internal/saga.outcomeNames", Rows.laid_example_com_amends_amends_internal_saga_outcomeNames)] [.widerDeep] true :=
  Program.laidByTextLater.sub seatTie1 ["example.com/amends/amends/internal/saga.outcomeNames"] (by kernel_rfl) (by kernel_rfl)
theorem fnOutcomeStartedUnlessNamedDefiniteFailure_row_tie : Rows.fnOutcomeStartedUnlessNamedDefiniteFailureRow.laidByTextAt .later Tryf.pinned [.widerDeep] true :=
  OpenClaim.laidByTextAt_later rfl rfl tie noOwnUnsafe
theorem tie2 : Tryf.prog.laidByTextLater [("example.com/amends/amends/internal/saga.abortReasonNames", Rows.laid_example_com_amends_amends_internal_saga_abortReasonNames)] [.widerDeep] true :=
  Program.laidByTextLater.sub seatTie1 ["example.com/amends/amends/internal/saga.abortReasonNames"] (by kernel_rfl) (by kernel_rfl)
theorem fnAbortReasonNamesAreDistinct_row_tie : Rows.fnAbortReasonNamesAreDistinctRow.laidByTextAt .later Tryf.pinned [.widerDeep] true :=
  OpenClaim.laidByTextAt_later rfl rfl tie2 noOwnUnsafe
theorem tie3 : Tryf.prog.laidByTextLater [("example.com/amends/amends/internal/saga.outcomeNames", Rows.laid_example_com_amends_amends_internal_saga_outcomeNames), ("example.com/amends/amends/internal/saga.abortReasonNames", Rows.laid_example_com_amends_amends_internal_saga_abortReasonNames)] [.widerDeep, .widerDeep] true :=
  Program.laidByTextLater.sub seatTie1 ["example.com/amends/amends/internal/saga.outcomeNames", "example.com/amends/amends/internal/saga.abortReasonNames"] (by kernel_rfl) (by kernel_rfl)
theorem fnDefiniteFailureAbortIsNamedAfterTheOutcomeThatDidNothing_row_tie : Rows.fnDefiniteFailureAbortIsNamedAfterTheOutcomeThatDidNothingRow.laidByTextAt .later Tryf.pinned [.widerDeep, .widerDeep] true :=
  OpenClaim.laidByTextAt_later rfl rfl tie3 noOwnUnsafe
end Go.Proofs.Qxb6614685aFmt
