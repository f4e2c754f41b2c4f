/-
  DERIVED. GIVEN WITH THE SEED: THE CARDS: each row of Qxb6614685aFmtRows.lean that lists a variable, with what it lists TIED to the program's text (the seventh form; the later family's looks); each row that meets fmt, with fmt's text TOLD by the authors' own Lean function (tested against real Go, not proved from fmt's source: count such statements apart). THE CARD IS WHAT COUNTS. Prove the row's statement (the work); the ties are given (Qxb6614685aFmtTie.lean); close each card by the builder's one call (the guide's Derived/Test/ToyasCard.lean, 'card_holds'). Laid BY PROGRAM, IN A SANDBOX (cutbox-door.mjs). By AI agents, Wed Nov 11 2026. No macro, syntax, notation, axiom, sorry.
-/
import Derived.Test.Qxb6614685aFmtRows
import GoSem.ClaimSeven
namespace Go.Proofs.Qxb6614685aFmt
namespace Rows

/-- THE TOLD AND TIED CARD OF 'zzlaws_internal_saga_b1.FnOutcomeStartedUnlessNamedDefiniteFailure'. -/
def fnOutcomeStartedUnlessNamedDefiniteFailureCard : Claim7 := { stood := { row := fnOutcomeStartedUnlessNamedDefiniteFailureRow, standIns := [], harness := (true, "e9510606c2ba2776384b4ad4728ba36d560f7dd689db5c644d9cf9689a04f40c"), looks := false }, told := true, laidByText := true, laidKinds := [.widerDeep], laidTests := true, laidLooks := .later, goes := false }
def FnOutcomeStartedUnlessNamedDefiniteFailureToldSaid : Prop := Claim7.holds Tryf.pinned (.plain (OpenSpec.ofChange fnOutcomeStartedUnlessNamedDefiniteFailureSpec)) fnOutcomeStartedUnlessNamedDefiniteFailureCard
/-- ITS FALSE NEIGHBOUR. Refute it at one input. -/
def FnOutcomeStartedUnlessNamedDefiniteFailureToldWrongFalsely : Prop := Claim7.holds Tryf.pinned (.plain (OpenSpec.ofChange fnOutcomeStartedUnlessNamedDefiniteFailureWrong)) fnOutcomeStartedUnlessNamedDefiniteFailureCard

/-- THE TOLD AND TIED CARD OF 'zzlaws_internal_saga_b1.FnAbortReasonNamesAreDistinct'. -/
def fnAbortReasonNamesAreDistinctCard : Claim7 := { stood := { row := fnAbortReasonNamesAreDistinctRow, standIns := [], harness := (true, "e9510606c2ba2776384b4ad4728ba36d560f7dd689db5c644d9cf9689a04f40c"), looks := false }, told := true, laidByText := true, laidKinds := [.widerDeep], laidTests := true, laidLooks := .later, goes := false }
def FnAbortReasonNamesAreDistinctToldSaid : Prop := Claim7.holds Tryf.pinned (.plain (OpenSpec.ofChange fnAbortReasonNamesAreDistinctSpec)) fnAbortReasonNamesAreDistinctCard
/-- ITS FALSE NEIGHBOUR. Refute it at one input. -/
def FnAbortReasonNamesAreDistinctToldWrongFalsely : Prop := Claim7.holds Tryf.pinned (.plain (OpenSpec.ofChange fnAbortReasonNamesAreDistinctWrong)) fnAbortReasonNamesAreDistinctCard

/-- THE TOLD AND TIED CARD OF 'zzlaws_internal_saga_b1.FnDefiniteFailureAbortIsNamedAfterTheOutcomeThatDidNothing'. -/
def fnDefiniteFailureAbortIsNamedAfterTheOutcomeThatDidNothingCard : Claim7 := { stood := { row := fnDefiniteFailureAbortIsNamedAfterTheOutcomeThatDidNothingRow, standIns := [], harness := (true, "e9510606c2ba2776384b4ad4728ba36d560f7dd689db5c644d9cf9689a04f40c"), looks := false }, told := true, laidByText := true, laidKinds := [.widerDeep, .widerDeep], laidTests := true, laidLooks := .later, goes := false }
def FnDefiniteFailureAbortIsNamedAfterTheOutcomeThatDidNothingToldSaid : Prop := Claim7.holds Tryf.pinned (.plain (OpenSpec.ofChange fnDefiniteFailureAbortIsNamedAfterTheOutcomeThatDidNothingSpec)) fnDefiniteFailureAbortIsNamedAfterTheOutcomeThatDidNothingCard
/-- ITS FALSE NEIGHBOUR. Refute it at one input. -/
def FnDefiniteFailureAbortIsNamedAfterTheOutcomeThatDidNothingToldWrongFalsely : Prop := Claim7.holds Tryf.pinned (.plain (OpenSpec.ofChange fnDefiniteFailureAbortIsNamedAfterTheOutcomeThatDidNothingWrong)) fnDefiniteFailureAbortIsNamedAfterTheOutcomeThatDidNothingCard
end Rows
end Go.Proofs.Qxb6614685aFmt
