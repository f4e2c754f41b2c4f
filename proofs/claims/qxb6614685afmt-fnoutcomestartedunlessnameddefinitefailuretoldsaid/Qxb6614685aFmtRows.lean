/-
  NARROWER THAN 'FOR EVERY INPUT', by the rows' own cells (each row's printed sentence says how): FnOutcomeStartedUnlessNamedDefiniteFailure: laid · FnAbortReasonNamesAreDistinct: laid · FnDefiniteFailureAbortIsNamedAfterTheOutcomeThatDidNothing: laid.
  DERIVED. THE GIVEN ROWS OF THIS SEAT. 3 by the template 'for every input the law returns true; each argument reads behind the call as it read before'; 0 by the template 'total and deterministic' (their statements: Qxb6614685aFmtTotals.lean).
  GIVEN WITH THE SEED: the statements are not yours to turn. If you find one false, say at which input.
  Laid BY PROGRAM, IN A SANDBOX (cutbox-rows.mjs): the forced cells as the released guide's own fill.sh prints them over the translation ac5e6b77bbf0ec16… (all of the seat's roots in one cut). By AI agents, Wed Nov 11 2026. No macro, syntax, notation, axiom, sorry.
-/
import Derived.Test.Qxb6614685aFmtChecked
import GoSem.Claim
import GoSem.ClaimJoined
import GoSem.ClaimMapViews
import Derived.JoinedTies
import Derived.KernelRfl
namespace Go.Proofs.Qxb6614685aFmt
/- THE CELL 'sum', in the pinned program and in every row, IS THE sha256 OF THE DUMP (.gsa) THAT Qxb6614685aFmtProg.lean LOADS. Nothing in Lean hashes anything: it is a label: what it is worth is what the hold of that sum in a sandbox is worth. -/
noncomputable def Tryf.pinned : Pinned := { name := "qxb6614685afmt", sum := "ac5e6b77bbf0ec161b7806f7fc249197603b1703d09cac37fb239d48a3c5e5b1", checked := Tryf.checked }
namespace Rows
def none {H : Type} : Left H := { results := [], args := [] }

/- WHAT THE LISTED PACKAGE-LEVEL VARIABLES READ AS WHEN THE CALL BEGINS. Each datum BY PROGRAM (the guide's laid-datum.mjs) off the statement by which the dump's own 'gosem.cut.vars' lays the variable. In a bare row this is a premise. The card (Qxb6614685aFmtCards.lean) ties it to the program's text. -/
def laid_example_com_amends_amends_internal_saga_outcomeNames {H : Type} : DataW H := .slice [.lit (.string [117, 110, 107, 110, 111, 119, 110]), .lit (.string [111, 107]), .lit (.string [100, 101, 102, 105, 110, 105, 116, 101, 95, 102, 97, 105, 108, 117, 114, 101])] []
def laid_example_com_amends_amends_internal_saga_abortReasonNames {H : Type} : DataW H := .slice [.lit (.string [100, 101, 102, 105, 110, 105, 116, 101, 95, 102, 97, 105, 108, 117, 114, 101]), .lit (.string [117, 110, 107, 110, 111, 119, 110, 95, 111, 117, 116, 99, 111, 109, 101]), .lit (.string [97, 98, 111, 114, 116, 95, 114, 101, 113, 117, 101, 115, 116, 101, 100]), .lit (.string [100, 101, 97, 100, 108, 105, 110, 101])] []

/-- 'zzlaws_internal_saga_b1.FnOutcomeStartedUnlessNamedDefiniteFailure': WHATEVER THE INPUT: true; the input reads as it did. -/
def fnOutcomeStartedUnlessNamedDefiniteFailureSpec : ChangeSpec := { name := "fnOutcomeStartedUnlessNamedDefiniteFailure", vars := ["example.com/amends/amends/internal/saga.outcomeNames"], fn := fun _ => fun
  | [d, g1] => { results := [.lit (.bool true)], args := [d], vars := [g1] }
  | _ => none }
def fnOutcomeStartedUnlessNamedDefiniteFailureRow : OpenClaim := { program := "qxb6614685afmt", sum := "ac5e6b77bbf0ec161b7806f7fc249197603b1703d09cac37fb239d48a3c5e5b1", func := "example.com/amends/amends/zzlaws_internal_saga_b1.FnOutcomeStartedUnlessNamedDefiniteFailure", spec := "fnOutcomeStartedUnlessNamedDefiniteFailure", stops := ["fmt.Sprintf"], inPlace := ["fmt.Sprintf"], named := ["example.com/amends/amends/internal/saga.outcomeNames"], apart := false, laid := [("example.com/amends/amends/internal/saga.outcomeNames", laid_example_com_amends_amends_internal_saga_outcomeNames)] }
/-- NO THEOREM (fmt's text is open here; it may be false): for the released tool's asking of the row's closed facts alone. THE STATEMENT IS 'FnOutcomeStartedUnlessNamedDefiniteFailureToldSaid' (Qxb6614685aFmtCards.lean). -/
def FnOutcomeStartedUnlessNamedDefiniteFailureFormAsk : Prop := fnOutcomeStartedUnlessNamedDefiniteFailureRow.holds Tryf.pinned (OpenSpec.ofChange fnOutcomeStartedUnlessNamedDefiniteFailureSpec)

/-- ITS FALSE NEIGHBOUR: 'it returns false'. Refute it at one input. -/
def fnOutcomeStartedUnlessNamedDefiniteFailureWrong : ChangeSpec := { name := "fnOutcomeStartedUnlessNamedDefiniteFailure", vars := ["example.com/amends/amends/internal/saga.outcomeNames"], fn := fun _ => fun
  | [d, g1] => { results := [.lit (.bool false)], args := [d], vars := [g1] }
  | _ => none }
def FnOutcomeStartedUnlessNamedDefiniteFailureWrongFormAsk : Prop := fnOutcomeStartedUnlessNamedDefiniteFailureRow.holds Tryf.pinned (OpenSpec.ofChange fnOutcomeStartedUnlessNamedDefiniteFailureWrong)

/-- 'zzlaws_internal_saga_b1.FnAbortReasonNamesAreDistinct': WHATEVER THE INPUT: true; the input reads as it did. -/
def fnAbortReasonNamesAreDistinctSpec : ChangeSpec := { name := "fnAbortReasonNamesAreDistinct", vars := ["example.com/amends/amends/internal/saga.abortReasonNames"], fn := fun _ => fun
  | [d1, d2, g1] => { results := [.lit (.bool true)], args := [d1, d2], vars := [g1] }
  | _ => none }
def fnAbortReasonNamesAreDistinctRow : OpenClaim := { program := "qxb6614685afmt", sum := "ac5e6b77bbf0ec161b7806f7fc249197603b1703d09cac37fb239d48a3c5e5b1", func := "example.com/amends/amends/zzlaws_internal_saga_b1.FnAbortReasonNamesAreDistinct", spec := "fnAbortReasonNamesAreDistinct", stops := ["fmt.Sprintf"], inPlace := ["fmt.Sprintf"], named := ["example.com/amends/amends/internal/saga.abortReasonNames"], apart := false, laid := [("example.com/amends/amends/internal/saga.abortReasonNames", laid_example_com_amends_amends_internal_saga_abortReasonNames)] }
/-- NO THEOREM (fmt's text is open here; it may be false): for the released tool's asking of the row's closed facts alone. THE STATEMENT IS 'FnAbortReasonNamesAreDistinctToldSaid' (Qxb6614685aFmtCards.lean). -/
def FnAbortReasonNamesAreDistinctFormAsk : Prop := fnAbortReasonNamesAreDistinctRow.holds Tryf.pinned (OpenSpec.ofChange fnAbortReasonNamesAreDistinctSpec)

/-- ITS FALSE NEIGHBOUR: 'it returns false'. Refute it at one input. -/
def fnAbortReasonNamesAreDistinctWrong : ChangeSpec := { name := "fnAbortReasonNamesAreDistinct", vars := ["example.com/amends/amends/internal/saga.abortReasonNames"], fn := fun _ => fun
  | [d1, d2, g1] => { results := [.lit (.bool false)], args := [d1, d2], vars := [g1] }
  | _ => none }
def FnAbortReasonNamesAreDistinctWrongFormAsk : Prop := fnAbortReasonNamesAreDistinctRow.holds Tryf.pinned (OpenSpec.ofChange fnAbortReasonNamesAreDistinctWrong)

/-- 'zzlaws_internal_saga_b1.FnDefiniteFailureAbortIsNamedAfterTheOutcomeThatDidNothing': WHATEVER THE INPUT: true; the input reads as it did. -/
def fnDefiniteFailureAbortIsNamedAfterTheOutcomeThatDidNothingSpec : ChangeSpec := { name := "fnDefiniteFailureAbortIsNamedAfterTheOutcomeThatDidNothing", vars := ["example.com/amends/amends/internal/saga.abortReasonNames", "example.com/amends/amends/internal/saga.outcomeNames"], fn := fun _ => fun
  | [d1, d2, g1, g2] => { results := [.lit (.bool true)], args := [d1, d2], vars := [g1, g2] }
  | _ => none }
def fnDefiniteFailureAbortIsNamedAfterTheOutcomeThatDidNothingRow : OpenClaim := { program := "qxb6614685afmt", sum := "ac5e6b77bbf0ec161b7806f7fc249197603b1703d09cac37fb239d48a3c5e5b1", func := "example.com/amends/amends/zzlaws_internal_saga_b1.FnDefiniteFailureAbortIsNamedAfterTheOutcomeThatDidNothing", spec := "fnDefiniteFailureAbortIsNamedAfterTheOutcomeThatDidNothing", stops := ["fmt.Sprintf"], inPlace := ["fmt.Sprintf"], named := ["example.com/amends/amends/internal/saga.abortReasonNames", "example.com/amends/amends/internal/saga.outcomeNames"], apart := false, laid := [("example.com/amends/amends/internal/saga.outcomeNames", laid_example_com_amends_amends_internal_saga_outcomeNames), ("example.com/amends/amends/internal/saga.abortReasonNames", laid_example_com_amends_amends_internal_saga_abortReasonNames)] }
/-- NO THEOREM (fmt's text is open here; it may be false): for the released tool's asking of the row's closed facts alone. THE STATEMENT IS 'FnDefiniteFailureAbortIsNamedAfterTheOutcomeThatDidNothingToldSaid' (Qxb6614685aFmtCards.lean). -/
def FnDefiniteFailureAbortIsNamedAfterTheOutcomeThatDidNothingFormAsk : Prop := fnDefiniteFailureAbortIsNamedAfterTheOutcomeThatDidNothingRow.holds Tryf.pinned (OpenSpec.ofChange fnDefiniteFailureAbortIsNamedAfterTheOutcomeThatDidNothingSpec)

/-- ITS FALSE NEIGHBOUR: 'it returns false'. Refute it at one input. -/
def fnDefiniteFailureAbortIsNamedAfterTheOutcomeThatDidNothingWrong : ChangeSpec := { name := "fnDefiniteFailureAbortIsNamedAfterTheOutcomeThatDidNothing", vars := ["example.com/amends/amends/internal/saga.abortReasonNames", "example.com/amends/amends/internal/saga.outcomeNames"], fn := fun _ => fun
  | [d1, d2, g1, g2] => { results := [.lit (.bool false)], args := [d1, d2], vars := [g1, g2] }
  | _ => none }
def FnDefiniteFailureAbortIsNamedAfterTheOutcomeThatDidNothingWrongFormAsk : Prop := fnDefiniteFailureAbortIsNamedAfterTheOutcomeThatDidNothingRow.holds Tryf.pinned (OpenSpec.ofChange fnDefiniteFailureAbortIsNamedAfterTheOutcomeThatDidNothingWrong)

end Rows
end Go.Proofs.Qxb6614685aFmt
