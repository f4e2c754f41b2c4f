/-
  No cell of these rows narrows 'for every input' (looked for: loops, veiled, ifaces, maps, wideKeys, modest, calm, conditions, laid).
  DERIVED. THE GIVEN ROWS OF THIS SEAT. 2 by the template 'for every input the law returns true; each argument reads behind the call as it read before'; 0 by the template 'total and deterministic' (their statements: Qxb6614685aTotals.lean).
  GIVEN WITH THE SEED: the statements are not yours to turn. If you find one false, say at which input.
  Laid BY PROGRAM, IN A SANDBOX (cutbox-rows.mjs): the forced cells as the released guide's own fill.sh prints them over the translation 67f6c1cc0eab0d84… (all of the seat's roots in one cut). By AI agents, Wed Nov 11 2026. No macro, syntax, notation, axiom, sorry.
-/
import Derived.Test.Qxb6614685aChecked
import GoSem.Claim
import GoSem.ClaimJoined
import GoSem.ClaimMapViews
import Derived.JoinedTies
import Derived.KernelRfl
namespace Go.Proofs.Qxb6614685a
/- THE CELL 'sum', in the pinned program and in every row, IS THE sha256 OF THE DUMP (.gsa) THAT Qxb6614685aProg.lean LOADS. Nothing in Lean hashes anything: it is a label: what it is worth is what the hold of that sum in a sandbox is worth. -/
noncomputable def Try.pinned : Pinned := { name := "qxb6614685a", sum := "67f6c1cc0eab0d842c1219abbd9b0c6b637f4d5a248747c14b94af766d205303", checked := Try.checked }
namespace Rows
def none {H : Type} : Left H := { results := [], args := [] }

/-- 'zzlaws_internal_saga_b1.FnDeadlineAddsUpAndSaturates': WHATEVER THE INPUT: true; the input reads as it did. -/
def fnDeadlineAddsUpAndSaturatesSpec : ChangeSpec := { name := "fnDeadlineAddsUpAndSaturates", fn := fun _ => fun
  | [d1, d2] => { results := [.lit (.bool true)], args := [d1, d2] }
  | _ => none }
def fnDeadlineAddsUpAndSaturatesRow : OpenClaim := { program := "qxb6614685a", sum := "67f6c1cc0eab0d842c1219abbd9b0c6b637f4d5a248747c14b94af766d205303", func := "example.com/amends/amends/zzlaws_internal_saga_b1.FnDeadlineAddsUpAndSaturates", spec := "fnDeadlineAddsUpAndSaturates", apart := false }
def FnDeadlineAddsUpAndSaturatesSaid : Prop := fnDeadlineAddsUpAndSaturatesRow.holds Try.pinned (OpenSpec.ofChange fnDeadlineAddsUpAndSaturatesSpec)

/-- ITS FALSE NEIGHBOUR: 'it returns false'. Refute it at one input. -/
def fnDeadlineAddsUpAndSaturatesWrong : ChangeSpec := { name := "fnDeadlineAddsUpAndSaturates", fn := fun _ => fun
  | [d1, d2] => { results := [.lit (.bool false)], args := [d1, d2] }
  | _ => none }
def FnDeadlineAddsUpAndSaturatesWrongFalsely : Prop := fnDeadlineAddsUpAndSaturatesRow.holds Try.pinned (OpenSpec.ofChange fnDeadlineAddsUpAndSaturatesWrong)

/-- 'zzlaws_internal_saga_b1.FnDeadlineStrictlyIncreasingUpToTheCap': WHATEVER THE INPUT: true; the input reads as it did. -/
def fnDeadlineStrictlyIncreasingUpToTheCapSpec : ChangeSpec := { name := "fnDeadlineStrictlyIncreasingUpToTheCap", fn := fun _ => fun
  | [d1, d2] => { results := [.lit (.bool true)], args := [d1, d2] }
  | _ => none }
def fnDeadlineStrictlyIncreasingUpToTheCapRow : OpenClaim := { program := "qxb6614685a", sum := "67f6c1cc0eab0d842c1219abbd9b0c6b637f4d5a248747c14b94af766d205303", func := "example.com/amends/amends/zzlaws_internal_saga_b1.FnDeadlineStrictlyIncreasingUpToTheCap", spec := "fnDeadlineStrictlyIncreasingUpToTheCap", apart := false }
def FnDeadlineStrictlyIncreasingUpToTheCapSaid : Prop := fnDeadlineStrictlyIncreasingUpToTheCapRow.holds Try.pinned (OpenSpec.ofChange fnDeadlineStrictlyIncreasingUpToTheCapSpec)

/-- ITS FALSE NEIGHBOUR: 'it returns false'. Refute it at one input. -/
def fnDeadlineStrictlyIncreasingUpToTheCapWrong : ChangeSpec := { name := "fnDeadlineStrictlyIncreasingUpToTheCap", fn := fun _ => fun
  | [d1, d2] => { results := [.lit (.bool false)], args := [d1, d2] }
  | _ => none }
def FnDeadlineStrictlyIncreasingUpToTheCapWrongFalsely : Prop := fnDeadlineStrictlyIncreasingUpToTheCapRow.holds Try.pinned (OpenSpec.ofChange fnDeadlineStrictlyIncreasingUpToTheCapWrong)

end Rows
end Go.Proofs.Qxb6614685a
