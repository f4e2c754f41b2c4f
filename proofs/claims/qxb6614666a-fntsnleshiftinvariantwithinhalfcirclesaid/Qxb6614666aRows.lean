/-
  No cell of these rows narrows 'for every input' (looked for: loops, veiled, ifaces, maps, wideKeys, modest, calm, conditions, laid).
  DERIVED. THE GIVEN ROWS OF THIS SEAT. 4 by the template 'for every input the law returns true; each argument reads behind the call as it read before'; 0 by the template 'total and deterministic' (their statements: Qxb6614666aTotals.lean).
  GIVEN WITH THE SEED: the statements are not yours to turn. If you find one false, say at which input.
  Laid BY PROGRAM, IN A SANDBOX (cutbox-rows.mjs): the forced cells as the released guide's own fill.sh prints them over the translation 544726ff1bcec6d4… (all of the seat's roots in one cut). By AI agents, Wed Nov 11 2026. No macro, syntax, notation, axiom, sorry.
-/
import Derived.Test.Qxb6614666aChecked
import GoSem.Claim
import GoSem.ClaimJoined
import GoSem.ClaimMapViews
import Derived.JoinedTies
import Derived.KernelRfl
namespace Go.Proofs.Qxb6614666a
/- THE CELL 'sum', in the pinned program and in every row, IS THE sha256 OF THE DUMP (.gsa) THAT Qxb6614666aProg.lean LOADS. Nothing in Lean hashes anything: it is a label: what it is worth is what the hold of that sum in a sandbox is worth. -/
noncomputable def Try.pinned : Pinned := { name := "qxb6614666a", sum := "544726ff1bcec6d423a9c5b5f9283484bcc72e988ea43e738eb832b65742f4b9", checked := Try.checked }
namespace Rows
def none {H : Type} : Left H := { results := [], args := [] }

/-- 'zzlaws_root_b1.FnTsnLETotalAndAntisymmetric': WHATEVER THE INPUT: true; the input reads as it did. -/
def fnTsnLETotalAndAntisymmetricSpec : ChangeSpec := { name := "fnTsnLETotalAndAntisymmetric", fn := fun _ => fun
  | [d1, d2] => { results := [.lit (.bool true)], args := [d1, d2] }
  | _ => none }
def fnTsnLETotalAndAntisymmetricRow : OpenClaim := { program := "qxb6614666a", sum := "544726ff1bcec6d423a9c5b5f9283484bcc72e988ea43e738eb832b65742f4b9", func := "example.com/strandwire/strandwire/zzlaws_root_b1.FnTsnLETotalAndAntisymmetric", spec := "fnTsnLETotalAndAntisymmetric", apart := false }
def FnTsnLETotalAndAntisymmetricSaid : Prop := fnTsnLETotalAndAntisymmetricRow.holds Try.pinned (OpenSpec.ofChange fnTsnLETotalAndAntisymmetricSpec)

/-- ITS FALSE NEIGHBOUR: 'it returns false'. Refute it at one input. -/
def fnTsnLETotalAndAntisymmetricWrong : ChangeSpec := { name := "fnTsnLETotalAndAntisymmetric", fn := fun _ => fun
  | [d1, d2] => { results := [.lit (.bool false)], args := [d1, d2] }
  | _ => none }
def FnTsnLETotalAndAntisymmetricWrongFalsely : Prop := fnTsnLETotalAndAntisymmetricRow.holds Try.pinned (OpenSpec.ofChange fnTsnLETotalAndAntisymmetricWrong)

/-- 'zzlaws_root_b1.FnTsnLEShiftInvariantWithinHalfCircle': WHATEVER THE INPUT: true; the input reads as it did. -/
def fnTsnLEShiftInvariantWithinHalfCircleSpec : ChangeSpec := { name := "fnTsnLEShiftInvariantWithinHalfCircle", fn := fun _ => fun
  | [d1, d2, d3] => { results := [.lit (.bool true)], args := [d1, d2, d3] }
  | _ => none }
def fnTsnLEShiftInvariantWithinHalfCircleRow : OpenClaim := { program := "qxb6614666a", sum := "544726ff1bcec6d423a9c5b5f9283484bcc72e988ea43e738eb832b65742f4b9", func := "example.com/strandwire/strandwire/zzlaws_root_b1.FnTsnLEShiftInvariantWithinHalfCircle", spec := "fnTsnLEShiftInvariantWithinHalfCircle", apart := false }
def FnTsnLEShiftInvariantWithinHalfCircleSaid : Prop := fnTsnLEShiftInvariantWithinHalfCircleRow.holds Try.pinned (OpenSpec.ofChange fnTsnLEShiftInvariantWithinHalfCircleSpec)

/-- ITS FALSE NEIGHBOUR: 'it returns false'. Refute it at one input. -/
def fnTsnLEShiftInvariantWithinHalfCircleWrong : ChangeSpec := { name := "fnTsnLEShiftInvariantWithinHalfCircle", fn := fun _ => fun
  | [d1, d2, d3] => { results := [.lit (.bool false)], args := [d1, d2, d3] }
  | _ => none }
def FnTsnLEShiftInvariantWithinHalfCircleWrongFalsely : Prop := fnTsnLEShiftInvariantWithinHalfCircleRow.holds Try.pinned (OpenSpec.ofChange fnTsnLEShiftInvariantWithinHalfCircleWrong)

/-- 'zzlaws_root_b1.FnTsnChunkCarriesTsnBigEndianInOrder': WHATEVER THE INPUT: true; the input reads as it did. -/
def fnTsnChunkCarriesTsnBigEndianInOrderSpec : ChangeSpec := { name := "fnTsnChunkCarriesTsnBigEndianInOrder", fn := fun _ => fun
  | [d1, d2, d3] => { results := [.lit (.bool true)], args := [d1, d2, d3] }
  | _ => none }
def fnTsnChunkCarriesTsnBigEndianInOrderRow : OpenClaim := { program := "qxb6614666a", sum := "544726ff1bcec6d423a9c5b5f9283484bcc72e988ea43e738eb832b65742f4b9", func := "example.com/strandwire/strandwire/zzlaws_root_b1.FnTsnChunkCarriesTsnBigEndianInOrder", spec := "fnTsnChunkCarriesTsnBigEndianInOrder", named := ["encoding/binary.BigEndian"], apart := false }
def FnTsnChunkCarriesTsnBigEndianInOrderSaid : Prop := fnTsnChunkCarriesTsnBigEndianInOrderRow.holds Try.pinned (OpenSpec.ofChange fnTsnChunkCarriesTsnBigEndianInOrderSpec)

/-- ITS FALSE NEIGHBOUR: 'it returns false'. Refute it at one input. -/
def fnTsnChunkCarriesTsnBigEndianInOrderWrong : ChangeSpec := { name := "fnTsnChunkCarriesTsnBigEndianInOrder", fn := fun _ => fun
  | [d1, d2, d3] => { results := [.lit (.bool false)], args := [d1, d2, d3] }
  | _ => none }
def FnTsnChunkCarriesTsnBigEndianInOrderWrongFalsely : Prop := fnTsnChunkCarriesTsnBigEndianInOrderRow.holds Try.pinned (OpenSpec.ofChange fnTsnChunkCarriesTsnBigEndianInOrderWrong)

/-- 'zzlaws_root_b1.FnTsnChunkValueIsFreshAndIndependentOfType': WHATEVER THE INPUT: true; the input reads as it did. -/
def fnTsnChunkValueIsFreshAndIndependentOfTypeSpec : ChangeSpec := { name := "fnTsnChunkValueIsFreshAndIndependentOfType", fn := fun _ => fun
  | [d1, d2, d3] => { results := [.lit (.bool true)], args := [d1, d2, d3] }
  | _ => none }
def fnTsnChunkValueIsFreshAndIndependentOfTypeRow : OpenClaim := { program := "qxb6614666a", sum := "544726ff1bcec6d423a9c5b5f9283484bcc72e988ea43e738eb832b65742f4b9", func := "example.com/strandwire/strandwire/zzlaws_root_b1.FnTsnChunkValueIsFreshAndIndependentOfType", spec := "fnTsnChunkValueIsFreshAndIndependentOfType", named := ["encoding/binary.BigEndian"], apart := false }
def FnTsnChunkValueIsFreshAndIndependentOfTypeSaid : Prop := fnTsnChunkValueIsFreshAndIndependentOfTypeRow.holds Try.pinned (OpenSpec.ofChange fnTsnChunkValueIsFreshAndIndependentOfTypeSpec)

/-- ITS FALSE NEIGHBOUR: 'it returns false'. Refute it at one input. -/
def fnTsnChunkValueIsFreshAndIndependentOfTypeWrong : ChangeSpec := { name := "fnTsnChunkValueIsFreshAndIndependentOfType", fn := fun _ => fun
  | [d1, d2, d3] => { results := [.lit (.bool false)], args := [d1, d2, d3] }
  | _ => none }
def FnTsnChunkValueIsFreshAndIndependentOfTypeWrongFalsely : Prop := fnTsnChunkValueIsFreshAndIndependentOfTypeRow.holds Try.pinned (OpenSpec.ofChange fnTsnChunkValueIsFreshAndIndependentOfTypeWrong)

end Rows
end Go.Proofs.Qxb6614666a
