/-
  No cell of these rows narrows 'for every input' (looked for: loops, veiled, ifaces, maps, wideKeys, modest, calm, conditions, laid).
  DERIVED. THE GIVEN ROWS OF THIS SEAT. 1 by the template 'for every input the law returns true; each argument reads behind the call as it read before'; 0 by the template 'total and deterministic' (their statements: Qxb6614575aTotals.lean).
  GIVEN WITH THE SEED: the statements are not yours to turn. If you find one false, say at which input.
  Laid BY PROGRAM, IN A SANDBOX (cutbox-rows.mjs): the forced cells as the released guide's own fill.sh prints them over the translation 822eb6e6c85608b8… (all of the seat's roots in one cut). By AI agents, Wed Nov 11 2026. No macro, syntax, notation, axiom, sorry.
-/
import Derived.Test.Qxb6614575aChecked
import GoSem.Claim
import GoSem.ClaimJoined
import GoSem.ClaimMapViews
import Derived.JoinedTies
import Derived.KernelRfl
namespace Go.Proofs.Qxb6614575a
/- THE CELL 'sum', in the pinned program and in every row, IS THE sha256 OF THE DUMP (.gsa) THAT Qxb6614575aProg.lean LOADS. Nothing in Lean hashes anything: it is a label: what it is worth is what the hold of that sum in a sandbox is worth. -/
noncomputable def Try.pinned : Pinned := { name := "qxb6614575a", sum := "822eb6e6c85608b8ddc1abcd1940cd20bb599c180c7fcc7f22f14f55e1b6ed8e", checked := Try.checked }
namespace Rows
def none {H : Type} : Left H := { results := [], args := [] }

/-- 'zzlaws_registrar_b1.FnHoldingsOfKeepsFirstAppearanceOrder': WHATEVER THE INPUT: true; the input reads as it did. -/
def fnHoldingsOfKeepsFirstAppearanceOrderSpec : ChangeSpec := { name := "fnHoldingsOfKeepsFirstAppearanceOrder", fn := fun _ => fun
  | [d] => { results := [.lit (.bool true)], args := [d] }
  | _ => none }
def fnHoldingsOfKeepsFirstAppearanceOrderRow : OpenClaim := { program := "qxb6614575a", sum := "822eb6e6c85608b8ddc1abcd1940cd20bb599c180c7fcc7f22f14f55e1b6ed8e", func := "example.com/zhaomu/zhaomu/zzlaws_registrar_b1.FnHoldingsOfKeepsFirstAppearanceOrder", spec := "fnHoldingsOfKeepsFirstAppearanceOrder", plainKeys := false, apart := false }
def FnHoldingsOfKeepsFirstAppearanceOrderSaid : Prop := fnHoldingsOfKeepsFirstAppearanceOrderRow.holds Try.pinned (OpenSpec.ofChange fnHoldingsOfKeepsFirstAppearanceOrderSpec)

/-- ITS FALSE NEIGHBOUR: 'it returns false'. Refute it at one input. -/
def fnHoldingsOfKeepsFirstAppearanceOrderWrong : ChangeSpec := { name := "fnHoldingsOfKeepsFirstAppearanceOrder", fn := fun _ => fun
  | [d] => { results := [.lit (.bool false)], args := [d] }
  | _ => none }
def FnHoldingsOfKeepsFirstAppearanceOrderWrongFalsely : Prop := fnHoldingsOfKeepsFirstAppearanceOrderRow.holds Try.pinned (OpenSpec.ofChange fnHoldingsOfKeepsFirstAppearanceOrderWrong)

end Rows
end Go.Proofs.Qxb6614575a
