/- The walks of FnOutcomeStartedUnlessNamedDefiniteFailure (function 3). fmt.Sprintf is come to on none of them. -/
import Derived.Test.Qxb6614685aFmtProg
import Derived.WalkKit
import Derived.ProofKit
import Derived.OpenShut
import Derived.Outline
import Derived.WalkSpells
import Derived.WalkLawsBesides
namespace Go.Proofs.Qxb6614685aFmt
open Go.ChangeShapes Go.WideShapes Go.ChangeAt Go.RowKit

theorem ret_bool {a b : Bool} (h : a = b) : Ending.returned (.bool a) = .returned (.bool b) := by rw [h]

theorem out_past (o : Int) (w : World) (h : 2 < o) : Calls Tryf.prog 3 #[.int .u8 o] w fun e w' => e = .returned (.bool true) ∧ w' = w := by
  go_enter Tryf.func3, Tryf.ntmps3
  go_wp2
  go_ret
  exact ⟨ret_bool (by rw [bne_iff_ne]; omega), rfl⟩

theorem out_0 (b off cap : Nat) (w : World) (hg : w.cell? ⟨0, 0, none⟩ = some (.slice (some ⟨b, off, none⟩) 3 cap)) (hc : w.cell? ⟨b, off, none⟩ = some (.string ⟨#[117, 110, 107, 110, 111, 119, 110]⟩)) :
    Calls Tryf.prog 3 #[.int .u8 0] w fun e w' => e = .returned (.bool true) ∧ w' = w := by
  go_enter Tryf.func3, Tryf.ntmps3
  go_wp2
  go_ret
  exact ⟨rfl, rfl⟩

theorem out_1 (b off cap : Nat) (w : World) (hg : w.cell? ⟨0, 0, none⟩ = some (.slice (some ⟨b, off, none⟩) 3 cap)) (hc : w.cell? ⟨b, off + 1, none⟩ = some (.string ⟨#[111, 107]⟩)) :
    Calls Tryf.prog 3 #[.int .u8 1] w fun e w' => e = .returned (.bool true) ∧ w' = w := by
  go_enter Tryf.func3, Tryf.ntmps3
  go_wp2
  go_ret
  exact ⟨rfl, rfl⟩

theorem out_2 (b off cap : Nat) (w : World) (hg : w.cell? ⟨0, 0, none⟩ = some (.slice (some ⟨b, off, none⟩) 3 cap)) (hc : w.cell? ⟨b, off + 2, none⟩ = some (.string ⟨#[100, 101, 102, 105, 110, 105, 116, 101, 95, 102, 97, 105, 108, 117, 114, 101]⟩)) :
    Calls Tryf.prog 3 #[.int .u8 2] w fun e w' => e = .returned (.bool true) ∧ w' = w := by
  go_enter Tryf.func3, Tryf.ntmps3
  go_wp2
  go_ret
  exact ⟨rfl, rfl⟩
end Go.Proofs.Qxb6614685aFmt
