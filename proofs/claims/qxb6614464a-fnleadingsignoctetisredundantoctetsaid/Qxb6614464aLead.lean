/- The contract of leadingSignOctet (functions 8, 16), shared by both statements of this seat. -/
import Derived.Test.Qxb6614464aProg
import Derived.WalkKit
import Derived.ProofKit
import Derived.OpenShut
import Derived.ShutString
import Derived.Outline
import Derived.Handy
namespace Go.Proofs.Qxb6614464a
open Go.ChangeShapes Go.WideShapes Go.ChangeAt Go.RowKit

def red (c0 c1 : Int) : Bool := (c0 == 0 && decide (c1 < 128)) || (c0 == 255 && decide (128 ≤ c1))

theorem ret_bool {a b : Bool} (h : a = b) : Ending.returned (.bool a) = .returned (.bool b) := by rw [h]

theorem lead_short (a : Option Addr) (len cap : Nat) (w : World) (hl : len < 2) :
    Calls Try.prog 8 #[.slice a len cap] w fun e w' => e = .returned (.bool false) ∧ w' = w := by
  go_enter Try.func8, Try.ntmps8
  go_wp2
  go_ret
  exact ⟨rfl, rfl⟩

theorem lead_any (b off len cap : Nat) (c0 c1 : Int) (w : World) (hl : 2 ≤ len) (hm : len ≤ maxLen)
    (h0 : w.cell? ⟨b, off, none⟩ = some (.int .u8 c0)) (h1 : w.cell? ⟨b, off + 1, none⟩ = some (.int .u8 c1)) :
    Calls Try.prog 8 #[.slice (some ⟨b, off, none⟩) len cap] w fun e w' => e = .returned (.bool (red c0 c1)) ∧ w' = w := by
  unfold maxLen at hm
  have hl0 : 0 < len := by omega
  have hl1 : 1 < len := by omega
  by_cases e0 : c0 = 0
  · subst e0
    by_cases e1 : c1 < 128
    · have hr : red 0 c1 = true := by simp [red, e1]
      rw [hr]; clear hr
      go_enter Try.func8, Try.ntmps8
      go_wp2
      go_ret
      exact ⟨rfl, rfl⟩
    · have hr : red 0 c1 = false := by simp [red]; omega
      rw [hr]; clear hr
      go_enter Try.func8, Try.ntmps8
      go_wp2
      go_ret
      exact ⟨rfl, rfl⟩
  · have e0' : (c0 == 0) = false := by simpa using e0
    by_cases e2 : c0 = 255
    · subst e2
      by_cases e1 : c1 < 128
      · have hr : red 255 c1 = false := by simp [red]; omega
        rw [hr]; clear hr
        go_enter Try.func8, Try.ntmps8
        go_wp2
        go_ret
        exact ⟨ret_bool (by simp; omega), rfl⟩
      · have hr : red 255 c1 = true := by simp [red]; omega
        rw [hr]; clear hr
        go_enter Try.func8, Try.ntmps8
        go_wp2
        go_ret
        exact ⟨rfl, rfl⟩
    · have e2' : (c0 == 255) = false := by simpa using e2
      have hr : red c0 c1 = false := by simp [red, e0, e2]
      rw [hr]; clear hr
      go_enter Try.func8, Try.ntmps8
      go_wp2
      go_ret
      exact ⟨rfl, rfl⟩
end Go.Proofs.Qxb6614464a
