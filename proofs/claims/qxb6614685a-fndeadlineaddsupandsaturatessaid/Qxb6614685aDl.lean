/- Contracts of millis (9), Deadline (8), deadlineOf (6), deadlineExpected (7), maxIntOf (5). -/
import Derived.Test.Qxb6614685aProg
import Derived.WalkKit
import Derived.ProofKit
import Derived.OpenShut
import Derived.ShutString
import Derived.Outline
import Derived.Handy
import Derived.Deep.QuietTactic
import Derived.BigQuiet
namespace Go.Proofs.Qxb6614685a
open Go.ChangeShapes Go.WideShapes Go.ChangeAt Go.RowKit

theorem ret_bool {a b : Bool} (h : a = b) : Ending.returned (.bool a) = .returned (.bool b) := by rw [h]
theorem ret_int {k : IntKind} {a b : Int} (h : a = b) : Ending.returned (.int k a) = .returned (.int k b) := by rw [h]

/-- n milliseconds in nanoseconds, cut to the longest span. -/
def dl (n : Int) : Int := if 9223372036854 < n then 9223372036854775807 else n * 1000000

theorem dl_big (n : Int) (h : 9223372036854 < n) : dl n = 9223372036854775807 := if_pos h
theorem dl_small (n : Int) (h : n ≤ 9223372036854) : dl n = n * 1000000 := if_neg (by omega)

theorem millis_any (n : Int) (w : World) (h : -9223372036854 ≤ n) : Calls Try.prog 9 #[.int .i64 n, .int .i64 0] w fun e w' => e = .returned (.int .i64 (dl n)) ∧ w' = w := by
  by_cases h0 : n = 0
  · subst h0
    go_enter Try.func9, Try.ntmps9
    go_wp2
    go_ret
    exact ⟨rfl, rfl⟩
  · have h0' : (n == 0) = false := by simpa using h0
    by_cases hb : 9223372036854 < n
    · rw [dl_big n hb]
      go_enter Try.func9, Try.ntmps9
      go_wp2
      go_ret
      exact ⟨rfl, rfl⟩
    · rw [dl_small n (by omega)]
      go_enter Try.func9, Try.ntmps9
      go_wp2
      go_ret
      exact ⟨rfl, rfl⟩

theorem expected_any (n : Int) (w : World) (h : -9223372036854 ≤ n) : Calls Try.prog 7 #[.int .i64 n] w fun e w' => e = .returned (.int .i64 (dl n)) ∧ w' = w := by
  by_cases hb : 9223372036854 < n
  · rw [dl_big n hb]
    go_enter Try.func7, Try.ntmps7
    go_wp2
    go_ret
    exact ⟨rfl, rfl⟩
  · rw [dl_small n (by omega)]
    go_enter Try.func7, Try.ntmps7
    go_wp2
    go_ret
    exact ⟨rfl, rfl⟩

theorem deadline_any (b : Nat) (n : Int) (w : World) (h : -9223372036854 ≤ n) (hc : w.cell? ⟨b, 1, none⟩ = some (.int .i64 n)) :
    Calls Try.prog 8 #[.pointer (some ⟨b, 0, none⟩)] w fun e w' => e = .returned (.tuple #[.int .i64 (dl n), .bool (n != 0)]) ∧ ∃ m, w' = w.drewN m := by
  go_enter Try.func8, Try.ntmps8
  go_wp2
  go_quiet ((go_at_call 9; exact Calls.quiet_of_same (millis_any _ _ h)))
  go_wp2
  go_ret2
  exact ⟨rfl, _, rfl⟩

theorem deadlineOf_any (n : Int) (w : World) (h : -9223372036854 ≤ n) : Calls Try.prog 6 #[.int .i64 n] w fun e w' => e = .returned (.tuple #[.int .i64 (dl n), .bool (n != 0)]) ∧ ∃ c m, w' = (w.alloc (.cells c 29)).drewN m := by
  go_enter Try.func6, Try.ntmps6
  go_wp2_with (go_at_call 8; refine (deadline_any _ n _ h (by simp)).mono ?_; rintro e w' ⟨rfl, m, rfl⟩)
  go_ret2
  exact ⟨rfl, _, _, rfl⟩

theorem grown_call {W w w' : World} (h : Grown W w) (hw : ∃ c m, w' = (w.alloc (.cells c 29)).drewN m) : Grown W w' := by
  obtain ⟨c, m, rfl⟩ := hw
  exact h.alloc c 29
end Go.Proofs.Qxb6614685a
