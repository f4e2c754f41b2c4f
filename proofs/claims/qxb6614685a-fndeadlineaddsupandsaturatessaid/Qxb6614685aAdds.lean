/- The walk of FnDeadlineAddsUpAndSaturates (function 3). -/
import Derived.Test.Qxb6614685aWays
namespace Go.Proofs.Qxb6614685a
open Go.ChangeShapes Go.WideShapes Go.ChangeAt Go.RowKit

theorem add_neg (a b : Int) (w : World) (h : a < 0 ∨ b < 0) :
    Calls Try.prog 3 #[.int .i64 a, .int .i64 b] w fun e w' => e = .returned (.bool true) ∧ Grown w w' := by
  by_cases ha : a < 0
  · go_enter Try.func3, Try.ntmps3
    go_wp2
    go_ret
    exact ⟨rfl, Grown.refl _⟩
  · have hb : b < 0 := by omega
    clear h
    go_enter Try.func3, Try.ntmps3
    go_wp2
    go_ret
    exact ⟨rfl, Grown.refl _⟩

theorem add_over (a b : Int) (w : World) (ha : 0 ≤ a) (hb : 0 ≤ b) (hb' : b ≤ 9223372036854775807) (h : 9223372036854775807 - b < a) :
    Calls Try.prog 3 #[.int .i64 a, .int .i64 b] w fun e w' => e = .returned (.bool true) ∧ Grown w w' := by
  go_enter Try.func3, Try.ntmps3
  go_wp2
  go_ret
  exact ⟨rfl, Grown.refl _⟩

theorem add_in (a b : Int) (w : World) (ha : 0 ≤ a) (hb : 0 ≤ b) (h : a ≤ 9223372036854775807 - b) :
    Calls Try.prog 3 #[.int .i64 a, .int .i64 b] w fun e w' => e = .returned (.bool true) ∧ Grown w w' := by
  have qa : -9223372036854 ≤ a := by omega
  have qb : -9223372036854 ≤ b := by omega
  have qab : -9223372036854 ≤ a + b := by omega
  have la := dl_lo a ha
  have lb := dl_lo b hb
  have ua := dl_hi a
  have ub := dl_hi b
  by_cases c : dl a ≤ 9223372036854775807 - dl b
  · have hs := dl_add a b ha hb c
    go_enter Try.func3, Try.ntmps3
    go_wp2_with (first | (go_at_call 6; refine (deadlineOf_any _ _ (by assumption)).mono ?_; rintro e w' ⟨rfl, hw⟩) | (go_at_call 7; refine (expected_any _ _ (by assumption)).mono ?_; rintro e w' ⟨rfl, rfl⟩) | go_in)
    all_goals
      go_ret
      refine ⟨?_, grown_call (grown_call (grown_call (Grown.refl _) (by assumption)) (by assumption)) (by assumption)⟩
      first | rfl | exact ret_bool (by rw [bne_iff_ne]; omega)
  · have hs := dl_cut a b ha hb c
    go_enter Try.func3, Try.ntmps3
    go_wp2_with (first | (go_at_call 6; refine (deadlineOf_any _ _ (by assumption)).mono ?_; rintro e w' ⟨rfl, hw⟩) | (go_at_call 7; refine (expected_any _ _ (by assumption)).mono ?_; rintro e w' ⟨rfl, rfl⟩) | go_in)
    all_goals
      go_ret
      refine ⟨?_, grown_call (grown_call (grown_call (Grown.refl _) (by assumption)) (by assumption)) (by assumption)⟩
      first | rfl | exact ret_bool (by rw [bne_iff_ne]; omega)

theorem add_walk (a b : Int) (hb' : b ≤ 9223372036854775807) (w : World) : Calls Try.prog 3 #[.int .i64 a, .int .i64 b] w fun e w' => e = .returned (.bool true) ∧ Grown w w' := by
  by_cases h : a < 0 ∨ b < 0
  · exact add_neg a b w h
  · by_cases c : a ≤ 9223372036854775807 - b
    · exact add_in a b w (by omega) (by omega) c
    · exact add_over a b w (by omega) (by omega) hb' (by omega)
end Go.Proofs.Qxb6614685a
