/- The walks of the two laws over Deadline (functions 3, 4). -/
import Derived.Test.Qxb6614685aDl
namespace Go.Proofs.Qxb6614685a
open Go.ChangeShapes Go.WideShapes Go.ChangeAt Go.RowKit

theorem dl_lo (n : Int) (h : 0 ≤ n) : 0 ≤ dl n := by unfold dl; split <;> omega
theorem dl_hi (n : Int) : dl n ≤ 9223372036854775807 := by unfold dl; split <;> omega
theorem dl_le (x y : Int) (h : x ≤ y) : dl x ≤ dl y := by unfold dl; split <;> split <;> omega
theorem dl_eq_big (x y : Int) (h1 : 9223372036854 < x) (h2 : 9223372036854 < y) : (dl x == dl y) = true := by rw [dl_big x h1, dl_big y h2]; rfl
theorem dl_ne (x y : Int) (h : x < y) (hx : ¬ 9223372036854 < x) : (dl x == dl y) = false := by
  rw [beq_eq_false_iff_ne]; unfold dl; rw [if_neg hx]; split <;> omega
theorem dl_add (a b : Int) (ha : 0 ≤ a) (hb : 0 ≤ b) (h : dl a ≤ 9223372036854775807 - dl b) : (dl (a + b) == dl a + dl b) = true := by
  rw [beq_iff_eq]; revert h; unfold dl; split <;> split <;> split <;> intro h <;> omega
theorem dl_cut (a b : Int) (ha : 0 ≤ a) (hb : 0 ≤ b) (h : ¬ dl a ≤ 9223372036854775807 - dl b) : (dl (a + b) == 9223372036854775807) = true := by
  rw [beq_iff_eq]; revert h; unfold dl; split <;> split <;> split <;> intro h <;> omega

theorem inc_out (a b : Int) (w : World) (h : a < -9223372036854 ∨ b < -9223372036854) :
    Calls Try.prog 4 #[.int .i64 a, .int .i64 b] w fun e w' => e = .returned (.bool true) ∧ Grown w w' := by
  by_cases ha : a < -9223372036854
  · go_enter Try.func4, Try.ntmps4
    go_wp2
    go_ret
    exact ⟨rfl, Grown.refl _⟩
  · have hb : b < -9223372036854 := by omega
    clear h
    go_enter Try.func4, Try.ntmps4
    go_wp2
    go_ret
    exact ⟨rfl, Grown.refl _⟩

theorem inc_same (a : Int) (w : World) (ha : -9223372036854 ≤ a) :
    Calls Try.prog 4 #[.int .i64 a, .int .i64 a] w fun e w' => e = .returned (.bool true) ∧ Grown w w' := by
  go_enter Try.func4, Try.ntmps4
  go_wp2_with (first | (go_at_call 6; refine (deadlineOf_any _ _ ha).mono ?_; rintro e w' ⟨rfl, hw⟩) | (go_at_call 7; refine (expected_any _ _ ha).mono ?_; rintro e w' ⟨rfl, rfl⟩))
  go_ret
  exact ⟨rfl, grown_call (grown_call (Grown.refl _) (by assumption)) (by assumption)⟩

theorem inc_up_big (x y : Int) (w : World) (hx : -9223372036854 ≤ x) (hlt : x < y) (hb : 9223372036854 < x) :
    Calls Try.prog 4 #[.int .i64 x, .int .i64 y] w fun e w' => e = .returned (.bool true) ∧ Grown w w' := by
  have hy : -9223372036854 ≤ y := by omega
  have hle := dl_le x y (by omega)
  have hne : (x == y) = false := by rw [beq_eq_false_iff_ne]; omega
  have heq := dl_eq_big x y hb (by omega)
  have hb2 : 9223372036854 < y := by omega
  go_enter Try.func4, Try.ntmps4
  go_wp2_with (first | (go_at_call 6; refine (deadlineOf_any _ _ (by assumption)).mono ?_; rintro e w' ⟨rfl, hw⟩) | (go_at_call 7; refine (expected_any _ _ (by assumption)).mono ?_; rintro e w' ⟨rfl, rfl⟩))
  go_ret
  exact ⟨rfl, grown_call (grown_call (Grown.refl _) (by assumption)) (by assumption)⟩

theorem inc_up_small (x y : Int) (w : World) (hx : -9223372036854 ≤ x) (hlt : x < y) (hb : ¬ 9223372036854 < x) :
    Calls Try.prog 4 #[.int .i64 x, .int .i64 y] w fun e w' => e = .returned (.bool true) ∧ Grown w w' := by
  have hy : -9223372036854 ≤ y := by omega
  have hle := dl_le x y (by omega)
  have hne : (x == y) = false := by rw [beq_eq_false_iff_ne]; omega
  have heq := dl_ne x y hlt hb
  go_enter Try.func4, Try.ntmps4
  go_wp2_with (first | (go_at_call 6; refine (deadlineOf_any _ _ (by assumption)).mono ?_; rintro e w' ⟨rfl, hw⟩) | (go_at_call 7; refine (expected_any _ _ (by assumption)).mono ?_; rintro e w' ⟨rfl, rfl⟩))
  go_ret
  exact ⟨rfl, grown_call (grown_call (Grown.refl _) (by assumption)) (by assumption)⟩

theorem inc_down_big (x y : Int) (w : World) (hx : -9223372036854 ≤ x) (hlt : x < y) (hb : 9223372036854 < x) :
    Calls Try.prog 4 #[.int .i64 y, .int .i64 x] w fun e w' => e = .returned (.bool true) ∧ Grown w w' := by
  have hy : -9223372036854 ≤ y := by omega
  have hle := dl_le x y (by omega)
  have hne : (x == y) = false := by rw [beq_eq_false_iff_ne]; omega
  have heq := dl_eq_big x y hb (by omega)
  have hb2 : 9223372036854 < y := by omega
  go_enter Try.func4, Try.ntmps4
  go_wp2_with (first | (go_at_call 6; refine (deadlineOf_any _ _ (by assumption)).mono ?_; rintro e w' ⟨rfl, hw⟩) | (go_at_call 7; refine (expected_any _ _ (by assumption)).mono ?_; rintro e w' ⟨rfl, rfl⟩))
  go_ret
  exact ⟨rfl, grown_call (grown_call (Grown.refl _) (by assumption)) (by assumption)⟩

theorem inc_down_small (x y : Int) (w : World) (hx : -9223372036854 ≤ x) (hlt : x < y) (hb : ¬ 9223372036854 < x) :
    Calls Try.prog 4 #[.int .i64 y, .int .i64 x] w fun e w' => e = .returned (.bool true) ∧ Grown w w' := by
  have hy : -9223372036854 ≤ y := by omega
  have hle := dl_le x y (by omega)
  have hne : (x == y) = false := by rw [beq_eq_false_iff_ne]; omega
  have heq := dl_ne x y hlt hb
  go_enter Try.func4, Try.ntmps4
  go_wp2_with (first | (go_at_call 6; refine (deadlineOf_any _ _ (by assumption)).mono ?_; rintro e w' ⟨rfl, hw⟩) | (go_at_call 7; refine (expected_any _ _ (by assumption)).mono ?_; rintro e w' ⟨rfl, rfl⟩))
  go_ret
  exact ⟨rfl, grown_call (grown_call (Grown.refl _) (by assumption)) (by assumption)⟩

theorem inc_walk (a b : Int) (w : World) : Calls Try.prog 4 #[.int .i64 a, .int .i64 b] w fun e w' => e = .returned (.bool true) ∧ Grown w w' := by
  by_cases h : a < -9223372036854 ∨ b < -9223372036854
  · exact inc_out a b w h
  · by_cases e : a = b
    · subst e; exact inc_same a w (by omega)
    · by_cases l : a < b
      · by_cases c : 9223372036854 < a
        · exact inc_up_big a b w (by omega) l c
        · exact inc_up_small a b w (by omega) l c
      · by_cases c : 9223372036854 < b
        · exact inc_down_big b a w (by omega) (by omega) c
        · exact inc_down_small b a w (by omega) (by omega) c
end Go.Proofs.Qxb6614685a
