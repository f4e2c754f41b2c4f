/- The walks of FnLeadingSignOctetTrimsInt64ToMinimalWidth (function 4): one a width and a sign; all three loops unrolled. -/
import Derived.Test.Qxb6614464aTrimsPlain
namespace Go.Proofs.Qxb6614464a
open Go.ChangeShapes Go.WideShapes Go.ChangeAt Go.RowKit

theorem trims_one (a0 : Int) (l1 : -128 ≤ a0) (l2 : a0 < 128) (w : World) :
    Calls Try.prog 4 #[.int .i64 a0] w fun e w' => e = .returned (.bool true) ∧ Grown w w' := by
  have hmk : ∀ w, (Instr.makeSlice 22 (.int .i64 8) (.int .i64 8)).run Try.prog w = .ok (.slice (some ⟨w.heap.size, 0, none⟩) 8 8) (w.alloc (.cells #[.int .u8 0, .int .u8 0, .int .u8 0, .int .u8 0, .int .u8 0, .int .u8 0, .int .u8 0, .int .u8 0] 5)) := fun _ => by kernel_rfl
  have r8 := red_in8 a0 (by omega) (by omega)
  have r7 := red_in7 a0 (by omega) (by omega)
  have r6 := red_in6 a0 (by omega) (by omega)
  have r5 := red_in5 a0 (by omega) (by omega)
  have r4 := red_in4 a0 (by omega) (by omega)
  have r3 := red_in3 a0 (by omega) (by omega)
  have r2 := red_in2 a0 (by omega) (by omega)
  have HL : Hid (-128 ≤ a0 ∧ a0 < 128) := ⟨l1, l2⟩
  clear l1 l2
  go_enter Try.func4, Try.ntmps4
  go_wp2
  refine wp_loop_rounds 9 ?_
  iterate 9 (rw [rounds_succ]; go_wp2)
  refine wp_loop_rounds 8 ?_
  rw [rounds_succ]; go_wp2_with (go_at_call 8; refine (lead8_0 _ _ _ _ _ _ _ _ _).mono ?_; rintro e w' ⟨rfl, rfl⟩)
  rw [rounds_succ]; go_wp2_with (go_at_call 8; refine (lead8_1 _ _ _ _ _ _ _ _ _).mono ?_; rintro e w' ⟨rfl, rfl⟩)
  rw [rounds_succ]; go_wp2_with (go_at_call 8; refine (lead8_2 _ _ _ _ _ _ _ _ _).mono ?_; rintro e w' ⟨rfl, rfl⟩)
  rw [rounds_succ]; go_wp2_with (go_at_call 8; refine (lead8_3 _ _ _ _ _ _ _ _ _).mono ?_; rintro e w' ⟨rfl, rfl⟩)
  rw [rounds_succ]; go_wp2_with (go_at_call 8; refine (lead8_4 _ _ _ _ _ _ _ _ _).mono ?_; rintro e w' ⟨rfl, rfl⟩)
  rw [rounds_succ]; go_wp2_with (go_at_call 8; refine (lead8_5 _ _ _ _ _ _ _ _ _).mono ?_; rintro e w' ⟨rfl, rfl⟩)
  rw [rounds_succ]; go_wp2_with (go_at_call 8; refine (lead8_6 _ _ _ _ _ _ _ _ _).mono ?_; rintro e w' ⟨rfl, rfl⟩)
  rw [rounds_succ]; go_wp2
  obtain ⟨l1, l2⟩ := HL.out
  refine wp_loop_rounds 8 ?_
  repeat (rw [rounds_succ]; go_wp2)
  go_ret
  exact ⟨rfl, by go_grown⟩

theorem trims_pos2 (a0 : Int) (l1 : 128 ≤ a0) (l2 : a0 < 32768) (w : World) :
    Calls Try.prog 4 #[.int .i64 a0] w fun e w' => e = .returned (.bool true) ∧ Grown w w' := by
  have hmk : ∀ w, (Instr.makeSlice 22 (.int .i64 8) (.int .i64 8)).run Try.prog w = .ok (.slice (some ⟨w.heap.size, 0, none⟩) 8 8) (w.alloc (.cells #[.int .u8 0, .int .u8 0, .int .u8 0, .int .u8 0, .int .u8 0, .int .u8 0, .int .u8 0, .int .u8 0] 5)) := fun _ => by kernel_rfl
  have r8 := red_in8 a0 (by omega) (by omega)
  have r7 := red_in7 a0 (by omega) (by omega)
  have r6 := red_in6 a0 (by omega) (by omega)
  have r5 := red_in5 a0 (by omega) (by omega)
  have r4 := red_in4 a0 (by omega) (by omega)
  have r3 := red_in3 a0 (by omega) (by omega)
  have r2 := red_pos2 a0 (by omega) (by omega)
  have HL : Hid (128 ≤ a0 ∧ a0 < 32768) := ⟨l1, l2⟩
  clear l1 l2
  go_enter Try.func4, Try.ntmps4
  go_wp2
  refine wp_loop_rounds 9 ?_
  iterate 9 (rw [rounds_succ]; go_wp2)
  refine wp_loop_rounds 8 ?_
  rw [rounds_succ]; go_wp2_with (go_at_call 8; refine (lead8_0 _ _ _ _ _ _ _ _ _).mono ?_; rintro e w' ⟨rfl, rfl⟩)
  rw [rounds_succ]; go_wp2_with (go_at_call 8; refine (lead8_1 _ _ _ _ _ _ _ _ _).mono ?_; rintro e w' ⟨rfl, rfl⟩)
  rw [rounds_succ]; go_wp2_with (go_at_call 8; refine (lead8_2 _ _ _ _ _ _ _ _ _).mono ?_; rintro e w' ⟨rfl, rfl⟩)
  rw [rounds_succ]; go_wp2_with (go_at_call 8; refine (lead8_3 _ _ _ _ _ _ _ _ _).mono ?_; rintro e w' ⟨rfl, rfl⟩)
  rw [rounds_succ]; go_wp2_with (go_at_call 8; refine (lead8_4 _ _ _ _ _ _ _ _ _).mono ?_; rintro e w' ⟨rfl, rfl⟩)
  rw [rounds_succ]; go_wp2_with (go_at_call 8; refine (lead8_5 _ _ _ _ _ _ _ _ _).mono ?_; rintro e w' ⟨rfl, rfl⟩)
  rw [rounds_succ]; go_wp2_with (go_at_call 8; refine (lead8_6 _ _ _ _ _ _ _ _ _).mono ?_; rintro e w' ⟨rfl, rfl⟩)
  obtain ⟨l1, l2⟩ := HL.out
  refine wp_loop_rounds 8 ?_
  repeat (rw [rounds_succ]; go_wp2)
  go_ret
  exact ⟨rfl, by go_grown⟩

theorem trims_neg2 (a0 : Int) (l1 : -32768 ≤ a0) (l2 : a0 < -128) (w : World) :
    Calls Try.prog 4 #[.int .i64 a0] w fun e w' => e = .returned (.bool true) ∧ Grown w w' := by
  have hmk : ∀ w, (Instr.makeSlice 22 (.int .i64 8) (.int .i64 8)).run Try.prog w = .ok (.slice (some ⟨w.heap.size, 0, none⟩) 8 8) (w.alloc (.cells #[.int .u8 0, .int .u8 0, .int .u8 0, .int .u8 0, .int .u8 0, .int .u8 0, .int .u8 0, .int .u8 0] 5)) := fun _ => by kernel_rfl
  have r8 := red_in8 a0 (by omega) (by omega)
  have r7 := red_in7 a0 (by omega) (by omega)
  have r6 := red_in6 a0 (by omega) (by omega)
  have r5 := red_in5 a0 (by omega) (by omega)
  have r4 := red_in4 a0 (by omega) (by omega)
  have r3 := red_in3 a0 (by omega) (by omega)
  have r2 := red_neg2 a0 (by omega) (by omega)
  have HL : Hid (-32768 ≤ a0 ∧ a0 < -128) := ⟨l1, l2⟩
  clear l1 l2
  go_enter Try.func4, Try.ntmps4
  go_wp2
  refine wp_loop_rounds 9 ?_
  iterate 9 (rw [rounds_succ]; go_wp2)
  refine wp_loop_rounds 8 ?_
  rw [rounds_succ]; go_wp2_with (go_at_call 8; refine (lead8_0 _ _ _ _ _ _ _ _ _).mono ?_; rintro e w' ⟨rfl, rfl⟩)
  rw [rounds_succ]; go_wp2_with (go_at_call 8; refine (lead8_1 _ _ _ _ _ _ _ _ _).mono ?_; rintro e w' ⟨rfl, rfl⟩)
  rw [rounds_succ]; go_wp2_with (go_at_call 8; refine (lead8_2 _ _ _ _ _ _ _ _ _).mono ?_; rintro e w' ⟨rfl, rfl⟩)
  rw [rounds_succ]; go_wp2_with (go_at_call 8; refine (lead8_3 _ _ _ _ _ _ _ _ _).mono ?_; rintro e w' ⟨rfl, rfl⟩)
  rw [rounds_succ]; go_wp2_with (go_at_call 8; refine (lead8_4 _ _ _ _ _ _ _ _ _).mono ?_; rintro e w' ⟨rfl, rfl⟩)
  rw [rounds_succ]; go_wp2_with (go_at_call 8; refine (lead8_5 _ _ _ _ _ _ _ _ _).mono ?_; rintro e w' ⟨rfl, rfl⟩)
  rw [rounds_succ]; go_wp2_with (go_at_call 8; refine (lead8_6 _ _ _ _ _ _ _ _ _).mono ?_; rintro e w' ⟨rfl, rfl⟩)
  obtain ⟨l1, l2⟩ := HL.out
  refine wp_loop_rounds 8 ?_
  repeat (rw [rounds_succ]; go_wp2)
  go_ret
  exact ⟨rfl, by go_grown⟩

theorem trims_pos3 (a0 : Int) (l1 : 32768 ≤ a0) (l2 : a0 < 8388608) (w : World) :
    Calls Try.prog 4 #[.int .i64 a0] w fun e w' => e = .returned (.bool true) ∧ Grown w w' := by
  have hmk : ∀ w, (Instr.makeSlice 22 (.int .i64 8) (.int .i64 8)).run Try.prog w = .ok (.slice (some ⟨w.heap.size, 0, none⟩) 8 8) (w.alloc (.cells #[.int .u8 0, .int .u8 0, .int .u8 0, .int .u8 0, .int .u8 0, .int .u8 0, .int .u8 0, .int .u8 0] 5)) := fun _ => by kernel_rfl
  have r8 := red_in8 a0 (by omega) (by omega)
  have r7 := red_in7 a0 (by omega) (by omega)
  have r6 := red_in6 a0 (by omega) (by omega)
  have r5 := red_in5 a0 (by omega) (by omega)
  have r4 := red_in4 a0 (by omega) (by omega)
  have r3 := red_pos3 a0 (by omega) (by omega)
  have HL : Hid (32768 ≤ a0 ∧ a0 < 8388608) := ⟨l1, l2⟩
  clear l1 l2
  go_enter Try.func4, Try.ntmps4
  go_wp2
  refine wp_loop_rounds 9 ?_
  iterate 9 (rw [rounds_succ]; go_wp2)
  refine wp_loop_rounds 8 ?_
  rw [rounds_succ]; go_wp2_with (go_at_call 8; refine (lead8_0 _ _ _ _ _ _ _ _ _).mono ?_; rintro e w' ⟨rfl, rfl⟩)
  rw [rounds_succ]; go_wp2_with (go_at_call 8; refine (lead8_1 _ _ _ _ _ _ _ _ _).mono ?_; rintro e w' ⟨rfl, rfl⟩)
  rw [rounds_succ]; go_wp2_with (go_at_call 8; refine (lead8_2 _ _ _ _ _ _ _ _ _).mono ?_; rintro e w' ⟨rfl, rfl⟩)
  rw [rounds_succ]; go_wp2_with (go_at_call 8; refine (lead8_3 _ _ _ _ _ _ _ _ _).mono ?_; rintro e w' ⟨rfl, rfl⟩)
  rw [rounds_succ]; go_wp2_with (go_at_call 8; refine (lead8_4 _ _ _ _ _ _ _ _ _).mono ?_; rintro e w' ⟨rfl, rfl⟩)
  rw [rounds_succ]; go_wp2_with (go_at_call 8; refine (lead8_5 _ _ _ _ _ _ _ _ _).mono ?_; rintro e w' ⟨rfl, rfl⟩)
  obtain ⟨l1, l2⟩ := HL.out
  refine wp_loop_rounds 8 ?_
  repeat (rw [rounds_succ]; go_wp2)
  go_ret
  exact ⟨rfl, by go_grown⟩

theorem trims_neg3 (a0 : Int) (l1 : -8388608 ≤ a0) (l2 : a0 < -32768) (w : World) :
    Calls Try.prog 4 #[.int .i64 a0] w fun e w' => e = .returned (.bool true) ∧ Grown w w' := by
  have hmk : ∀ w, (Instr.makeSlice 22 (.int .i64 8) (.int .i64 8)).run Try.prog w = .ok (.slice (some ⟨w.heap.size, 0, none⟩) 8 8) (w.alloc (.cells #[.int .u8 0, .int .u8 0, .int .u8 0, .int .u8 0, .int .u8 0, .int .u8 0, .int .u8 0, .int .u8 0] 5)) := fun _ => by kernel_rfl
  have r8 := red_in8 a0 (by omega) (by omega)
  have r7 := red_in7 a0 (by omega) (by omega)
  have r6 := red_in6 a0 (by omega) (by omega)
  have r5 := red_in5 a0 (by omega) (by omega)
  have r4 := red_in4 a0 (by omega) (by omega)
  have r3 := red_neg3 a0 (by omega) (by omega)
  have HL : Hid (-8388608 ≤ a0 ∧ a0 < -32768) := ⟨l1, l2⟩
  clear l1 l2
  go_enter Try.func4, Try.ntmps4
  go_wp2
  refine wp_loop_rounds 9 ?_
  iterate 9 (rw [rounds_succ]; go_wp2)
  refine wp_loop_rounds 8 ?_
  rw [rounds_succ]; go_wp2_with (go_at_call 8; refine (lead8_0 _ _ _ _ _ _ _ _ _).mono ?_; rintro e w' ⟨rfl, rfl⟩)
  rw [rounds_succ]; go_wp2_with (go_at_call 8; refine (lead8_1 _ _ _ _ _ _ _ _ _).mono ?_; rintro e w' ⟨rfl, rfl⟩)
  rw [rounds_succ]; go_wp2_with (go_at_call 8; refine (lead8_2 _ _ _ _ _ _ _ _ _).mono ?_; rintro e w' ⟨rfl, rfl⟩)
  rw [rounds_succ]; go_wp2_with (go_at_call 8; refine (lead8_3 _ _ _ _ _ _ _ _ _).mono ?_; rintro e w' ⟨rfl, rfl⟩)
  rw [rounds_succ]; go_wp2_with (go_at_call 8; refine (lead8_4 _ _ _ _ _ _ _ _ _).mono ?_; rintro e w' ⟨rfl, rfl⟩)
  rw [rounds_succ]; go_wp2_with (go_at_call 8; refine (lead8_5 _ _ _ _ _ _ _ _ _).mono ?_; rintro e w' ⟨rfl, rfl⟩)
  obtain ⟨l1, l2⟩ := HL.out
  refine wp_loop_rounds 8 ?_
  repeat (rw [rounds_succ]; go_wp2)
  go_ret
  exact ⟨rfl, by go_grown⟩

theorem trims_pos4 (a0 : Int) (l1 : 8388608 ≤ a0) (l2 : a0 < 2147483648) (w : World) :
    Calls Try.prog 4 #[.int .i64 a0] w fun e w' => e = .returned (.bool true) ∧ Grown w w' := by
  have hmk : ∀ w, (Instr.makeSlice 22 (.int .i64 8) (.int .i64 8)).run Try.prog w = .ok (.slice (some ⟨w.heap.size, 0, none⟩) 8 8) (w.alloc (.cells #[.int .u8 0, .int .u8 0, .int .u8 0, .int .u8 0, .int .u8 0, .int .u8 0, .int .u8 0, .int .u8 0] 5)) := fun _ => by kernel_rfl
  have r8 := red_in8 a0 (by omega) (by omega)
  have r7 := red_in7 a0 (by omega) (by omega)
  have r6 := red_in6 a0 (by omega) (by omega)
  have r5 := red_in5 a0 (by omega) (by omega)
  have r4 := red_pos4 a0 (by omega) (by omega)
  have HL : Hid (8388608 ≤ a0 ∧ a0 < 2147483648) := ⟨l1, l2⟩
  clear l1 l2
  go_enter Try.func4, Try.ntmps4
  go_wp2
  refine wp_loop_rounds 9 ?_
  iterate 9 (rw [rounds_succ]; go_wp2)
  refine wp_loop_rounds 8 ?_
  rw [rounds_succ]; go_wp2_with (go_at_call 8; refine (lead8_0 _ _ _ _ _ _ _ _ _).mono ?_; rintro e w' ⟨rfl, rfl⟩)
  rw [rounds_succ]; go_wp2_with (go_at_call 8; refine (lead8_1 _ _ _ _ _ _ _ _ _).mono ?_; rintro e w' ⟨rfl, rfl⟩)
  rw [rounds_succ]; go_wp2_with (go_at_call 8; refine (lead8_2 _ _ _ _ _ _ _ _ _).mono ?_; rintro e w' ⟨rfl, rfl⟩)
  rw [rounds_succ]; go_wp2_with (go_at_call 8; refine (lead8_3 _ _ _ _ _ _ _ _ _).mono ?_; rintro e w' ⟨rfl, rfl⟩)
  rw [rounds_succ]; go_wp2_with (go_at_call 8; refine (lead8_4 _ _ _ _ _ _ _ _ _).mono ?_; rintro e w' ⟨rfl, rfl⟩)
  obtain ⟨l1, l2⟩ := HL.out
  refine wp_loop_rounds 8 ?_
  repeat (rw [rounds_succ]; go_wp2)
  go_ret
  exact ⟨rfl, by go_grown⟩

theorem trims_neg4 (a0 : Int) (l1 : -2147483648 ≤ a0) (l2 : a0 < -8388608) (w : World) :
    Calls Try.prog 4 #[.int .i64 a0] w fun e w' => e = .returned (.bool true) ∧ Grown w w' := by
  have hmk : ∀ w, (Instr.makeSlice 22 (.int .i64 8) (.int .i64 8)).run Try.prog w = .ok (.slice (some ⟨w.heap.size, 0, none⟩) 8 8) (w.alloc (.cells #[.int .u8 0, .int .u8 0, .int .u8 0, .int .u8 0, .int .u8 0, .int .u8 0, .int .u8 0, .int .u8 0] 5)) := fun _ => by kernel_rfl
  have r8 := red_in8 a0 (by omega) (by omega)
  have r7 := red_in7 a0 (by omega) (by omega)
  have r6 := red_in6 a0 (by omega) (by omega)
  have r5 := red_in5 a0 (by omega) (by omega)
  have r4 := red_neg4 a0 (by omega) (by omega)
  have HL : Hid (-2147483648 ≤ a0 ∧ a0 < -8388608) := ⟨l1, l2⟩
  clear l1 l2
  go_enter Try.func4, Try.ntmps4
  go_wp2
  refine wp_loop_rounds 9 ?_
  iterate 9 (rw [rounds_succ]; go_wp2)
  refine wp_loop_rounds 8 ?_
  rw [rounds_succ]; go_wp2_with (go_at_call 8; refine (lead8_0 _ _ _ _ _ _ _ _ _).mono ?_; rintro e w' ⟨rfl, rfl⟩)
  rw [rounds_succ]; go_wp2_with (go_at_call 8; refine (lead8_1 _ _ _ _ _ _ _ _ _).mono ?_; rintro e w' ⟨rfl, rfl⟩)
  rw [rounds_succ]; go_wp2_with (go_at_call 8; refine (lead8_2 _ _ _ _ _ _ _ _ _).mono ?_; rintro e w' ⟨rfl, rfl⟩)
  rw [rounds_succ]; go_wp2_with (go_at_call 8; refine (lead8_3 _ _ _ _ _ _ _ _ _).mono ?_; rintro e w' ⟨rfl, rfl⟩)
  rw [rounds_succ]; go_wp2_with (go_at_call 8; refine (lead8_4 _ _ _ _ _ _ _ _ _).mono ?_; rintro e w' ⟨rfl, rfl⟩)
  obtain ⟨l1, l2⟩ := HL.out
  refine wp_loop_rounds 8 ?_
  repeat (rw [rounds_succ]; go_wp2)
  go_ret
  exact ⟨rfl, by go_grown⟩

theorem trims_pos5 (a0 : Int) (l1 : 2147483648 ≤ a0) (l2 : a0 < 549755813888) (w : World) :
    Calls Try.prog 4 #[.int .i64 a0] w fun e w' => e = .returned (.bool true) ∧ Grown w w' := by
  have hmk : ∀ w, (Instr.makeSlice 22 (.int .i64 8) (.int .i64 8)).run Try.prog w = .ok (.slice (some ⟨w.heap.size, 0, none⟩) 8 8) (w.alloc (.cells #[.int .u8 0, .int .u8 0, .int .u8 0, .int .u8 0, .int .u8 0, .int .u8 0, .int .u8 0, .int .u8 0] 5)) := fun _ => by kernel_rfl
  have r8 := red_in8 a0 (by omega) (by omega)
  have r7 := red_in7 a0 (by omega) (by omega)
  have r6 := red_in6 a0 (by omega) (by omega)
  have r5 := red_pos5 a0 (by omega) (by omega)
  have HL : Hid (2147483648 ≤ a0 ∧ a0 < 549755813888) := ⟨l1, l2⟩
  clear l1 l2
  go_enter Try.func4, Try.ntmps4
  go_wp2
  refine wp_loop_rounds 9 ?_
  iterate 9 (rw [rounds_succ]; go_wp2)
  refine wp_loop_rounds 8 ?_
  rw [rounds_succ]; go_wp2_with (go_at_call 8; refine (lead8_0 _ _ _ _ _ _ _ _ _).mono ?_; rintro e w' ⟨rfl, rfl⟩)
  rw [rounds_succ]; go_wp2_with (go_at_call 8; refine (lead8_1 _ _ _ _ _ _ _ _ _).mono ?_; rintro e w' ⟨rfl, rfl⟩)
  rw [rounds_succ]; go_wp2_with (go_at_call 8; refine (lead8_2 _ _ _ _ _ _ _ _ _).mono ?_; rintro e w' ⟨rfl, rfl⟩)
  rw [rounds_succ]; go_wp2_with (go_at_call 8; refine (lead8_3 _ _ _ _ _ _ _ _ _).mono ?_; rintro e w' ⟨rfl, rfl⟩)
  obtain ⟨l1, l2⟩ := HL.out
  refine wp_loop_rounds 8 ?_
  repeat (rw [rounds_succ]; go_wp2)
  go_ret
  exact ⟨rfl, by go_grown⟩

theorem trims_neg5 (a0 : Int) (l1 : -549755813888 ≤ a0) (l2 : a0 < -2147483648) (w : World) :
    Calls Try.prog 4 #[.int .i64 a0] w fun e w' => e = .returned (.bool true) ∧ Grown w w' := by
  have hmk : ∀ w, (Instr.makeSlice 22 (.int .i64 8) (.int .i64 8)).run Try.prog w = .ok (.slice (some ⟨w.heap.size, 0, none⟩) 8 8) (w.alloc (.cells #[.int .u8 0, .int .u8 0, .int .u8 0, .int .u8 0, .int .u8 0, .int .u8 0, .int .u8 0, .int .u8 0] 5)) := fun _ => by kernel_rfl
  have r8 := red_in8 a0 (by omega) (by omega)
  have r7 := red_in7 a0 (by omega) (by omega)
  have r6 := red_in6 a0 (by omega) (by omega)
  have r5 := red_neg5 a0 (by omega) (by omega)
  have HL : Hid (-549755813888 ≤ a0 ∧ a0 < -2147483648) := ⟨l1, l2⟩
  clear l1 l2
  go_enter Try.func4, Try.ntmps4
  go_wp2
  refine wp_loop_rounds 9 ?_
  iterate 9 (rw [rounds_succ]; go_wp2)
  refine wp_loop_rounds 8 ?_
  rw [rounds_succ]; go_wp2_with (go_at_call 8; refine (lead8_0 _ _ _ _ _ _ _ _ _).mono ?_; rintro e w' ⟨rfl, rfl⟩)
  rw [rounds_succ]; go_wp2_with (go_at_call 8; refine (lead8_1 _ _ _ _ _ _ _ _ _).mono ?_; rintro e w' ⟨rfl, rfl⟩)
  rw [rounds_succ]; go_wp2_with (go_at_call 8; refine (lead8_2 _ _ _ _ _ _ _ _ _).mono ?_; rintro e w' ⟨rfl, rfl⟩)
  rw [rounds_succ]; go_wp2_with (go_at_call 8; refine (lead8_3 _ _ _ _ _ _ _ _ _).mono ?_; rintro e w' ⟨rfl, rfl⟩)
  obtain ⟨l1, l2⟩ := HL.out
  refine wp_loop_rounds 8 ?_
  repeat (rw [rounds_succ]; go_wp2)
  go_ret
  exact ⟨rfl, by go_grown⟩

theorem trims_pos6 (a0 : Int) (l1 : 549755813888 ≤ a0) (l2 : a0 < 140737488355328) (w : World) :
    Calls Try.prog 4 #[.int .i64 a0] w fun e w' => e = .returned (.bool true) ∧ Grown w w' := by
  have hmk : ∀ w, (Instr.makeSlice 22 (.int .i64 8) (.int .i64 8)).run Try.prog w = .ok (.slice (some ⟨w.heap.size, 0, none⟩) 8 8) (w.alloc (.cells #[.int .u8 0, .int .u8 0, .int .u8 0, .int .u8 0, .int .u8 0, .int .u8 0, .int .u8 0, .int .u8 0] 5)) := fun _ => by kernel_rfl
  have r8 := red_in8 a0 (by omega) (by omega)
  have r7 := red_in7 a0 (by omega) (by omega)
  have r6 := red_pos6 a0 (by omega) (by omega)
  have HL : Hid (549755813888 ≤ a0 ∧ a0 < 140737488355328) := ⟨l1, l2⟩
  clear l1 l2
  go_enter Try.func4, Try.ntmps4
  go_wp2
  refine wp_loop_rounds 9 ?_
  iterate 9 (rw [rounds_succ]; go_wp2)
  refine wp_loop_rounds 8 ?_
  rw [rounds_succ]; go_wp2_with (go_at_call 8; refine (lead8_0 _ _ _ _ _ _ _ _ _).mono ?_; rintro e w' ⟨rfl, rfl⟩)
  rw [rounds_succ]; go_wp2_with (go_at_call 8; refine (lead8_1 _ _ _ _ _ _ _ _ _).mono ?_; rintro e w' ⟨rfl, rfl⟩)
  rw [rounds_succ]; go_wp2_with (go_at_call 8; refine (lead8_2 _ _ _ _ _ _ _ _ _).mono ?_; rintro e w' ⟨rfl, rfl⟩)
  obtain ⟨l1, l2⟩ := HL.out
  refine wp_loop_rounds 8 ?_
  repeat (rw [rounds_succ]; go_wp2)
  go_ret
  exact ⟨rfl, by go_grown⟩

theorem trims_neg6 (a0 : Int) (l1 : -140737488355328 ≤ a0) (l2 : a0 < -549755813888) (w : World) :
    Calls Try.prog 4 #[.int .i64 a0] w fun e w' => e = .returned (.bool true) ∧ Grown w w' := by
  have hmk : ∀ w, (Instr.makeSlice 22 (.int .i64 8) (.int .i64 8)).run Try.prog w = .ok (.slice (some ⟨w.heap.size, 0, none⟩) 8 8) (w.alloc (.cells #[.int .u8 0, .int .u8 0, .int .u8 0, .int .u8 0, .int .u8 0, .int .u8 0, .int .u8 0, .int .u8 0] 5)) := fun _ => by kernel_rfl
  have r8 := red_in8 a0 (by omega) (by omega)
  have r7 := red_in7 a0 (by omega) (by omega)
  have r6 := red_neg6 a0 (by omega) (by omega)
  have HL : Hid (-140737488355328 ≤ a0 ∧ a0 < -549755813888) := ⟨l1, l2⟩
  clear l1 l2
  go_enter Try.func4, Try.ntmps4
  go_wp2
  refine wp_loop_rounds 9 ?_
  iterate 9 (rw [rounds_succ]; go_wp2)
  refine wp_loop_rounds 8 ?_
  rw [rounds_succ]; go_wp2_with (go_at_call 8; refine (lead8_0 _ _ _ _ _ _ _ _ _).mono ?_; rintro e w' ⟨rfl, rfl⟩)
  rw [rounds_succ]; go_wp2_with (go_at_call 8; refine (lead8_1 _ _ _ _ _ _ _ _ _).mono ?_; rintro e w' ⟨rfl, rfl⟩)
  rw [rounds_succ]; go_wp2_with (go_at_call 8; refine (lead8_2 _ _ _ _ _ _ _ _ _).mono ?_; rintro e w' ⟨rfl, rfl⟩)
  obtain ⟨l1, l2⟩ := HL.out
  refine wp_loop_rounds 8 ?_
  repeat (rw [rounds_succ]; go_wp2)
  go_ret
  exact ⟨rfl, by go_grown⟩

theorem trims_pos7 (a0 : Int) (l1 : 140737488355328 ≤ a0) (l2 : a0 < 36028797018963968) (w : World) :
    Calls Try.prog 4 #[.int .i64 a0] w fun e w' => e = .returned (.bool true) ∧ Grown w w' := by
  have hmk : ∀ w, (Instr.makeSlice 22 (.int .i64 8) (.int .i64 8)).run Try.prog w = .ok (.slice (some ⟨w.heap.size, 0, none⟩) 8 8) (w.alloc (.cells #[.int .u8 0, .int .u8 0, .int .u8 0, .int .u8 0, .int .u8 0, .int .u8 0, .int .u8 0, .int .u8 0] 5)) := fun _ => by kernel_rfl
  have r8 := red_in8 a0 (by omega) (by omega)
  have r7 := red_pos7 a0 (by omega) (by omega)
  have HL : Hid (140737488355328 ≤ a0 ∧ a0 < 36028797018963968) := ⟨l1, l2⟩
  clear l1 l2
  go_enter Try.func4, Try.ntmps4
  go_wp2
  refine wp_loop_rounds 9 ?_
  iterate 9 (rw [rounds_succ]; go_wp2)
  refine wp_loop_rounds 8 ?_
  rw [rounds_succ]; go_wp2_with (go_at_call 8; refine (lead8_0 _ _ _ _ _ _ _ _ _).mono ?_; rintro e w' ⟨rfl, rfl⟩)
  rw [rounds_succ]; go_wp2_with (go_at_call 8; refine (lead8_1 _ _ _ _ _ _ _ _ _).mono ?_; rintro e w' ⟨rfl, rfl⟩)
  obtain ⟨l1, l2⟩ := HL.out
  refine wp_loop_rounds 8 ?_
  repeat (rw [rounds_succ]; go_wp2)
  go_ret
  exact ⟨rfl, by go_grown⟩

theorem trims_neg7 (a0 : Int) (l1 : -36028797018963968 ≤ a0) (l2 : a0 < -140737488355328) (w : World) :
    Calls Try.prog 4 #[.int .i64 a0] w fun e w' => e = .returned (.bool true) ∧ Grown w w' := by
  have hmk : ∀ w, (Instr.makeSlice 22 (.int .i64 8) (.int .i64 8)).run Try.prog w = .ok (.slice (some ⟨w.heap.size, 0, none⟩) 8 8) (w.alloc (.cells #[.int .u8 0, .int .u8 0, .int .u8 0, .int .u8 0, .int .u8 0, .int .u8 0, .int .u8 0, .int .u8 0] 5)) := fun _ => by kernel_rfl
  have r8 := red_in8 a0 (by omega) (by omega)
  have r7 := red_neg7 a0 (by omega) (by omega)
  have HL : Hid (-36028797018963968 ≤ a0 ∧ a0 < -140737488355328) := ⟨l1, l2⟩
  clear l1 l2
  go_enter Try.func4, Try.ntmps4
  go_wp2
  refine wp_loop_rounds 9 ?_
  iterate 9 (rw [rounds_succ]; go_wp2)
  refine wp_loop_rounds 8 ?_
  rw [rounds_succ]; go_wp2_with (go_at_call 8; refine (lead8_0 _ _ _ _ _ _ _ _ _).mono ?_; rintro e w' ⟨rfl, rfl⟩)
  rw [rounds_succ]; go_wp2_with (go_at_call 8; refine (lead8_1 _ _ _ _ _ _ _ _ _).mono ?_; rintro e w' ⟨rfl, rfl⟩)
  obtain ⟨l1, l2⟩ := HL.out
  refine wp_loop_rounds 8 ?_
  repeat (rw [rounds_succ]; go_wp2)
  go_ret
  exact ⟨rfl, by go_grown⟩

theorem trims_pos8 (a0 : Int) (l1 : 36028797018963968 ≤ a0) (l2 : a0 < 9223372036854775808) (w : World) :
    Calls Try.prog 4 #[.int .i64 a0] w fun e w' => e = .returned (.bool true) ∧ Grown w w' := by
  have hmk : ∀ w, (Instr.makeSlice 22 (.int .i64 8) (.int .i64 8)).run Try.prog w = .ok (.slice (some ⟨w.heap.size, 0, none⟩) 8 8) (w.alloc (.cells #[.int .u8 0, .int .u8 0, .int .u8 0, .int .u8 0, .int .u8 0, .int .u8 0, .int .u8 0, .int .u8 0] 5)) := fun _ => by kernel_rfl
  have r8 := red_pos8 a0 (by omega) (by omega)
  have HL : Hid (36028797018963968 ≤ a0 ∧ a0 < 9223372036854775808) := ⟨l1, l2⟩
  clear l1 l2
  go_enter Try.func4, Try.ntmps4
  go_wp2
  refine wp_loop_rounds 9 ?_
  iterate 9 (rw [rounds_succ]; go_wp2)
  refine wp_loop_rounds 8 ?_
  rw [rounds_succ]; go_wp2_with (go_at_call 8; refine (lead8_0 _ _ _ _ _ _ _ _ _).mono ?_; rintro e w' ⟨rfl, rfl⟩)
  obtain ⟨l1, l2⟩ := HL.out
  refine wp_loop_rounds 8 ?_
  repeat (rw [rounds_succ]; go_wp2)
  go_ret
  exact ⟨rfl, by go_grown⟩

theorem trims_neg8 (a0 : Int) (l1 : -9223372036854775808 ≤ a0) (l2 : a0 < -36028797018963968) (w : World) :
    Calls Try.prog 4 #[.int .i64 a0] w fun e w' => e = .returned (.bool true) ∧ Grown w w' := by
  have hmk : ∀ w, (Instr.makeSlice 22 (.int .i64 8) (.int .i64 8)).run Try.prog w = .ok (.slice (some ⟨w.heap.size, 0, none⟩) 8 8) (w.alloc (.cells #[.int .u8 0, .int .u8 0, .int .u8 0, .int .u8 0, .int .u8 0, .int .u8 0, .int .u8 0, .int .u8 0] 5)) := fun _ => by kernel_rfl
  have r8 := red_neg8 a0 (by omega) (by omega)
  have HL : Hid (-9223372036854775808 ≤ a0 ∧ a0 < -36028797018963968) := ⟨l1, l2⟩
  clear l1 l2
  go_enter Try.func4, Try.ntmps4
  go_wp2
  refine wp_loop_rounds 9 ?_
  iterate 9 (rw [rounds_succ]; go_wp2)
  refine wp_loop_rounds 8 ?_
  rw [rounds_succ]; go_wp2_with (go_at_call 8; refine (lead8_0 _ _ _ _ _ _ _ _ _).mono ?_; rintro e w' ⟨rfl, rfl⟩)
  obtain ⟨l1, l2⟩ := HL.out
  refine wp_loop_rounds 8 ?_
  repeat (rw [rounds_succ]; go_wp2)
  go_ret
  exact ⟨rfl, by go_grown⟩

theorem trims (a0 : Int) (h1 : -9223372036854775808 ≤ a0) (h2 : a0 < 9223372036854775808) (w : World) :
    Calls Try.prog 4 #[.int .i64 a0] w fun e w' => e = .returned (.bool true) ∧ Grown w w' := by
  by_cases c : -128 ≤ a0 ∧ a0 < 128
  · exact trims_one a0 c.1 c.2 w
  by_cases c2 : 128 ≤ a0 ∧ a0 < 32768
  · exact trims_pos2 a0 c2.1 c2.2 w
  by_cases d2 : -32768 ≤ a0 ∧ a0 < -128
  · exact trims_neg2 a0 d2.1 d2.2 w
  by_cases c3 : 32768 ≤ a0 ∧ a0 < 8388608
  · exact trims_pos3 a0 c3.1 c3.2 w
  by_cases d3 : -8388608 ≤ a0 ∧ a0 < -32768
  · exact trims_neg3 a0 d3.1 d3.2 w
  by_cases c4 : 8388608 ≤ a0 ∧ a0 < 2147483648
  · exact trims_pos4 a0 c4.1 c4.2 w
  by_cases d4 : -2147483648 ≤ a0 ∧ a0 < -8388608
  · exact trims_neg4 a0 d4.1 d4.2 w
  by_cases c5 : 2147483648 ≤ a0 ∧ a0 < 549755813888
  · exact trims_pos5 a0 c5.1 c5.2 w
  by_cases d5 : -549755813888 ≤ a0 ∧ a0 < -2147483648
  · exact trims_neg5 a0 d5.1 d5.2 w
  by_cases c6 : 549755813888 ≤ a0 ∧ a0 < 140737488355328
  · exact trims_pos6 a0 c6.1 c6.2 w
  by_cases d6 : -140737488355328 ≤ a0 ∧ a0 < -549755813888
  · exact trims_neg6 a0 d6.1 d6.2 w
  by_cases c7 : 140737488355328 ≤ a0 ∧ a0 < 36028797018963968
  · exact trims_pos7 a0 c7.1 c7.2 w
  by_cases d7 : -36028797018963968 ≤ a0 ∧ a0 < -140737488355328
  · exact trims_neg7 a0 d7.1 d7.2 w
  by_cases c8 : 36028797018963968 ≤ a0 ∧ a0 < 9223372036854775808
  · exact trims_pos8 a0 c8.1 c8.2 w
  exact trims_neg8 a0 (by omega) (by omega) w
end Go.Proofs.Qxb6614464a
