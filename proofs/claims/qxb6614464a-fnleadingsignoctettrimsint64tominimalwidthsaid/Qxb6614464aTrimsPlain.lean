/- The plain laws of the trimming of an int64 (no walk). -/
import Derived.Test.Qxb6614464aLead
namespace Go.Proofs.Qxb6614464a
open Go.ChangeShapes Go.WideShapes Go.ChangeAt Go.RowKit

theorem red_in2 (v : Int) (h1 : -128 ≤ v) (h2 : v < 128) : red (IntKind.u64.wrap v / 256 % 256) (IntKind.u64.wrap v % 256) = true := by
  simp only [red, IntKind.wrap_u64, Bool.or_eq_true, Bool.and_eq_true, beq_iff_eq, decide_eq_true_eq]
  omega
theorem red_pos2 (v : Int) (h1 : 128 ≤ v) (h2 : v < 32768) : red (IntKind.u64.wrap v / 256 % 256) (IntKind.u64.wrap v % 256) = false := by
  rw [Bool.eq_false_iff]
  simp only [red, IntKind.wrap_u64, Bool.or_eq_true, Bool.and_eq_true, beq_iff_eq, decide_eq_true_eq, ne_eq]
  omega
theorem red_neg2 (v : Int) (h1 : v < -128) (h2 : -32768 ≤ v) : red (IntKind.u64.wrap v / 256 % 256) (IntKind.u64.wrap v % 256) = false := by
  rw [Bool.eq_false_iff]
  simp only [red, IntKind.wrap_u64, Bool.or_eq_true, Bool.and_eq_true, beq_iff_eq, decide_eq_true_eq, ne_eq]
  omega
theorem red_in3 (v : Int) (h1 : -32768 ≤ v) (h2 : v < 32768) : red (IntKind.u64.wrap v / 65536 % 256) (IntKind.u64.wrap v / 256 % 256) = true := by
  simp only [red, IntKind.wrap_u64, Bool.or_eq_true, Bool.and_eq_true, beq_iff_eq, decide_eq_true_eq]
  omega
theorem red_pos3 (v : Int) (h1 : 32768 ≤ v) (h2 : v < 8388608) : red (IntKind.u64.wrap v / 65536 % 256) (IntKind.u64.wrap v / 256 % 256) = false := by
  rw [Bool.eq_false_iff]
  simp only [red, IntKind.wrap_u64, Bool.or_eq_true, Bool.and_eq_true, beq_iff_eq, decide_eq_true_eq, ne_eq]
  omega
theorem red_neg3 (v : Int) (h1 : v < -32768) (h2 : -8388608 ≤ v) : red (IntKind.u64.wrap v / 65536 % 256) (IntKind.u64.wrap v / 256 % 256) = false := by
  rw [Bool.eq_false_iff]
  simp only [red, IntKind.wrap_u64, Bool.or_eq_true, Bool.and_eq_true, beq_iff_eq, decide_eq_true_eq, ne_eq]
  omega
theorem red_in4 (v : Int) (h1 : -8388608 ≤ v) (h2 : v < 8388608) : red (IntKind.u64.wrap v / 16777216 % 256) (IntKind.u64.wrap v / 65536 % 256) = true := by
  simp only [red, IntKind.wrap_u64, Bool.or_eq_true, Bool.and_eq_true, beq_iff_eq, decide_eq_true_eq]
  omega
theorem red_pos4 (v : Int) (h1 : 8388608 ≤ v) (h2 : v < 2147483648) : red (IntKind.u64.wrap v / 16777216 % 256) (IntKind.u64.wrap v / 65536 % 256) = false := by
  rw [Bool.eq_false_iff]
  simp only [red, IntKind.wrap_u64, Bool.or_eq_true, Bool.and_eq_true, beq_iff_eq, decide_eq_true_eq, ne_eq]
  omega
theorem red_neg4 (v : Int) (h1 : v < -8388608) (h2 : -2147483648 ≤ v) : red (IntKind.u64.wrap v / 16777216 % 256) (IntKind.u64.wrap v / 65536 % 256) = false := by
  rw [Bool.eq_false_iff]
  simp only [red, IntKind.wrap_u64, Bool.or_eq_true, Bool.and_eq_true, beq_iff_eq, decide_eq_true_eq, ne_eq]
  omega
theorem red_in5 (v : Int) (h1 : -2147483648 ≤ v) (h2 : v < 2147483648) : red (IntKind.u64.wrap v / 4294967296 % 256) (IntKind.u64.wrap v / 16777216 % 256) = true := by
  simp only [red, IntKind.wrap_u64, Bool.or_eq_true, Bool.and_eq_true, beq_iff_eq, decide_eq_true_eq]
  omega
theorem red_pos5 (v : Int) (h1 : 2147483648 ≤ v) (h2 : v < 549755813888) : red (IntKind.u64.wrap v / 4294967296 % 256) (IntKind.u64.wrap v / 16777216 % 256) = false := by
  rw [Bool.eq_false_iff]
  simp only [red, IntKind.wrap_u64, Bool.or_eq_true, Bool.and_eq_true, beq_iff_eq, decide_eq_true_eq, ne_eq]
  omega
theorem red_neg5 (v : Int) (h1 : v < -2147483648) (h2 : -549755813888 ≤ v) : red (IntKind.u64.wrap v / 4294967296 % 256) (IntKind.u64.wrap v / 16777216 % 256) = false := by
  rw [Bool.eq_false_iff]
  simp only [red, IntKind.wrap_u64, Bool.or_eq_true, Bool.and_eq_true, beq_iff_eq, decide_eq_true_eq, ne_eq]
  omega
theorem red_in6 (v : Int) (h1 : -549755813888 ≤ v) (h2 : v < 549755813888) : red (IntKind.u64.wrap v / 1099511627776 % 256) (IntKind.u64.wrap v / 4294967296 % 256) = true := by
  simp only [red, IntKind.wrap_u64, Bool.or_eq_true, Bool.and_eq_true, beq_iff_eq, decide_eq_true_eq]
  omega
theorem red_pos6 (v : Int) (h1 : 549755813888 ≤ v) (h2 : v < 140737488355328) : red (IntKind.u64.wrap v / 1099511627776 % 256) (IntKind.u64.wrap v / 4294967296 % 256) = false := by
  rw [Bool.eq_false_iff]
  simp only [red, IntKind.wrap_u64, Bool.or_eq_true, Bool.and_eq_true, beq_iff_eq, decide_eq_true_eq, ne_eq]
  omega
theorem red_neg6 (v : Int) (h1 : v < -549755813888) (h2 : -140737488355328 ≤ v) : red (IntKind.u64.wrap v / 1099511627776 % 256) (IntKind.u64.wrap v / 4294967296 % 256) = false := by
  rw [Bool.eq_false_iff]
  simp only [red, IntKind.wrap_u64, Bool.or_eq_true, Bool.and_eq_true, beq_iff_eq, decide_eq_true_eq, ne_eq]
  omega
theorem red_in7 (v : Int) (h1 : -140737488355328 ≤ v) (h2 : v < 140737488355328) : red (IntKind.u64.wrap v / 281474976710656 % 256) (IntKind.u64.wrap v / 1099511627776 % 256) = true := by
  simp only [red, IntKind.wrap_u64, Bool.or_eq_true, Bool.and_eq_true, beq_iff_eq, decide_eq_true_eq]
  omega
theorem red_pos7 (v : Int) (h1 : 140737488355328 ≤ v) (h2 : v < 36028797018963968) : red (IntKind.u64.wrap v / 281474976710656 % 256) (IntKind.u64.wrap v / 1099511627776 % 256) = false := by
  rw [Bool.eq_false_iff]
  simp only [red, IntKind.wrap_u64, Bool.or_eq_true, Bool.and_eq_true, beq_iff_eq, decide_eq_true_eq, ne_eq]
  omega
theorem red_neg7 (v : Int) (h1 : v < -140737488355328) (h2 : -36028797018963968 ≤ v) : red (IntKind.u64.wrap v / 281474976710656 % 256) (IntKind.u64.wrap v / 1099511627776 % 256) = false := by
  rw [Bool.eq_false_iff]
  simp only [red, IntKind.wrap_u64, Bool.or_eq_true, Bool.and_eq_true, beq_iff_eq, decide_eq_true_eq, ne_eq]
  omega
theorem red_in8 (v : Int) (h1 : -36028797018963968 ≤ v) (h2 : v < 36028797018963968) : red (IntKind.u64.wrap v / 72057594037927936 % 256) (IntKind.u64.wrap v / 281474976710656 % 256) = true := by
  simp only [red, IntKind.wrap_u64, Bool.or_eq_true, Bool.and_eq_true, beq_iff_eq, decide_eq_true_eq]
  omega
theorem red_pos8 (v : Int) (h1 : 36028797018963968 ≤ v) (h2 : v < 9223372036854775808) : red (IntKind.u64.wrap v / 72057594037927936 % 256) (IntKind.u64.wrap v / 281474976710656 % 256) = false := by
  rw [Bool.eq_false_iff]
  simp only [red, IntKind.wrap_u64, Bool.or_eq_true, Bool.and_eq_true, beq_iff_eq, decide_eq_true_eq, ne_eq]
  omega
theorem red_neg8 (v : Int) (h1 : v < -36028797018963968) (h2 : -9223372036854775808 ≤ v) : red (IntKind.u64.wrap v / 72057594037927936 % 256) (IntKind.u64.wrap v / 281474976710656 % 256) = false := by
  rw [Bool.eq_false_iff]
  simp only [red, IntKind.wrap_u64, Bool.or_eq_true, Bool.and_eq_true, beq_iff_eq, decide_eq_true_eq, ne_eq]
  omega
theorem lead8_0 (x0 x1 x2 x3 x4 x5 x6 x7 : Int) (w : World) :
    Calls Try.prog 8 #[.slice (some ⟨w.heap.size, 0, none⟩) 8 8] (w.alloc (.cells #[.int .u8 x0, .int .u8 x1, .int .u8 x2, .int .u8 x3, .int .u8 x4, .int .u8 x5, .int .u8 x6, .int .u8 x7] 5)) fun e w' => e = .returned (.bool (red x0 x1)) ∧ w' = w.alloc (.cells #[.int .u8 x0, .int .u8 x1, .int .u8 x2, .int .u8 x3, .int .u8 x4, .int .u8 x5, .int .u8 x6, .int .u8 x7] 5) :=
  lead_any w.heap.size 0 8 8 x0 x1 _ (by omega) (by unfold maxLen; omega) (by simp) (by simp)
theorem lead8_1 (x0 x1 x2 x3 x4 x5 x6 x7 : Int) (w : World) :
    Calls Try.prog 8 #[.slice (some ⟨w.heap.size, 1, none⟩) 7 7] (w.alloc (.cells #[.int .u8 x0, .int .u8 x1, .int .u8 x2, .int .u8 x3, .int .u8 x4, .int .u8 x5, .int .u8 x6, .int .u8 x7] 5)) fun e w' => e = .returned (.bool (red x1 x2)) ∧ w' = w.alloc (.cells #[.int .u8 x0, .int .u8 x1, .int .u8 x2, .int .u8 x3, .int .u8 x4, .int .u8 x5, .int .u8 x6, .int .u8 x7] 5) :=
  lead_any w.heap.size 1 7 7 x1 x2 _ (by omega) (by unfold maxLen; omega) (by simp) (by simp)
theorem lead8_2 (x0 x1 x2 x3 x4 x5 x6 x7 : Int) (w : World) :
    Calls Try.prog 8 #[.slice (some ⟨w.heap.size, 2, none⟩) 6 6] (w.alloc (.cells #[.int .u8 x0, .int .u8 x1, .int .u8 x2, .int .u8 x3, .int .u8 x4, .int .u8 x5, .int .u8 x6, .int .u8 x7] 5)) fun e w' => e = .returned (.bool (red x2 x3)) ∧ w' = w.alloc (.cells #[.int .u8 x0, .int .u8 x1, .int .u8 x2, .int .u8 x3, .int .u8 x4, .int .u8 x5, .int .u8 x6, .int .u8 x7] 5) :=
  lead_any w.heap.size 2 6 6 x2 x3 _ (by omega) (by unfold maxLen; omega) (by simp) (by simp)
theorem lead8_3 (x0 x1 x2 x3 x4 x5 x6 x7 : Int) (w : World) :
    Calls Try.prog 8 #[.slice (some ⟨w.heap.size, 3, none⟩) 5 5] (w.alloc (.cells #[.int .u8 x0, .int .u8 x1, .int .u8 x2, .int .u8 x3, .int .u8 x4, .int .u8 x5, .int .u8 x6, .int .u8 x7] 5)) fun e w' => e = .returned (.bool (red x3 x4)) ∧ w' = w.alloc (.cells #[.int .u8 x0, .int .u8 x1, .int .u8 x2, .int .u8 x3, .int .u8 x4, .int .u8 x5, .int .u8 x6, .int .u8 x7] 5) :=
  lead_any w.heap.size 3 5 5 x3 x4 _ (by omega) (by unfold maxLen; omega) (by simp) (by simp)
theorem lead8_4 (x0 x1 x2 x3 x4 x5 x6 x7 : Int) (w : World) :
    Calls Try.prog 8 #[.slice (some ⟨w.heap.size, 4, none⟩) 4 4] (w.alloc (.cells #[.int .u8 x0, .int .u8 x1, .int .u8 x2, .int .u8 x3, .int .u8 x4, .int .u8 x5, .int .u8 x6, .int .u8 x7] 5)) fun e w' => e = .returned (.bool (red x4 x5)) ∧ w' = w.alloc (.cells #[.int .u8 x0, .int .u8 x1, .int .u8 x2, .int .u8 x3, .int .u8 x4, .int .u8 x5, .int .u8 x6, .int .u8 x7] 5) :=
  lead_any w.heap.size 4 4 4 x4 x5 _ (by omega) (by unfold maxLen; omega) (by simp) (by simp)
theorem lead8_5 (x0 x1 x2 x3 x4 x5 x6 x7 : Int) (w : World) :
    Calls Try.prog 8 #[.slice (some ⟨w.heap.size, 5, none⟩) 3 3] (w.alloc (.cells #[.int .u8 x0, .int .u8 x1, .int .u8 x2, .int .u8 x3, .int .u8 x4, .int .u8 x5, .int .u8 x6, .int .u8 x7] 5)) fun e w' => e = .returned (.bool (red x5 x6)) ∧ w' = w.alloc (.cells #[.int .u8 x0, .int .u8 x1, .int .u8 x2, .int .u8 x3, .int .u8 x4, .int .u8 x5, .int .u8 x6, .int .u8 x7] 5) :=
  lead_any w.heap.size 5 3 3 x5 x6 _ (by omega) (by unfold maxLen; omega) (by simp) (by simp)
theorem lead8_6 (x0 x1 x2 x3 x4 x5 x6 x7 : Int) (w : World) :
    Calls Try.prog 8 #[.slice (some ⟨w.heap.size, 6, none⟩) 2 2] (w.alloc (.cells #[.int .u8 x0, .int .u8 x1, .int .u8 x2, .int .u8 x3, .int .u8 x4, .int .u8 x5, .int .u8 x6, .int .u8 x7] 5)) fun e w' => e = .returned (.bool (red x6 x7)) ∧ w' = w.alloc (.cells #[.int .u8 x0, .int .u8 x1, .int .u8 x2, .int .u8 x3, .int .u8 x4, .int .u8 x5, .int .u8 x6, .int .u8 x7] 5) :=
  lead_any w.heap.size 6 2 2 x6 x7 _ (by omega) (by unfold maxLen; omega) (by simp) (by simp)
end Go.Proofs.Qxb6614464a
