/- The walks of the two laws over tsnLE (functions 3, 4; tsnLE: 7, 12). -/
import Derived.Test.Qxb6614666aProg
import Derived.WalkKit
import Derived.ProofKit
import Derived.OpenShut
import Derived.ShutString
import Derived.Outline
import Derived.Handy
namespace Go.Proofs.Qxb6614666a
open Go.ChangeShapes Go.WideShapes Go.ChangeAt Go.RowKit

theorem ret_bool {a b : Bool} (h : a = b) : Ending.returned (.bool a) = .returned (.bool b) := by rw [h]

/-- What tsnLE answers. Not to be laid open by the walk. -/
def leB (a b : Int) : Bool := decide (wrap32 ((a - b) % 4294967296) ≤ 0)

theorem leB_iff (a b : Int) (ha : 0 ≤ a) (ha' : a ≤ 4294967295) (hb : 0 ≤ b) (hb' : b ≤ 4294967295) : leB a b = true ↔ (a = b ∨ (a - b) % 4294967296 ≥ 2147483648) := by
  unfold leB wrap32
  rw [decide_eq_true_iff]
  omega

theorem tsnLE (a b : Int) (w : World) : Calls Try.prog 7 #[.int .u32 a, .int .u32 b] w fun e w' => e = .returned (.bool (leB a b)) ∧ w' = w := by
  go_enter Try.func7, Try.ntmps7
  go_wp2
  go_ret
  exact ⟨rfl, rfl⟩

/-- The four ways of the first law. -/
theorem total_ways (a b : Int) (ha : 0 ≤ a) (ha' : a ≤ 4294967295) (hb : 0 ≤ b) (hb' : b ≤ 4294967295) :
    (leB a b = true ∧ leB b a = true ∧ a = b) ∨ (leB a b = true ∧ leB b a = true ∧ (a == b) = false ∧ ((a - b) % 4294967296 == 2147483648) = true) ∨
    (leB a b = true ∧ leB b a = false ∧ (a == b) = false ∧ ((a - b) % 4294967296 == 2147483648) = false) ∨ (leB a b = false ∧ leB b a = true ∧ (a == b) = false ∧ ((a - b) % 4294967296 == 2147483648) = false) := by
  have h1 := leB_iff a b ha ha' hb hb'
  have h2 := leB_iff b a hb hb' ha ha'
  by_cases c1 : leB a b = true
  · by_cases c2 : leB b a = true
    · by_cases e : a = b
      · exact Or.inl ⟨c1, c2, e⟩
      · refine Or.inr (Or.inl ⟨c1, c2, by simpa using e, ?_⟩)
        have k1 := h1.1 c1
        have k2 := h2.1 c2
        rw [beq_iff_eq]; omega
    · refine Or.inr (Or.inr (Or.inl ⟨c1, by simpa using c2, ?_, ?_⟩))
      · rw [beq_eq_false_iff_ne]; intro e; exact c2 (h2.2 (Or.inl e.symm))
      · rw [beq_eq_false_iff_ne]; intro e; exact c2 (h2.2 (Or.inr (by omega)))
  · have c2 : leB b a = true := by
      refine h2.2 ?_
      have k1 : ¬ (a = b ∨ (a - b) % 4294967296 ≥ 2147483648) := fun h => c1 (h1.2 h)
      omega
    refine Or.inr (Or.inr (Or.inr ⟨by simpa using c1, c2, ?_, ?_⟩))
    · rw [beq_eq_false_iff_ne]; intro e; exact c1 (h1.2 (Or.inl e))
    · rw [beq_eq_false_iff_ne]; intro e; exact c1 (h1.2 (Or.inr (by omega)))

theorem total_walk (a b : Int) (ha : 0 ≤ a) (ha' : a ≤ 4294967295) (hb : 0 ≤ b) (hb' : b ≤ 4294967295) (w : World) :
    Calls Try.prog 3 #[.int .u32 a, .int .u32 b] w fun e w' => e = .returned (.bool true) ∧ Grown w w' := by
  rcases total_ways a b ha ha' hb hb' with ⟨c1, c2, rfl⟩ | ⟨c1, c2, c3, c4⟩ | ⟨c1, c2, c3, c4⟩ | ⟨c1, c2, c3, c4⟩
  all_goals
    clear ha ha' hb hb'
    go_enter Try.func3, Try.ntmps3
    go_wp2_with (go_at_call 7; refine (tsnLE _ _ _).mono ?_; rintro e w' ⟨rfl, rfl⟩)
    go_ret
    exact ⟨rfl, Grown.refl _⟩

/-- The second law, plain. -/
theorem shift_eq (a b k : Int) (ha : 0 ≤ a) (ha' : a ≤ 4294967295) (hb : 0 ≤ b) (hb' : b ≤ 4294967295) : leB ((a + k) % 4294967296) ((b + k) % 4294967296) = leB a b := by
  rw [Bool.eq_iff_iff, leB_iff _ _ (by omega) (by omega) (by omega) (by omega), leB_iff _ _ ha ha' hb hb']
  omega

theorem half_eq (a b : Int) (ha : 0 ≤ a) (ha' : a ≤ 4294967295) (hb : 0 ≤ b) (hb' : b ≤ 4294967295) : leB a b = decide ((b - a) % 4294967296 ≤ 2147483648) := by
  rw [Bool.eq_iff_iff, leB_iff _ _ ha ha' hb hb', decide_eq_true_iff]
  omega

theorem shift_walk (a b k : Int) (ha : 0 ≤ a) (ha' : a ≤ 4294967295) (hb : 0 ≤ b) (hb' : b ≤ 4294967295) (w : World) :
    Calls Try.prog 4 #[.int .u32 a, .int .u32 b, .int .u32 k] w fun e w' => e = .returned (.bool true) ∧ Grown w w' := by
  have h1 := shift_eq a b k ha ha' hb hb'
  have h2 := half_eq a b ha ha' hb hb'
  clear ha ha' hb hb'
  by_cases c : leB a b = true
  · have d : (b - a) % 4294967296 ≤ 2147483648 := by rw [c] at h2; exact of_decide_eq_true h2.symm
    rw [c] at h1
    clear h2
    go_enter Try.func4, Try.ntmps4
    go_wp2_with (go_at_call 7; refine (tsnLE _ _ _).mono ?_; rintro e w' ⟨rfl, rfl⟩)
    go_ret
    exact ⟨rfl, Grown.refl _⟩
  · have c' : leB a b = false := by simpa using c
    have d : ¬ (b - a) % 4294967296 ≤ 2147483648 := by rw [c'] at h2; exact of_decide_eq_false h2.symm
    rw [c'] at h1
    clear h2 c
    go_enter Try.func4, Try.ntmps4
    go_wp2_with (go_at_call 7; refine (tsnLE _ _ _).mono ?_; rintro e w' ⟨rfl, rfl⟩)
    go_ret
    exact ⟨ret_bool (by simp [d]), Grown.refl _⟩
end Go.Proofs.Qxb6614666a
