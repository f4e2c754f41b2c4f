/- The plain laws of 'sign octet is redundant' (no walk, no Go): lists of numbers. -/
import Derived.Below
namespace Go.Proofs.Qxb6614464a

def redB (c0 c1 : Int) : Bool := (c0 == 0 && decide (c1 < 128)) || (c0 == 255 && decide (128 ≤ c1))

def isByte (x : Int) : Prop := 0 ≤ x ∧ x ≤ 255

/-- The negation of a two's complement, octet by octet from the right: the octets, and the carry out. -/
def negC : List Int → List Int × Int
  | [] => ([], 1)
  | x :: xs => ((255 - x + (negC xs).2) % 256 :: (negC xs).1, (255 - x + (negC xs).2) / 256)

theorem negC_cons (x : Int) (xs : List Int) : negC (x :: xs) = ((255 - x + (negC xs).2) % 256 :: (negC xs).1, (255 - x + (negC xs).2) / 256) := rfl

theorem negC_length : ∀ xs : List Int, (negC xs).1.length = xs.length
  | [] => rfl
  | x :: xs => by simp [negC_cons, negC_length xs]

theorem negC_carry : ∀ xs : List Int, (∀ x ∈ xs, isByte x) → (negC xs).2 = 0 ∨ (negC xs).2 = 1
  | [], _ => Or.inr rfl
  | x :: xs, h => by
    have hx := h x (by simp)
    have := negC_carry xs (fun y hy => h y (by simp [hy]))
    unfold isByte at hx
    rw [negC_cons]
    show (255 - x + (negC xs).2) / 256 = 0 ∨ (255 - x + (negC xs).2) / 256 = 1
    omega

theorem negC_byte : ∀ xs : List Int, ∀ y ∈ (negC xs).1, isByte y
  | [], y, h => by simp [negC] at h
  | x :: xs, y, h => by
    rw [negC_cons] at h
    rcases List.mem_cons.1 h with rfl | h
    · unfold isByte; omega
    · exact negC_byte xs y h

/-- The magnitude, its leading zeros still there. -/
def magL (zs : List Int) : List Int := if zs.headD 0 < 128 then zs else (negC zs).1

theorem magL_length (zs : List Int) : (magL zs).length = zs.length := by
  unfold magL; split
  · rfl
  · exact negC_length zs

theorem magL_byte (zs : List Int) (h : ∀ x ∈ zs, isByte x) : ∀ x ∈ magL zs, isByte x := by
  unfold magL; split
  · exact h
  · exact negC_byte zs

/-- How many zeros lead. -/
def lz : List Int → Nat
  | [] => 0
  | x :: xs => if x = 0 then lz xs + 1 else 0

theorem lz_le : ∀ xs : List Int, lz xs ≤ xs.length
  | [] => Nat.le_refl _
  | x :: xs => by
    have := lz_le xs
    unfold lz; split
    · simpa using this
    · simp

theorem lz_zero : ∀ (xs : List Int) (k : Nat), k < lz xs → xs.getD k 0 = 0
  | [], k, h => by simp
  | x :: xs, k, h => by
    unfold lz at h
    split at h
    · rename_i hx
      cases k with
      | zero => simpa using hx
      | succ k => simpa using lz_zero xs k (by omega)
    · omega

theorem lz_stop : ∀ (xs : List Int), lz xs < xs.length → xs.getD (lz xs) 0 ≠ 0
  | [], h => by simp at h
  | x :: xs, h => by
    unfold lz at h ⊢
    by_cases hx : x = 0
    · rw [if_pos hx] at h ⊢
      simpa using lz_stop xs (by simpa using h)
    · rw [if_neg hx]
      simpa using hx

/-- A place behind which no zero leads, and ahead of which all are zeros, is the place. -/
theorem lz_of (xs : List Int) (k : Nat) (hk : k ≤ lz xs) (h : k < xs.length → xs.getD k 0 ≠ 0) : k = lz xs := by
  by_cases e : k = lz xs
  · exact e
  · have := lz_le xs
    exact absurd (lz_zero xs k (by omega)) (h (by omega))

theorem lz_step (xs : List Int) (k : Nat) (hk : k ≤ lz xs) (hl : k < xs.length) (h : xs.getD k 0 = 0) : k + 1 ≤ lz xs := by
  by_cases e : k = lz xs
  · subst e; exact absurd h (lz_stop xs hl)
  · omega

def strip (xs : List Int) : List Int := xs.drop (lz xs)

theorem strip_zero (xs : List Int) : strip (0 :: xs) = strip xs := by simp [strip, lz]
theorem strip_cons (x : Int) (xs : List Int) (h : x ≠ 0) : strip (x :: xs) = x :: xs := by simp [strip, lz, h]
theorem strip_length (xs : List Int) : (strip xs).length ≤ xs.length := by simp [strip]

theorem strip_eq (x : Int) (xs : List Int) : (strip (x :: xs) = strip xs) ↔ x = 0 := by
  constructor
  · intro h
    by_cases hx : x = 0
    · exact hx
    · rw [strip_cons x xs hx] at h
      have h1 := congrArg List.length h
      have := strip_length xs
      simp at h1
      omega
  · rintro rfl; exact strip_zero xs

/-- What 'zzSameInteger' answers. -/
def sameB (X Y : List Int) : Bool := decide ((128 ≤ X.headD 0 ↔ 128 ≤ Y.headD 0) ∧ strip (magL X) = strip (magL Y))

theorem sameB_iff (X Y : List Int) : sameB X Y = true ↔ ((128 ≤ X.headD 0 ↔ 128 ≤ Y.headD 0) ∧ strip (magL X) = strip (magL Y)) := decide_eq_true_iff
theorem redB_iff (c0 c1 : Int) : redB c0 c1 = true ↔ ((c0 = 0 ∧ c1 < 128) ∨ (c0 = 255 ∧ 128 ≤ c1)) := by simp [redB]

/-- THE LAW. -/
theorem red_same (c0 c1 : Int) (ys : List Int) (h0 : isByte c0) (h1 : isByte c1) (hy : ∀ y ∈ ys, isByte y) : sameB (c0 :: c1 :: ys) (c1 :: ys) = redB c0 c1 := by
  unfold isByte at h0 h1
  rw [Bool.eq_iff_iff, sameB_iff, redB_iff, List.headD_cons, List.headD_cons]
  by_cases a : c0 < 128
  · by_cases b : c1 < 128
    · have e1 : magL (c0 :: c1 :: ys) = c0 :: c1 :: ys := by simp [magL, a]
      have e2 : magL (c1 :: ys) = c1 :: ys := by simp [magL, b]
      rw [e1, e2, strip_eq]; omega
    · omega
  · by_cases b : c1 < 128
    · omega
    · have e1 : magL (c0 :: c1 :: ys) = (negC (c0 :: c1 :: ys)).1 := by simp [magL, a]
      have e2 : magL (c1 :: ys) = (negC (c1 :: ys)).1 := by simp [magL, b]
      have hc : (negC (c1 :: ys)).2 = 0 := by
        rw [negC_cons]
        have := negC_carry ys hy
        show (255 - c1 + (negC ys).2) / 256 = 0
        omega
      have e3 : (negC (c0 :: c1 :: ys)).1 = (255 - c0) :: (negC (c1 :: ys)).1 := by
        rw [negC_cons c0, hc]
        show (255 - c0 + 0) % 256 :: _ = _
        have : (255 - c0 + 0) % 256 = 255 - c0 := by omega
        rw [this]
      rw [e1, e2, e3, strip_eq]; omega
end Go.Proofs.Qxb6614464a
