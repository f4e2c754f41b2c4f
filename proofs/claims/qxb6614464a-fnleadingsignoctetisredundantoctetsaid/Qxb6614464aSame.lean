/- The contract of zzSameInteger (function 9). -/
import Derived.Test.Qxb6614464aMag
import Derived.Test.Qxb6614464aLead
import Derived.Deep.QuietTactic
import Derived.BigQuiet
import Derived.WalkSmall
namespace Go.Proofs.Qxb6614464a
open Go.ChangeShapes Go.WideShapes Go.ChangeAt Go.RowKit

theorem head_getD (zs : List Int) : zs.headD 0 = zs[0]?.getD 0 := by cases zs <;> simp

/-- A slice of octets that can be read: 'len' cells from '⟨b, off⟩' on hold 'zs'. -/
def Octets (w : World) (b off len : Nat) (zs : List Int) : Prop :=
  zs.length = len ∧ 1 ≤ len ∧ len ≤ 1048576 ∧ b < w.heap.size ∧ (∀ i, i < len → w.cell? ⟨b, off + i, none⟩ = some (.int .u8 (zs.getD i 0))) ∧ ∀ x, x ∈ zs → isByte x

theorem mag_any (b off len cap : Nat) (zs : List Int) (w : World) (h : Octets w b off len zs) :
    Calls Try.prog 17 #[.slice (some ⟨b, off, none⟩) len cap] w fun e w' => ∃ a, e = .returned (.slice a (len - lz (magL zs)) (len - lz (magL zs))) ∧ (lz (magL zs) < len → a = some ⟨w.heap.size, lz (magL zs), none⟩) ∧ w' = w.alloc (.cells (arrOf (magL zs)) 5) := by
  obtain ⟨h1, h2, h3, h4, h5, h6⟩ := h
  by_cases hp : zs[0]?.getD 0 < 128
  · have e : magL zs = zs := by unfold magL; rw [head_getD, if_pos hp]
    rw [e]
    exact mag_pos b off len cap zs w h1 h2 h3 h4 h5 hp
  · have e : magL zs = (negC zs).1 := by unfold magL; rw [head_getD, if_neg hp]
    exact mag_neg b off len cap zs w h1 h2 h3 h4 h5 h6 (by omega) (magL zs) e

theorem same_signs (b off len cap b' off' len' cap' : Nat) (X Y : List Int) (w : World) (hX : Octets w b off len X) (hY : Octets w b' off' len' Y)
    (hs : (!(decide ((128 : Int) ≤ X[0]?.getD 0) == decide ((128 : Int) ≤ Y[0]?.getD 0))) = true) :
    Calls Try.prog 9 #[.slice (some ⟨b, off, none⟩) len cap, .slice (some ⟨b', off', none⟩) len' cap'] w fun e w' => e = .returned (.bool false) ∧ Below w.heap.size w w' := by
  obtain ⟨h1, h2, h3, h4, h5, h6⟩ := hX
  obtain ⟨k1, k2, k3, k4, k5, k6⟩ := hY
  have hx0 : w.cell? ⟨b, off, none⟩ = some (.int .u8 (X[0]?.getD 0)) := by simpa using h5 0 (by omega)
  have hy0 : w.cell? ⟨b', off', none⟩ = some (.int .u8 (Y[0]?.getD 0)) := by simpa using k5 0 (by omega)
  have b1 : (0 : Int) < (len : Int) := by omega
  have b2 : (0 : Int) < (len' : Int) := by omega
  clear h5 k5 h6 k6 h1 k1
  go_enter Try.func9, Try.ntmps9
  go_wp2
  go_quiet (fail)
  go_wp2
  go_ret
  exact ⟨rfl, below_drewN (Below.refl _ _) _⟩

theorem Octets.below {w w' : World} {b off len : Nat} {zs : List Int} (h : Octets w b off len zs) (hb : Below w.heap.size w w') : Octets w' b off len zs := by
  obtain ⟨h1, h2, h3, h4, h5, h6⟩ := h
  exact ⟨h1, h2, h3, Nat.lt_of_lt_of_le h4 hb.size, fun i hi => (hb.cell (p := ⟨b, off + i, none⟩) h4).trans (h5 i hi), h6⟩

/-- What zzMagnitude hands back: nothing where 'zs' is empty; else a row of the new block 'B'. -/
def Handed (w : World) (B : Nat) (a : Option Addr) (zs : List Int) : Prop := 0 < zs.length → ∃ o, a = some ⟨B, o, none⟩ ∧ ∀ i, i < zs.length → w.cell? ⟨B, o + i, none⟩ = some (.int .u8 (zs.getD i 0))

theorem mag_abs (b off len cap : Nat) (zs : List Int) (w : World) (h : Octets w b off len zs) :
    Calls Try.prog 17 #[.slice (some ⟨b, off, none⟩) len cap] w fun e w' => ∃ a, e = .returned (.slice a (strip (magL zs)).length (strip (magL zs)).length) ∧ Handed w' w.heap.size a (strip (magL zs)) ∧ Below w.heap.size w w' ∧ w'.heap.size = w.heap.size + 1 := by
  refine (mag_any b off len cap zs w h).mono ?_
  rintro e w' ⟨a, rfl, ha, rfl⟩
  have hl : (magL zs).length = len := (magL_length zs).trans h.1
  have hs : (strip (magL zs)).length = len - lz (magL zs) := by simp [strip, hl]
  refine ⟨a, by rw [hs], fun hp => ?_, (Below.refl _ _).alloc (Nat.le_refl _) _, by simp⟩
  rw [hs] at hp
  refine ⟨_, ha (by omega), fun i hi => ?_⟩
  rw [hs] at hi
  rw [row_cell w (magL zs) _ (by omega)]
  simp [strip]

theorem Handed.drewN {w : World} {B : Nat} {a : Option Addr} {zs : List Int} (h : Handed w B a zs) (n : Nat) : Handed (w.drewN n) B a zs := h

theorem Handed.below {w w' : World} {B : Nat} {a : Option Addr} {zs : List Int} (h : Handed w B a zs) (hB : B < w.heap.size) (hb : Below w.heap.size w w') : Handed w' B a zs := by
  intro hp
  obtain ⟨o, e, hc⟩ := h hp
  exact ⟨o, e, fun i hi => (hb.cell (p := ⟨B, o + i, none⟩) hB).trans (hc i hi)⟩

theorem strip_small (b off len : Nat) (w : World) (zs : List Int) (h : Octets w b off len zs) : (strip (magL zs)).length ≤ 1048576 := by
  have := strip_length (magL zs)
  rw [magL_length, h.1] at this
  have := h.2.2.1
  omega

theorem take_next (A B : List Int) (k : Nat) (h1 : k < A.length) (h2 : k < B.length) (ht : A.take k = B.take k) (he : A[k]?.getD 0 = B[k]?.getD 0) : A.take (k + 1) = B.take (k + 1) := by
  rw [List.take_succ_eq_append_getElem h1, List.take_succ_eq_append_getElem h2, ht]
  simp [h1, h2] at he
  rw [he]

theorem take_part (A B : List Int) (k : Nat) (he : A[k]?.getD 0 ≠ B[k]?.getD 0) : A ≠ B := by
  rintro rfl; exact he rfl

set_option maxHeartbeats 800000 in
theorem same_mags (b off len cap b' off' len' cap' : Nat) (X Y : List Int) (w : World) (hX : Octets w b off len X) (hY : Octets w b' off' len' Y)
    (hs : (!(decide ((128 : Int) ≤ X[0]?.getD 0) == decide ((128 : Int) ≤ Y[0]?.getD 0))) = false) (A B : List Int) (hA : strip (magL X) = A) (hB : strip (magL Y) = B) (r : Bool) (hr : decide (A = B) = r) :
    Calls Try.prog 9 #[.slice (some ⟨b, off, none⟩) len cap, .slice (some ⟨b', off', none⟩) len' cap'] w fun e w' => e = .returned (.bool r) ∧ Below w.heap.size w w' := by
  have HX : Hid (Octets w b off len X) := hX
  have HY : Hid (Octets w b' off' len' Y) := hY
  have hAl := strip_small _ _ _ _ _ hX
  have hBl := strip_small _ _ _ _ _ hY
  rw [hA] at hAl
  rw [hB] at hBl
  have HA : Hid (strip (magL X) = A) := hA
  have HB : Hid (strip (magL Y) = B) := hB
  have HR : Hid (decide (A = B) = r) := hr
  clear hr
  obtain ⟨h1, h2, h3, h4, h5, h6⟩ := hX
  obtain ⟨k1, k2, k3, k4, k5, k6⟩ := hY
  have hx0 : w.cell? ⟨b, off, none⟩ = some (.int .u8 (X[0]?.getD 0)) := by simpa using h5 0 (by omega)
  have hy0 : w.cell? ⟨b', off', none⟩ = some (.int .u8 (Y[0]?.getD 0)) := by simpa using k5 0 (by omega)
  have b1 : (0 : Int) < (len : Int) := by omega
  have b2 : (0 : Int) < (len' : Int) := by omega
  clear h5 k5 h6 k6 h1 k1 hA hB
  go_enter Try.func9, Try.ntmps9
  go_wp2
  go_quiet (fail)
  clear hx0 hy0
  go_wp2_with fail
  have hd : Below w.heap.size w (w.drewN nq) := below_drewN (Below.refl _ _) nq
  refine (mag_abs b off len cap X _ (HX.out.below hd)).mono ?_
  rintro e w1 ⟨a1, rfl, H1, hb1, hz1⟩
  rw [HA.out] at H1 ⊢
  have hb1' : Below w.heap.size w w1 := hd.trans hb1
  go_wp2_with fail
  refine (mag_abs b' off' len' cap' Y _ (HY.out.below hb1')).mono ?_
  rintro e w2 ⟨a2, rfl, H2, hb2, hz2⟩
  rw [HB.out] at H2 ⊢
  have H1' := H1.below (by rw [hz1]; exact Nat.lt_succ_self _) hb2
  have hb2' : Below w.heap.size w w2 := hb1'.trans (hb2.mono hb1'.size)
  have HH1 : Hid (Handed w2 _ a1 A) := H1'
  have HH2 : Hid (Handed w2 _ a2 B) := H2
  clear H1 H2 H1' hb1 hb2 hz1 hz2 hd hb1' hs
  by_cases hl : A.length = B.length
  · have hn : ((A.length : Int) == (B.length : Int)) = true := by simp [hl]
    obtain ⟨n, hnn⟩ : ∃ n, n = A.length := ⟨_, rfl⟩
    have hAn : A.length = n := hnn.symm
    have hBn : B.length = n := by omega
    rw [hAn] at hAl ⊢
    rw [hBn] at ⊢
    have HAn : Hid (A.length = n) := hAn
    have HBn : Hid (B.length = n) := hBn
    clear hnn hAn hBn hl hn hBl
    go_wp2
    by_cases hn0 : n = 0
    · subst hn0
      refine wp_loop_rounds 1 ?_
      rw [rounds_succ]
      go_wp2
      go_ret
      refine ⟨ret_bool ?_, hb2'⟩
      rw [← HR.out, List.length_eq_zero_iff.1 HAn.out, List.length_eq_zero_iff.1 HBn.out]; rfl
    · obtain ⟨o1, ha1, hc1⟩ := HH1.out (by rw [HAn.out]; omega)
      obtain ⟨o2, ha2, hc2⟩ := HH2.out (by rw [HBn.out]; omega)
      have HC1 : Hid (∀ i, i < A.length → w2.cell? ⟨w.heap.size, o1 + i, none⟩ = some (.int .u8 (A.getD i 0))) := hc1
      have HC2 : Hid (∀ i, i < B.length → w2.cell? ⟨w1.heap.size, o2 + i, none⟩ = some (.int .u8 (B.getD i 0))) := hc2
      rw [ha1, ha2]
      clear hc1 hc2 ha1 ha2
      go_loopw [7] (fun i wr => ∃ k : Nat, k ≤ n ∧ i = .int .i64 k ∧ Hid (A.take k = B.take k) ∧ ∃ m, wr = w2.drewN m) (fun i _ => n - (intOf i).toNat)
      case atStart => exact ⟨0, Nat.zero_le _, rfl, rfl, 0, rfl⟩
      case round =>
        obtain ⟨k, hk, rfl, HT, m, rfl⟩ := hrel
        by_cases hlt : k < n
        · have g1 := HC1.out k (by rw [HAn.out]; exact hlt)
          have g2 := HC2.out k (by rw [HBn.out]; exact hlt)
          have g0 : (k : Int) < (n : Int) := by omega
          by_cases he : A[k]?.getD 0 = B[k]?.getD 0
          · have HT' : Hid (A.take (k + 1) = B.take (k + 1)) := take_next A B k (by rw [HAn.out]; exact hlt) (by rw [HBn.out]; exact hlt) HT.out he
            have he' : (A[k]?.getD 0 != B[k]?.getD 0) = false := by simp [he]
            clear he
            go_wp2
            go_quiet (fail)
            go_wp2
            go_roundw
            case rel => exact ⟨k + 1, by omega, by go_num, HT', _, rfl⟩
            case measure => simp [intOf]; omega
          · have HT' : Hid (A ≠ B) := take_part A B k he
            have he' : (A[k]?.getD 0 != B[k]?.getD 0) = true := by simp [he]
            clear he
            go_wp2
            go_quiet (fail)
            go_wp2
            go_ret
            refine ⟨ret_bool ?_, below_drewN (below_drewN hb2' _) _⟩
            rw [← HR.out, eq_comm, decide_eq_false_iff_not]; exact HT'.out
        · have HE : Hid (A = B) := by
            have h := HT.out
            rw [List.take_of_length_le (by rw [HAn.out]; omega), List.take_of_length_le (by rw [HBn.out]; omega)] at h
            exact h
          go_wp2
          go_ret
          refine ⟨ret_bool ?_, below_drewN hb2' _⟩
          rw [← HR.out, eq_comm, decide_eq_true_iff]; exact HE.out
  · have hl' : ((A.length : Int) == (B.length : Int)) = false := by
      rw [beq_eq_false_iff_ne]; intro h; exact hl (by omega)
    go_wp2
    go_ret
    refine ⟨ret_bool ?_, hb2'⟩
    rw [← HR.out, eq_comm, decide_eq_false_iff_not]; intro h; exact hl (by rw [h])

/-- THE CONTRACT OF zzSameInteger. -/
theorem same_any (b off len cap b' off' len' cap' : Nat) (X Y : List Int) (w : World) (hX : Octets w b off len X) (hY : Octets w b' off' len' Y) :
    Calls Try.prog 9 #[.slice (some ⟨b, off, none⟩) len cap, .slice (some ⟨b', off', none⟩) len' cap'] w fun e w' => e = .returned (.bool (sameB X Y)) ∧ Below w.heap.size w w' := by
  by_cases hs : (!(decide ((128 : Int) ≤ X[0]?.getD 0) == decide ((128 : Int) ≤ Y[0]?.getD 0))) = true
  · have e : sameB X Y = false := by
      rw [Bool.eq_false_iff]; intro h
      have h1 := ((sameB_iff X Y).1 h).1
      rw [head_getD, head_getD] at h1
      simp [h1] at hs
    rw [e]
    exact same_signs b off len cap b' off' len' cap' X Y w hX hY hs
  · have hs' : (!(decide ((128 : Int) ≤ X[0]?.getD 0) == decide ((128 : Int) ≤ Y[0]?.getD 0))) = false := by simpa using hs
    have h1 : (128 ≤ X.headD 0 ↔ 128 ≤ Y.headD 0) := by
      rw [head_getD, head_getD]; simpa using hs'
    refine same_mags b off len cap b' off' len' cap' X Y w hX hY hs' _ _ rfl rfl _ ?_
    rw [Bool.eq_iff_iff, sameB_iff, decide_eq_true_iff]
    exact ⟨fun h => ⟨h1, h⟩, fun h => h.2⟩
end Go.Proofs.Qxb6614464a
