/- The contract of zzMagnitude (function 17). -/
import Derived.Test.Qxb6614464aProg
import Derived.Test.Qxb6614464aRow
import Derived.WalkKit
import Derived.ProofKit
import Derived.OpenShut
import Derived.Outline
import Derived.Handy
namespace Go.Proofs.Qxb6614464a
open Go.ChangeShapes Go.WideShapes Go.ChangeAt Go.RowKit

theorem info5 : (Try.prog.info? 5).map (fun i => (i.zero, i.size, i.bytes)) = some (some (.int .u8 0), 1, 1) := by kernel_rfl

theorem make_row (n : Nat) (h : n ≤ 1048576) (w : World) : (Instr.makeSlice 22 (.int .i64 (n : Int)) (.int .i64 (n : Int))).run Try.prog w = .ok (.slice (some ⟨w.heap.size, 0, none⟩) n n) (w.alloc (.cells (arrOf (List.replicate n 0)) 5)) := by
  rw [run_make_row' 22 5 (.int .u8 0) 1 Try.underlying22 info5 rfl .i64 .i64 n (by omega) (by omega) w, made_arr]

theorem set_mid (A : List Int) (n : Nat) (v : Int) (R : List Int) : (A ++ List.replicate (n + 1) 0 ++ R).set A.length v = A ++ v :: (List.replicate n 0 ++ R) := by
  rw [List.append_assoc, List.set_append_right _ _ (Nat.le_refl _)]
  simp [List.replicate_succ]

theorem copy_get (zs : List Int) (len k : Nat) (hl : zs.length = len) (hk : k < len) : (arrOf (zs.take k ++ List.replicate (len - k) 0))[k]? = some (.int .u8 0) := by
  rw [arrOf_get _ _ (by simp; omega)]
  have h1 : (zs.take k).length = k := by simp; omega
  have h2 : len - k = (len - k - 1) + 1 := by omega
  rw [List.getD_eq_getElem?_getD, List.getElem?_append_right (by omega), h1, h2]
  simp [List.replicate_succ]

theorem copy_step (zs : List Int) (len k : Nat) (hl : zs.length = len) (hk : k < len) : (arrOf (zs.take k ++ List.replicate (len - k) 0)).setIfInBounds k (.int .u8 (zs[k]?.getD 0)) = arrOf (zs.take (k + 1) ++ List.replicate (len - (k + 1)) 0) := by
  rw [arrOf_set]
  have h1 : (zs.take k).length = k := by simp; omega
  have h2 : len - k = (len - (k + 1)) + 1 := by omega
  have h3 := set_mid (zs.take k) (len - (k + 1)) (zs[k]?.getD 0) []
  rw [h1, List.append_nil, List.append_nil, ← h2] at h3
  rw [h3]
  have hk' : k < zs.length := by omega
  have e : zs[k]?.getD 0 = zs[k] := by simp [hk']
  rw [e, List.take_succ_eq_append_getElem hk', List.append_assoc]
  rfl

theorem copy_end (zs : List Int) (len k : Nat) (hl : zs.length = len) (hk : len ≤ k) : zs.take k ++ List.replicate (len - k) 0 = zs := by
  rw [List.take_of_length_le (by omega)]
  have : len - k = 0 := by omega
  simp [this]

theorem neg_get (zs : List Int) (j : Nat) : (arrOf (List.replicate (j + 1) 0 ++ (negC (zs.drop (j + 1))).1))[j]? = some (.int .u8 0) := by
  rw [arrOf_get _ _ (by simp; omega), List.getD_eq_getElem?_getD, List.getElem?_append_left (by simp)]
  simp

/-- One step of the negation: the octet and the carry that the loop lays. -/
theorem neg_step (zs : List Int) (j : Nat) (hj : j < zs.length) :
    (arrOf (List.replicate (j + 1) 0 ++ (negC (zs.drop (j + 1))).1)).setIfInBounds j (.int .u8 ((255 - zs[j] + (negC (zs.drop (j + 1))).2) % 256)) = arrOf (List.replicate j 0 ++ (negC (zs.drop j)).1) ∧
    (255 - zs[j] + (negC (zs.drop (j + 1))).2) / 256 = (negC (zs.drop j)).2 := by
  rw [List.drop_eq_getElem_cons hj, negC_cons]
  refine ⟨?_, rfl⟩
  rw [arrOf_set]
  congr 1
  have h := set_mid (List.replicate j 0) 0 ((255 - zs[j] + (negC (zs.drop (j + 1))).2) % 256) (negC (zs.drop (j + 1))).1
  rw [List.length_replicate, List.replicate_zero, List.nil_append, List.replicate_append_replicate] at h
  exact h

theorem not_fin : ∀ n : Fin 256, bits BinOp.xor IntKind.u8 (if IntKind.u8.signed = true then -1 else IntKind.u8.max) (n.val : Int) = 255 - (n.val : Int) := by decide +kernel

/-- '^x' on an octet. -/
theorem not_u8 (x : Int) (h0 : 0 ≤ x) (h1 : x ≤ 255) : bits BinOp.xor IntKind.u8 (if IntKind.u8.signed = true then -1 else IntKind.u8.max) x = 255 - x := by
  have h := not_fin ⟨x.toNat, by omega⟩
  have e : ((x.toNat : Nat) : Int) = x := by omega
  rw [e] at h
  exact h

theorem neg_start (zs : List Int) (len : Nat) (hl : zs.length = len) : negC (zs.drop len) = ([], 1) := by
  rw [List.drop_of_length_le (by omega)]; rfl

set_option maxHeartbeats 800000 in
theorem mag_pos (b off len cap : Nat) (zs : List Int) (w : World) (hlen : zs.length = len) (h1 : 1 ≤ len) (h2 : len ≤ 1048576) (hb : b < w.heap.size)
    (hc : ∀ i, i < len → w.cell? ⟨b, off + i, none⟩ = some (.int .u8 (zs.getD i 0))) (hp : zs[0]?.getD 0 < 128) :
    Calls Try.prog 17 #[.slice (some ⟨b, off, none⟩) len cap] w fun e w' => ∃ a, e = .returned (.slice a (len - lz zs) (len - lz zs)) ∧ (lz zs < len → a = some ⟨w.heap.size, lz zs, none⟩) ∧ w' = w.alloc (.cells (arrOf zs) 5) := by
  have hmk := make_row len h2
  have hc0 : w.cell? ⟨b, off, none⟩ = some (.int .u8 (zs.getD 0 0)) := hc 0 (by omega)
  have HC : Hid (∀ i, i < len → w.cell? ⟨b, off + i, none⟩ = some (.int .u8 (zs.getD i 0))) := hc
  have HL : Hid (zs.length = len) := hlen
  clear hc hlen
  go_enter Try.func17, Try.ntmps17
  go_wp2
  go_loopw [4] (fun i wr => ∃ k : Nat, k ≤ len ∧ i = .int .i64 k ∧ wr = w.alloc (.cells (arrOf (zs.take k ++ List.replicate (len - k) 0)) 5)) (fun i _ => len - (intOf i).toNat)
  case atStart => exact ⟨0, Nat.zero_le _, rfl, by simp⟩
  case round =>
    obtain ⟨k, hk, rfl, rfl⟩ := hrel
    by_cases hlt : k < len
    · have hck := HC.out k hlt
      have hgk := copy_get zs len k HL.out hlt
      have HS : Hid _ := copy_step zs len k HL.out hlt
      go_wp2
      go_roundw
      case rel => exact ⟨k + 1, by omega, by go_num, by rw [HS.out]⟩
      case measure => simp [intOf]; omega
    · rw [copy_end zs len k HL.out (by omega)]
      clear hmk hc0 hp
      go_wp2
      go_loop [8] (fun i => ∃ k : Nat, k ≤ lz zs ∧ i = .int .i64 k) (fun i => len - (intOf i).toNat)
      case atStart => exact ⟨0, Nat.zero_le _, rfl⟩
      case round =>
        obtain ⟨j, hj, rfl⟩ := hrel
        have hz := lz_le zs
        rw [HL.out] at hz
        by_cases hjl : j < len
        · have hgj := arrOf_get zs j (by rw [HL.out]; exact hjl)
          by_cases hzj : zs.getD j 0 = 0
          · have HS : Hid _ := lz_step zs j hj (by rw [HL.out]; exact hjl) hzj
            have hb0 : (zs[j]?.getD 0 == 0) = true := by simpa using hzj
            clear hzj
            go_wp2
            go_round
            case rel => exact ⟨j + 1, HS.out, by go_num⟩
            case measure => simp [intOf]; omega
          · have HS : Hid (j = lz zs) := lz_of zs j hj (fun _ => hzj)
            have hb0 : (zs[j]?.getD 0 == 0) = false := by simpa using hzj
            clear hzj
            go_wp2
            go_ret
            have e := HS.out
            subst e
            exact ⟨_, rfl, fun h => by simp; try omega, rfl⟩
        · have HS : Hid (j = lz zs) := by have : j = lz zs := by omega
                                          exact this
          go_wp2
          go_ret
          have e := HS.out
          subst e
          exact ⟨_, rfl, fun h => absurd h hjl, rfl⟩

set_option maxHeartbeats 800000 in
theorem mag_neg (b off len cap : Nat) (zs : List Int) (w : World) (hlen : zs.length = len) (h1 : 1 ≤ len) (h2 : len ≤ 1048576) (hb : b < w.heap.size)
    (hc : ∀ i, i < len → w.cell? ⟨b, off + i, none⟩ = some (.int .u8 (zs.getD i 0))) (hby : ∀ x, x ∈ zs → isByte x) (hp : (128 : Int) ≤ zs[0]?.getD 0) (ms : List Int) (hms : ms = (negC zs).1) :
    Calls Try.prog 17 #[.slice (some ⟨b, off, none⟩) len cap] w fun e w' => ∃ a, e = .returned (.slice a (len - lz ms) (len - lz ms)) ∧ (lz ms < len → a = some ⟨w.heap.size, lz ms, none⟩) ∧ w' = w.alloc (.cells (arrOf ms) 5) := by
  have hmk := make_row len h2
  have hc0 : w.cell? ⟨b, off, none⟩ = some (.int .u8 (zs.getD 0 0)) := hc 0 (by omega)
  have HC : Hid (∀ i, i < len → w.cell? ⟨b, off + i, none⟩ = some (.int .u8 (zs.getD i 0))) := hc
  have HL : Hid (zs.length = len) := hlen
  have HM : Hid (ms = (negC zs).1) := hms
  have HB : Hid (∀ x ∈ zs, isByte x) := hby
  clear hc hlen hms hby
  go_enter Try.func17, Try.ntmps17
  go_wp2
  go_loopw [5, 6] (fun c i wr => ∃ k : Nat, k ≤ len ∧ i = .int .i64 ((k : Int) - 1) ∧ c = .int .i64 (negC (zs.drop k)).2 ∧ wr = w.alloc (.cells (arrOf (List.replicate k 0 ++ (negC (zs.drop k)).1)) 5)) (fun _ i _ => (intOf i + 1).toNat)
  case atStart => exact ⟨len, Nat.le_refl _, rfl, by rw [neg_start zs len HL.out], by rw [neg_start zs len HL.out]; simp⟩
  case round =>
    obtain ⟨k, hk, hi, hcc, rfl⟩ := hrel
    cases k with
    | succ j =>
      have hi' : u6 = .int .i64 (j : Int) := by rw [hi]; go_num
      subst hi' hcc
      clear hi
      have hjl : j < len := by omega
      have hck := HC.out j hjl
      have hjz : j < zs.length := by rw [HL.out]; exact hjl
      have hx := HB.out zs[j] (List.getElem_mem hjz)
      have hxe : zs.getD j 0 = zs[j] := by simp [hjz]
      rw [hxe] at hck
      have hcar := negC_carry (zs.drop (j + 1)) (fun y hy => HB.out y (List.mem_of_mem_drop hy))
      have HS : Hid _ := neg_step zs j hjz
      have hgj := neg_get zs j
      obtain ⟨x, hxx⟩ : ∃ x, x = zs[j] := ⟨_, rfl⟩
      obtain ⟨c, hcx⟩ : ∃ c, c = (negC (zs.drop (j + 1))).2 := ⟨_, rfl⟩
      obtain ⟨R, hRx⟩ : ∃ R, R = arrOf (List.replicate (j + 1) 0 ++ (negC (zs.drop (j + 1))).1) := ⟨_, rfl⟩
      rw [← hxx] at hck HS hx
      rw [← hcx] at hcar HS ⊢
      rw [← hRx] at hgj HS ⊢
      unfold isByte at hx
      obtain ⟨hx0, hx1⟩ := hx
      have hc0' : 0 ≤ c := by omega
      have hc1' : c ≤ 1 := by omega
      clear hcar hxe hxx hcx hRx hmk hc0
      have hno := not_u8 x hx0 hx1
      go_wp2
      go_roundw
      case rel => exact ⟨j, by omega, rfl, by rw [← HS.out.2], by rw [← HS.out.1]⟩
      case measure => simp [intOf]
    | zero =>
      have hi' : u6 = .int .i64 (-1) := by rw [hi]; rfl
      subst hi' hcc
      clear hi
      rw [List.replicate_zero, List.nil_append, List.drop_zero, ← HM.out]
      generalize (negC zs).2 = c
      clear hmk hc0 hp
      have HML : Hid (ms.length = len) := by rw [HM.out]; exact (negC_length zs).trans HL.out
      go_wp2
      go_loop [8] (fun i => ∃ k : Nat, k ≤ lz ms ∧ i = .int .i64 k) (fun i => len - (intOf i).toNat)
      case atStart => exact ⟨0, Nat.zero_le _, rfl⟩
      case round =>
        obtain ⟨j, hj, rfl⟩ := hrel
        have hz := lz_le ms
        rw [HML.out] at hz
        by_cases hjl : j < len
        · have hgj := arrOf_get ms j (by rw [HML.out]; exact hjl)
          by_cases hzj : ms.getD j 0 = 0
          · have HS : Hid _ := lz_step ms j hj (by rw [HML.out]; exact hjl) hzj
            have hb0 : (ms[j]?.getD 0 == 0) = true := by simpa using hzj
            clear hzj
            go_wp2
            go_round
            case rel => exact ⟨j + 1, HS.out, by go_num⟩
            case measure => simp [intOf]; omega
          · have HS : Hid (j = lz ms) := lz_of ms j hj (fun _ => hzj)
            have hb0 : (ms[j]?.getD 0 == 0) = false := by simpa using hzj
            clear hzj
            go_wp2
            go_ret
            have e := HS.out
            subst e
            exact ⟨_, rfl, fun h => by simp; try omega, rfl⟩
        · have HS : Hid (j = lz ms) := by have : j = lz ms := by omega
                                          exact this
          go_wp2
          go_ret
          have e := HS.out
          subst e
          exact ⟨_, rfl, fun h => absurd h hjl, rfl⟩
end Go.Proofs.Qxb6614464a
