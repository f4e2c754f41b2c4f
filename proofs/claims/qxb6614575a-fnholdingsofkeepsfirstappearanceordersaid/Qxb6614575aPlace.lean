/- Holdings: placeOf (6). -/
import Derived.Test.Qxb6614575aOfLaws
namespace Go.Proofs.Qxb6614575a
open Go.ChangeShapes Go.WideShapes Go.ChangeAt Go.RowKit Go.Maps

theorem bytes_inj {a b : ByteArray} (h : a.toList = b.toList) : a = b := by
  rw [ByteArray.toList_eq, ByteArray.toList_eq] at h
  obtain ⟨⟨x⟩⟩ := a
  obtain ⟨⟨y⟩⟩ := b
  simp at h
  rw [h]

theorem ret_int {k : IntKind} {a b : Int} (h : a = b) : Ending.returned (.int k a) = .returned (.int k b) := by rw [h]

theorem eql26_no (a f c a' f' c' : ByteArray) (r r' : Int) (h : HK.mk a' f' c' r' ≠ HK.mk a f c r) (w : World) : (binOp .eql 26 (.agg #[.string a', .string f', .string c', .int .i8 r']) (.agg #[.string a, .string f, .string c, .int .i8 r])).run Try.prog w = .ok (.bool false) w := by
  go_simp
  intro h1 h2 h3 h4
  exact h (by rw [bytes_inj h1, bytes_inj h2, bytes_inj h3, h4])

theorem eql26_yes (a f c : ByteArray) (r : Int) (w : World) : (binOp .eql 26 (.agg #[.string a, .string f, .string c, .int .i8 r]) (.agg #[.string a, .string f, .string c, .int .i8 r])).run Try.prog w = .ok (.bool true) w := by
  go_simp

theorem place_nil (a f c : ByteArray) (r : Int) (w : World) :
    Calls Try.prog 6 #[.slice none 0 0, .agg #[.string a, .string f, .string c, .int .i8 r]] w fun e w' => e = .returned (.int .i64 (-1)) ∧ Below w.heap.size w w' := by
  go_enter Try.func6, Try.ntmps6
  go_wp2
  refine wp_loop_rounds 1 ?_
  rw [rounds_succ]
  go_wp2
  go_ret
  exact ⟨rfl, by go_grown⟩

theorem nodup_at {ms : List HK} (h : ms.Nodup) {i j : Nat} {k : HK} (hi : ms[i]? = some k) (hj : ms[j]? = some k) : i = j := by
  obtain ⟨h1, e1⟩ := List.getElem?_eq_some_iff.1 hi
  obtain ⟨h2, e2⟩ := List.getElem?_eq_some_iff.1 hj
  exact (List.getElem_inj h).1 (e1.trans e2.symm)

/-- The cells of the j-th key of a row of keys. -/
theorem row_key {w : World} {B g n cap : Nat} {ms : List HK} (h : w.ownsRow B 26 4 (.slice (some ⟨g, 0, none⟩) n cap) n (modelCells ms)) (hn : n = ms.length) {j : Nat} {k : HK} (hj : ms[j]? = some k) :
    w.cell? ⟨g, j * 4, none⟩ = some (.string k.a) ∧ w.cell? ⟨g, j * 4 + 1, none⟩ = some (.string k.f) ∧ w.cell? ⟨g, j * 4 + 2, none⟩ = some (.string k.c) ∧ w.cell? ⟨g, j * 4 + 3, none⟩ = some (.int .i8 k.r) := by
  have hl := (List.getElem?_eq_some_iff.1 hj).1
  have get : ∀ i, i < 4 → w.cell? ⟨g, j * 4 + i, none⟩ = k.cells[i]? := fun i hi => by
    rw [h.cellAt (j * 4 + i) (by omega)]
    exact flat_get HK.cells 4 cells_len ms j i k hj hi
  exact ⟨get 0 (by omega), get 1 (by omega), get 2 (by omega), get 3 (by omega)⟩

set_option maxHeartbeats 800000 in
/-- placeOf: the key's first place, or -1. -/
theorem place_any (B g n cap : Nat) (ms : List HK) (a f c : ByteArray) (r : Int) (w : World) (hown : w.ownsRow B 26 4 (.slice (some ⟨g, 0, none⟩) n cap) n (modelCells ms)) (hn : n = ms.length) (hlen : n ≤ 1024) (p : Int)
    (hp : (p = -1 ∧ HK.mk a f c r ∉ ms) ∨ (∃ j : Nat, p = (j : Int) ∧ ms[j]? = some (HK.mk a f c r) ∧ ms.Nodup)) :
    Calls Try.prog 6 #[.slice (some ⟨g, 0, none⟩) n cap, .agg #[.string a, .string f, .string c, .int .i8 r]] w fun e w' => e = .returned (.int .i64 p) ∧ Below w.heap.size w w' := by
  have hg : g < w.heap.size := (hown.lt g rfl).2
  have HO : Hid (w.ownsRow B 26 4 (.slice (some ⟨g, 0, none⟩) n cap) n (modelCells ms)) := hown
  have HN : Hid (n = ms.length) := hn
  have HP : Hid ((p = -1 ∧ HK.mk a f c r ∉ ms) ∨ (∃ j : Nat, p = (j : Int) ∧ ms[j]? = some (HK.mk a f c r) ∧ ms.Nodup)) := hp
  clear hown hn hp
  go_enter Try.func6, Try.ntmps6
  go_wp2
  go_loopw [5] (fun i wr => ∃ k : Nat, k ≤ n ∧ i = .int .i64 k ∧ Hid (∀ j, j < k → ms[j]? ≠ some (HK.mk a f c r)) ∧ ∃ m, wr = (w.alloc (.cells #[.string a, .string f, .string c, .int .i8 r] 26)).drewN m) (fun i _ => n - (intOf i).toNat)
  case atStart => exact ⟨0, Nat.zero_le _, rfl, fun j hj => by omega, 0, rfl⟩
  case round =>
    obtain ⟨k, hk, rfl, HT, m, rfl⟩ := hrel
    by_cases hlt : k < n
    · have hkl : k < ms.length := by rw [← HN.out]; exact hlt
      obtain ⟨mk, hmk⟩ : ∃ mk, ms[k]? = some mk := ⟨ms[k], List.getElem?_eq_getElem hkl⟩
      obtain ⟨d0, d1, d2, d3⟩ := row_key HO.out HN.out hmk
      have g0 : (k : Int) < (n : Int) := by omega
      obtain ⟨a', f', c', r'⟩ := mk
      have HM : Hid (ms[k]? = some (HK.mk a' f' c' r')) := hmk
      clear hmk hkl
      by_cases he : HK.mk a' f' c' r' = HK.mk a f c r
      · have HE : Hid (ms[k]? = some (HK.mk a f c r)) := by rw [← he]; exact HM.out
        simp only [HK.mk.injEq] at he
        obtain ⟨rfl, rfl, rfl, rfl⟩ := he
        clear HM
        go_wp2
        go_quiet (fail)
        go_wp2
        go_ret
        refine ⟨?_, below_drewN (below_drewN ((Below.refl _ _).alloc (Nat.le_refl _) _) _) _⟩
        have : p = (k : Int) := by
          rcases HP.out with ⟨_, h⟩ | ⟨j, h1, h2, h3⟩
          · exact absurd (List.mem_of_getElem? HE.out) h
          · rw [h1]; congr 1
            exact nodup_at h3 h2 HE.out
        exact ret_int this.symm
      · have hq := eql26_no a f c a' f' c' r r' he
        have HT' : Hid (∀ j, j < k + 1 → ms[j]? ≠ some (HK.mk a f c r)) := fun j hj h => by
          by_cases e : j = k
          · subst e; rw [HM.out] at h; exact he (by simpa using h)
          · exact HT.out j (by omega) h
        clear he
        go_wp2
        go_quiet (fail)
        go_wp2
        go_roundw
        case rel => exact ⟨k + 1, by omega, by go_num, HT', _, rfl⟩
        case measure => simp [intOf]; omega
    · have HQ : Hid (p = -1) := by
        rcases HP.out with ⟨h, _⟩ | ⟨j, h1, h2, h3⟩
        · exact h
        · exact absurd h2 (HT.out j (by have := (List.getElem?_eq_some_iff.1 h2).1; rw [← HN.out] at this; omega))
      go_wp2
      go_ret
      refine ⟨?_, below_drewN ((Below.refl _ _).alloc (Nat.le_refl _) _) _⟩
      exact ret_int HQ.out.symm
end Go.Proofs.Qxb6614575a
