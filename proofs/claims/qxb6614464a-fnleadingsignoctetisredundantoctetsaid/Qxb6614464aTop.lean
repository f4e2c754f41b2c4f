/- The walk of FnLeadingSignOctetIsRedundantOctet (function 3). -/
import Derived.Test.Qxb6614464aSame
import Derived.Laws.CopyOwn
import Derived.WalkSpells
namespace Go.Proofs.Qxb6614464a
open Go.ChangeShapes Go.WideShapes Go.ChangeAt Go.RowKit

theorem heap_new (w : World) (o : Obj) : (w.alloc o).heap[w.heap.size]? = some o := by
  show (w.heap.push o)[w.heap.size]? = some o
  simp

theorem setRow_alloc (w : World) (c cs : Array Value) (t : TypeId) : (w.alloc (.cells c t)).setRow w.heap.size cs = w.alloc (.cells cs t) := by
  show ({ w with heap := (w.heap.push (.cells c t)).modify w.heap.size _ } : World) = { w with heap := w.heap.push (.cells cs t) }
  congr 1
  apply Array.ext
  · simp
  · intro i h1 h2
    rw [Array.getElem_modify]
    simp only [Array.getElem_push]
    split
    · rename_i e; subst e; simp
    · rename_i e
      have : i < w.heap.size := by simp at h2; omega
      simp [this]

theorem add_block (x : Addr) (j : Nat) : (x.add j).block = x.block := by unfold Addr.add; split <;> rfl

/-- 'copy' of a whole slice of octets into the row that was just made. -/
theorem copy_row (w : World) (len cap : Nat) (x : Addr) (zs : List Int) (hx : 0 < len → x.block < w.heap.size) (hl : len ≤ zs.length) (hc : ∀ i, i < zs.length → w.cell? (x.add i) = some (.int .u8 (zs.getD i 0))) :
    (Builtin.copy_ #[22, 22] 3 #[.slice (some ⟨w.heap.size, 0, none⟩) len len, .slice (some x) len cap]).run Try.prog (w.alloc (.cells (arrOf (List.replicate len 0)) 5)) = .ok (goInt len) (w.alloc (.cells (arrOf (zs.take len)) 5)) := by
  have hlen : ((zs.take len).map (Value.int .u8)).length = len := by simp; omega
  have h := run_copy_row (P := Try.prog) (w.alloc (.cells (arrOf (List.replicate len 0)) 5)) 22 22 3 5 w.heap.size 0 len len x len cap (arrOf (List.replicate len 0)) 5 ((zs.take len).map (Value.int .u8)) Try.underlying22 (by kernel_rfl)
    (heap_new _ _) (by rw [hlen]; simp) ?_ (by rw [hlen]; simp [arrOf]) ?_
  · rw [h, setRow_alloc, hlen]
    congr 3
    simp [arrOf]
  · intro j v hj
    have hj' : j < len := by
      have := (List.getElem?_eq_some_iff.1 hj).1
      omega
    rw [World.cell?_alloc_lt w _ _ (by rw [add_block]; exact hx (by omega))]
    rw [hc j (by omega)]
    rw [← hj, List.getElem?_map, List.getElem?_take_of_lt hj']
    simp [show j < zs.length by omega]
  · intro v hv
    obtain ⟨y, _, rfl⟩ := List.mem_map.1 hv
    rfl

theorem bytes_small (a : Option Addr) (len cap : Nat) (w : World) (h : len ≤ 1048576) : Calls Try.prog 7 #[.slice a len cap] w fun e w' => e = .returned (.bool true) ∧ w' = w := by
  go_enter Try.func7, Try.ntmps7
  go_wp2
  go_ret
  exact ⟨rfl, rfl⟩

theorem bytes_big (a : Option Addr) (len cap : Nat) (w : World) (h : 1048576 < len) : Calls Try.prog 7 #[.slice a len cap] w fun e w' => e = .returned (.bool false) ∧ w' = w := by
  go_enter Try.func7, Try.ntmps7
  go_wp2
  go_ret
  exact ⟨rfl, rfl⟩

theorem top_nil (w : World) : Calls Try.prog 3 #[.slice none 0 0] w fun e w' => e = .returned (.bool true) ∧ Below w.heap.size w w' := by
  have hn := fun w a n c n' c' => run_neq_slice_nil_any (P := Try.prog) w 22 5 a n c n' c' Try.underlying22
  go_enter Try.func3, Try.ntmps3
  go_wp2
  go_ret
  exact ⟨rfl, Below.refl _ _⟩

theorem top_big (x : Addr) (len cap : Nat) (w : World) (h : 1048576 < len) : Calls Try.prog 3 #[.slice (some x) len cap] w fun e w' => e = .returned (.bool true) ∧ Below w.heap.size w w' := by
  go_enter Try.func3, Try.ntmps3
  go_wp2_with (go_at_call 7; refine (bytes_big _ _ _ _ h).mono ?_; rintro e w' ⟨rfl, rfl⟩)
  go_ret
  exact ⟨rfl, Below.refl _ _⟩

theorem top_short (x : Addr) (len cap : Nat) (zs : List Int) (w : World) (h : len < 2) (hx : 0 < len → x.block < w.heap.size) (hl : len ≤ zs.length) (hc : ∀ i, i < zs.length → w.cell? (x.add i) = some (.int .u8 (zs.getD i 0))) :
    Calls Try.prog 3 #[.slice (some x) len cap] w fun e w' => e = .returned (.bool true) ∧ Below w.heap.size w w' := by
  have hn := fun w a n c n' c' => run_neq_slice_nil_any (P := Try.prog) w 22 5 a n c n' c' Try.underlying22
  have hmk := make_row len (by omega)
  have hcp := copy_row w len cap x zs hx hl hc
  clear hc
  go_enter Try.func3, Try.ntmps3
  go_wp2_with (first | (go_at_call 7; refine (bytes_small _ _ _ _ (by omega)).mono ?_; rintro e w' ⟨rfl, rfl⟩) | (go_at_call 8; refine (lead_short _ _ _ _ h).mono ?_; rintro e w' ⟨rfl, rfl⟩))
  go_ret
  exact ⟨rfl, by go_grown⟩

theorem fin_law (L : List Int) (hl : 2 ≤ L.length) (hb : ∀ x, x ∈ L → isByte x) : (red (L.getD 0 0) (L.getD 1 0) == sameB L (L.drop 1)) = true := by
  match L, hl with
  | c0 :: c1 :: ys, _ =>
    have := red_same c0 c1 ys (hb c0 (by simp)) (hb c1 (by simp)) (fun y hy => hb y (by simp [hy]))
    simp only [List.drop_succ_cons, List.drop_zero, this]
    simp [red, redB]

theorem top_long (x : Addr) (len cap : Nat) (zs : List Int) (w : World) (h : 2 ≤ len) (h2 : len ≤ 1048576) (hx : 0 < len → x.block < w.heap.size) (hl : len ≤ zs.length) (hc : ∀ i, i < zs.length → w.cell? (x.add i) = some (.int .u8 (zs.getD i 0))) (hb : ∀ y, y ∈ zs → isByte y) :
    Calls Try.prog 3 #[.slice (some x) len cap] w fun e w' => e = .returned (.bool true) ∧ Below w.heap.size w w' := by
  have hn := fun w a n c n' c' => run_neq_slice_nil_any (P := Try.prog) w 22 5 a n c n' c' Try.underlying22
  have hmk := make_row len h2
  have hcp := copy_row w len cap x zs hx hl hc
  clear hc
  have hbL : ∀ y, y ∈ zs.take len → isByte y := fun y hy => hb y (List.mem_of_mem_take hy)
  have hlL : (zs.take len).length = len := by simp; omega
  obtain ⟨L, hL⟩ : ∃ L, L = zs.take len := ⟨_, rfl⟩
  rw [← hL] at hcp hbL hlL
  have hW0 : Octets (w.alloc (.cells (arrOf L) 5)) w.heap.size 0 len L := ⟨hlL, by omega, h2, by simp, fun i hi => by rw [Nat.zero_add]; exact row_cell w L i (by omega), hbL⟩
  have hW1 : Octets (w.alloc (.cells (arrOf L) 5)) w.heap.size 1 (len - 1) (L.drop 1) := ⟨by simp [hlL], by omega, by omega, by simp, fun i hi => by rw [row_cell w L (1 + i) (by omega), Nat.add_comm 1 i]; simp, fun y hy => hbL y (List.mem_of_mem_drop hy)⟩
  have HS : Hid _ := same_any w.heap.size 0 len len w.heap.size 1 (len - 1) (len - 1) L (L.drop 1) _ hW0 hW1
  have HD : Hid _ := lead_any w.heap.size 0 len len (L.getD 0 0) (L.getD 1 0) (w.alloc (.cells (arrOf L) 5)) h (by unfold maxLen; omega) (row_cell w L 0 (by omega)) (row_cell w L 1 (by omega))
  have hf := fin_law L (by omega) hbL
  obtain ⟨r, hr⟩ : ∃ r, r = red (L.getD 0 0) (L.getD 1 0) := ⟨_, rfl⟩
  obtain ⟨s, hs⟩ : ∃ s, s = sameB L (L.drop 1) := ⟨_, rfl⟩
  rw [← hr, ← hs] at hf
  rw [← hr] at HD
  rw [← hs] at HS
  clear hr hs hW0 hW1 hL hlL hbL hb hl hx
  go_enter Try.func3, Try.ntmps3
  go_wp2_with (first | (go_at_call 7; refine (bytes_small _ _ _ _ h2).mono ?_; rintro e w' ⟨rfl, rfl⟩) | (go_at_call 8; refine Calls.mono HD.out ?_; rintro e w' ⟨rfl, rfl⟩) | (go_at_call 9; refine Calls.mono HS.out ?_; rintro e w' ⟨rfl, hbel⟩))
  go_ret
  exact ⟨rfl, ((Below.refl _ _).alloc (Nat.le_refl _) _).trans (hbel.mono (by simp))⟩
end Go.Proofs.Qxb6614464a
