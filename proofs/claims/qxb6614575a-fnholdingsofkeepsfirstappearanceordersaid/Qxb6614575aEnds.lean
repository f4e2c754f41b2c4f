/- Holdings: the law's walk (function 3) over a slice of more than 1024 keys, and over an empty one (nil or not). -/
import Derived.Test.Qxb6614575aTopLaws
namespace Go.Proofs.Qxb6614575a
open Go.ChangeShapes Go.WideShapes Go.ChangeAt Go.RowKit Go.Maps

set_option maxHeartbeats 1000000 in
set_option maxRecDepth 100000 in
theorem top_big (b off len cap : Nat) (ks : List HK) (w : World) (hk : KeysAt w b off len ks) (hm : 1024 < len) (hx : len ≤ maxLen) : Calls Try.prog 3 #[.slice (some ⟨b, off, none⟩) len cap] w fun e w' => e = .returned (.bool true) ∧ Below w.heap.size w w' := by
  have HB : Hid _ := bytes_any b off len cap ks w hk hx
  unfold maxLen at hx
  clear hk
  go_enter Try.func3, Try.ntmps3
  go_wp2_with fail
  refine Calls.mono HB.out ?_
  rintro e w' ⟨bo, rfl, rfl⟩
  cases bo
  · go_wp2
    go_ret
    exact ⟨rfl, Below.refl _ _⟩
  · go_wp2
    go_ret
    exact ⟨rfl, Below.refl _ _⟩

set_option maxHeartbeats 1000000 in
set_option maxRecDepth 100000 in
theorem top_empty (x : Option Addr) (cap : Nat) (w : World) : Calls Try.prog 3 #[.slice x 0 cap] w fun e w' => e = .returned (.bool true) ∧ Below w.heap.size w w' := by
  go_enter Try.func3, Try.ntmps3
  go_wp2_with fail
  refine Calls.mono (bytes_empty x cap w) ?_
  rintro e w' ⟨bo, rfl, rfl⟩
  cases bo
  · go_wp2
    go_ret
    exact ⟨rfl, Below.refl _ _⟩
  · go_wp2
    refine wp_loop_rounds 1 ?_
    rw [rounds_succ]
    go_wp2
    refine wp_loop_rounds 1 ?_
    rw [rounds_succ]
    go_wp2_with fail
    refine (newHoldings_any w).mono ?_
    rintro e W0 ⟨rfl, hW0⟩
    have H0 : Hid (L3 w W0 [] (.map none) (.slice none 0 0) (.slice none 0 0) 0) := by rw [hW0]; exact start_state w
    clear hW0
    go_wp2
    refine wp_loop_rounds 1 ?_
    rw [rounds_succ]
    have e0 : W0.cell? ⟨w.heap.size, 0, none⟩ = some (.map none) := cell_blk H0.out.1.2.1 0
    have e1 : W0.cell? ⟨w.heap.size, 1, none⟩ = some (.slice none 0 0) := cell_blk H0.out.1.2.1 1
    have HN : Hid (∀ ty, (Builtin.len_ #[39] ty #[.map none]).run Try.prog W0 = .ok (.int .i64 ((0 : Nat) : Int)) W0) := fun ty => H0.out.1.2.2.1.len H0.out.2.2.1 ty
    go_wp2_with (first | (go_at_call 8; refine (heldLen_any _ _ _ _ _ e1).mono ?_; rintro e w' ⟨rfl, rfl⟩) | (go_at_call 11; refine (indexLen_any _ _ _ _ e0 HN.out).mono ?_; rintro e w' ⟨rfl, rfl⟩))
    refine wp_loop_rounds 1 ?_
    rw [rounds_succ]
    go_wp2
    go_ret
    exact ⟨rfl, H0.out.2.2.2.2⟩
end Go.Proofs.Qxb6614575a
