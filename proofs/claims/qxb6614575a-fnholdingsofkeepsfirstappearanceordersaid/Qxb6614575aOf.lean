/- Holdings: of (14). -/
import Derived.Test.Qxb6614575aLeaf
import Derived.Deep.RegionLaw
import Derived.Carry
namespace Go.Proofs.Qxb6614575a
open Go.ChangeShapes Go.WideShapes Go.ChangeAt Go.RowKit Go.Maps

/-- of (14): the key is there. -/
theorem of_yes (Bh g j n cap : Nat) (mv : Value) (a f c : ByteArray) (r : Int) (w : World) (hB : Bh < w.heap.size) (hj : j < n) (hc : w.cell? ⟨Bh, 0, none⟩ = some mv) (hc1 : w.cell? ⟨Bh, 1, none⟩ = some (.slice (some ⟨g, 0, none⟩) n cap))
    (hl : ∀ W, Below w.heap.size w W → (Instr.lookup 39 mv (.agg #[.string a, .string f, .string c, .int .i8 r]) true).run Try.prog W = .ok (.tuple #[.int .i64 j, .bool true]) W) :
    Calls Try.prog 14 #[.pointer (some ⟨Bh, 0, none⟩), .agg #[.string a, .string f, .string c, .int .i8 r]] w fun e w' => e = .returned (.pointer (some ⟨g, j * 5 + 4, none⟩)) ∧ Below w.heap.size w w' := by
  have HF : Hid _ := find_yes Bh g j n cap mv a f c r (w.alloc (.cells #[.string a, .string f, .string c, .int .i8 r] 46)) (by simp; omega) hj (by rw [World.cell?_alloc_past _ _ _ hB]; exact hc) (by rw [World.cell?_alloc_past _ _ _ hB]; exact hc1)
    (fun m => hl _ (below_drewN (((Below.refl _ _).alloc (Nat.le_refl _) _).alloc (by simp) _) m))
  clear hl
  go_enter Try.func14, Try.ntmps14
  go_wp2_with (go_at_call 16; refine Calls.mono HF.out ?_; rintro e w' ⟨rfl, m, rfl⟩)
  go_ret
  exact ⟨rfl, below_drewN (((Below.refl _ _).alloc (Nat.le_refl _) _).alloc (by simp) _) m⟩
end Go.Proofs.Qxb6614575a
