/- Holdings: ZZindexOf (13). -/
import Derived.Test.Qxb6614575aLeaf
namespace Go.Proofs.Qxb6614575a
open Go.ChangeShapes Go.WideShapes Go.ChangeAt Go.RowKit Go.Maps

set_option maxRecDepth 100000 in
set_option maxHeartbeats 800000 in
/-- ZZindexOf (13): the key is there. -/
theorem indexOf_yes (Bh j : Nat) (mv : Value) (a f c : ByteArray) (r : Int) (w : World) (hB : Bh < w.heap.size) (hc : w.cell? ⟨Bh, 0, none⟩ = some mv)
    (hl : ∀ m, (Instr.lookup 39 mv (.agg #[.string a, .string f, .string c, .int .i8 r]) true).run Try.prog ((w.alloc (.cells #[.string a, .string f, .string c, .int .i8 r] 46)).drewN m) = .ok (.tuple #[.int .i64 j, .bool true]) ((w.alloc (.cells #[.string a, .string f, .string c, .int .i8 r] 46)).drewN m)) :
    Calls Try.prog 13 #[.pointer (some ⟨Bh, 0, none⟩), .string a, .string f, .string c, .int .i8 r] w fun e w' => e = .returned (.tuple #[.int .i64 j, .bool true]) ∧ Below w.heap.size w w' := by
  have hl1 : (Instr.lookup 39 mv (.agg #[.string a, .string f, .string c, .int .i8 r]) true).run Try.prog (w.alloc (.cells #[.string a, .string f, .string c, .int .i8 r] 46)).drew = .ok (.tuple #[.int .i64 j, .bool true]) (w.alloc (.cells #[.string a, .string f, .string c, .int .i8 r] 46)).drew := hl 1
  clear hl
  go_enter Try.func13, Try.ntmps13
  go_wp2
  go_region_with (go_at_call 15; refine (zzKey_any _ _ _ _ _).mono ?_; rintro e w' ⟨rfl, rfl⟩)
  all_goals go_wp2
  all_goals go_ret2
  all_goals exact ⟨rfl, Below.drew ((Below.refl _ _).alloc (Nat.le_refl _) _)⟩
end Go.Proofs.Qxb6614575a
