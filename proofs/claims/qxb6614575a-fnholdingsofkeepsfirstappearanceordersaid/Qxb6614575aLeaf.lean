/- Holdings: the contracts of the small functions. -/
import Derived.Test.Qxb6614575aState
import Derived.Deep.QuietTactic
import Derived.BigQuiet
import Derived.Deep.RegionWith
import Derived.BigRegion
namespace Go.Proofs.Qxb6614575a
open Go.ChangeShapes Go.WideShapes Go.ChangeAt Go.RowKit Go.Maps

/-- zzKey (15): the key, boxed. -/
theorem zzKey_any (a f c : ByteArray) (r : Int) (w : World) :
    Calls Try.prog 15 #[.string a, .string f, .string c, .int .i8 r] w fun e w' => e = .returned (.agg #[.string a, .string f, .string c, .int .i8 r]) ∧ w' = w.alloc (.cells #[.string a, .string f, .string c, .int .i8 r] 46) := by
  go_enter Try.func15, Try.ntmps15
  go_wp2
  exact bodyPost_ret (v := .agg #[.string a, .string f, .string c, .int .i8 r]) (by simp [results, Try.results15, go_sem]) rfl ⟨rfl, rfl⟩

/-- ZZheldLen (8). -/
theorem heldLen_any (Bh : Nat) (w : World) (x : Option Addr) (n cap : Nat) (hc : w.cell? ⟨Bh, 1, none⟩ = some (.slice x n cap)) :
    Calls Try.prog 8 #[.pointer (some ⟨Bh, 0, none⟩)] w fun e w' => e = .returned (.int .i64 n) ∧ w' = w := by
  go_enter Try.func8, Try.ntmps8
  go_wp2
  go_ret
  exact ⟨rfl, rfl⟩

/-- ZZheldLots (9). -/
theorem heldLots_any (Bh g j n cap : Nat) (w : World) (hj : j < n) (hc : w.cell? ⟨Bh, 1, none⟩ = some (.slice (some ⟨g, 0, none⟩) n cap)) :
    Calls Try.prog 9 #[.pointer (some ⟨Bh, 0, none⟩), .int .i64 j] w fun e w' => e = .returned (.pointer (some ⟨g, j * 5 + 4, none⟩)) ∧ w' = w := by
  go_enter Try.func9, Try.ntmps9
  go_wp2
  go_ret
  exact ⟨rfl, rfl⟩

/-- ZZlotsLen (10). -/
theorem lotsLen_any (g o : Nat) (w : World) (hc : w.cell? ⟨g, o, none⟩ = some (.slice none 0 0)) :
    Calls Try.prog 10 #[.pointer (some ⟨g, o, none⟩)] w fun e w' => e = .returned (.int .i64 0) ∧ w' = w := by
  go_enter Try.func10, Try.ntmps10
  go_wp2
  go_ret
  exact ⟨rfl, rfl⟩

/-- ZZnewHoldings (5). -/
theorem newHoldings_any (w : World) :
    Calls Try.prog 5 #[] w fun e w' => e = .returned (.pointer (some ⟨w.heap.size, 0, none⟩)) ∧ w' = w.alloc (.cells #[.map none, .slice none 0 0] 42) := by
  go_enter Try.func5, Try.ntmps5
  go_wp2
  go_ret
  exact ⟨rfl, rfl⟩

/-- ZZindexLen (11). -/
theorem indexLen_any (Bh n : Nat) (mv : Value) (w : World) (hc : w.cell? ⟨Bh, 0, none⟩ = some mv) (hl : ∀ ty, (Builtin.len_ #[39] ty #[mv]).run Try.prog w = .ok (.int .i64 n) w) :
    Calls Try.prog 11 #[.pointer (some ⟨Bh, 0, none⟩)] w fun e w' => e = .returned (.int .i64 n) ∧ w' = w := by
  go_enter Try.func11, Try.ntmps11
  go_wp2
  go_ret
  exact ⟨rfl, rfl⟩

/-- ZZheldKey (12). -/
theorem heldKey_any (Bh g j n cap : Nat) (a f c : ByteArray) (r : Int) (w : World) (hj : j < n) (hc : w.cell? ⟨Bh, 1, none⟩ = some (.slice (some ⟨g, 0, none⟩) n cap))
    (c0 : w.cell? ⟨g, j * 5, none⟩ = some (.string a)) (c1 : w.cell? ⟨g, j * 5 + 1, none⟩ = some (.string f)) (c2 : w.cell? ⟨g, j * 5 + 2, none⟩ = some (.string c)) (c3 : w.cell? ⟨g, j * 5 + 3, none⟩ = some (.int .i8 r)) :
    Calls Try.prog 12 #[.pointer (some ⟨Bh, 0, none⟩), .int .i64 j] w fun e w' => e = .returned (.tuple #[.string a, .string f, .string c, .int .i8 r]) ∧ Below w.heap.size w w' := by
  go_enter Try.func12, Try.ntmps12
  go_wp2
  go_quiet (fail)
  go_wp2
  refine bodyPost_ret (v := .tuple #[.string a, .string f, .string c, .int .i8 r]) (by simp [results, Try.results12, go_sem]) rfl ⟨rfl, ?_⟩
  exact below_drewN ((Below.refl _ _).alloc (Nat.le_refl _) _) _

/-- find (16): the key is not there. -/
theorem find_no (Bh : Nat) (mv : Value) (a f c : ByteArray) (r : Int) (w : World) (hB : Bh < w.heap.size) (hc : w.cell? ⟨Bh, 0, none⟩ = some mv)
    (hl : ∀ m, (Instr.lookup 39 mv (.agg #[.string a, .string f, .string c, .int .i8 r]) true).run Try.prog ((w.alloc (.cells #[.string a, .string f, .string c, .int .i8 r] 46)).drewN m) = .ok (.tuple #[.int .i64 0, .bool false]) ((w.alloc (.cells #[.string a, .string f, .string c, .int .i8 r] 46)).drewN m)) :
    Calls Try.prog 16 #[.pointer (some ⟨Bh, 0, none⟩), .agg #[.string a, .string f, .string c, .int .i8 r]] w fun e w' => e = .returned (.pointer none) ∧ ∃ m, w' = (w.alloc (.cells #[.string a, .string f, .string c, .int .i8 r] 46)).drewN m := by
  go_enter Try.func16, Try.ntmps16
  go_wp2
  go_quiet (fail)
  go_wp2
  go_ret
  exact ⟨rfl, _, rfl⟩

/-- find (16): the key is there. -/
theorem find_yes (Bh g j n cap : Nat) (mv : Value) (a f c : ByteArray) (r : Int) (w : World) (hB : Bh < w.heap.size) (hj : j < n) (hc : w.cell? ⟨Bh, 0, none⟩ = some mv) (hc1 : w.cell? ⟨Bh, 1, none⟩ = some (.slice (some ⟨g, 0, none⟩) n cap))
    (hl : ∀ m, (Instr.lookup 39 mv (.agg #[.string a, .string f, .string c, .int .i8 r]) true).run Try.prog ((w.alloc (.cells #[.string a, .string f, .string c, .int .i8 r] 46)).drewN m) = .ok (.tuple #[.int .i64 j, .bool true]) ((w.alloc (.cells #[.string a, .string f, .string c, .int .i8 r] 46)).drewN m)) :
    Calls Try.prog 16 #[.pointer (some ⟨Bh, 0, none⟩), .agg #[.string a, .string f, .string c, .int .i8 r]] w fun e w' => e = .returned (.pointer (some ⟨g, j * 5 + 4, none⟩)) ∧ ∃ m, w' = (w.alloc (.cells #[.string a, .string f, .string c, .int .i8 r] 46)).drewN m := by
  go_enter Try.func16, Try.ntmps16
  go_wp2
  go_quiet (fail)
  go_wp2
  go_ret
  exact ⟨rfl, _, rfl⟩

end Go.Proofs.Qxb6614575a
