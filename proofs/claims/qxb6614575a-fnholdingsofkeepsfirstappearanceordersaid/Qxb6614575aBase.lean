/- Holdings: the keys, the state of a Holdings in memory, what a call keeps. -/
import Derived.Test.Qxb6614575aProg
import Derived.WalkKit
import Derived.ProofKit
import Derived.OpenShut
import Derived.Outline
import Derived.Handy
import Derived.WalkSmall
import Derived.WalkSpells
import Derived.WalkLawsBesides
import Derived.Maps.Own
import Derived.Maps.OwnSet
import Derived.Laws.StructEq
import Derived.DeepKeys4
namespace Go.Proofs.Qxb6614575a
open Go.ChangeShapes Go.WideShapes Go.ChangeAt Go.RowKit Go.Maps

/-- A holding's key. -/
structure HK where
  a : ByteArray
  f : ByteArray
  c : ByteArray
  r : Int

def HK.cells (k : HK) : List Value := [.string k.a, .string k.f, .string k.c, .int .i8 k.r]
def HK.val (k : HK) : Value := .agg #[.string k.a, .string k.f, .string k.c, .int .i8 k.r]
def HK.ok (k : HK) : Prop := k.a.size ≤ maxLen ∧ k.f.size ≤ maxLen ∧ k.c.size ≤ maxLen ∧ (Lit.int .i8 k.r).wf = true

theorem laidOut : laidOutB Try.prog = true := by kernel_rfl
theorem row46 : 46 < Try.prog.types.size := of_decide_eq_true (by kernel_rfl)
theorem wide46 : (match Try.prog.underlying 46 with | some (.array _ _) | some (.struct _) => true | _ => false) = true := by kernel_rfl
set_option maxRecDepth 100000 in
theorem law0 : WideMaps.KeyLaw Try.prog 46 := deep_law_laid laidOut (m := 2) (by omega) row46 (by kernel_rfl) wide46
theorem law : Keyed Try.prog 46 := Keyed.of_law law0
theorem zero3 (w : World) : (zeroValue 3).run Try.prog w = .ok (.int .i64 0) w := by kernel_rfl
theorem cells46 : Try.prog.cellsOf 46 = 4 := by kernel_rfl
theorem cells9 : Try.prog.cellsOf 9 = 1 := by kernel_rfl
theorem cells44 : Try.prog.cellsOf 44 = 1 := by kernel_rfl
theorem keyType46 : Try.prog.keyType 46 = true := by kernel_rfl

theorem keyLits46 (k : HK) (h : k.ok) (d : Nat) : Try.prog.keyLits (d + 2) 46 k.cells = some [.string k.a.data.toList, .string k.f.data.toList, .string k.c.data.toList, .int .i8 k.r] := by
  obtain ⟨h1, h2, h3, h4⟩ := h
  have s1 : ∀ s : ByteArray, s.size ≤ maxLen → Try.prog.keyLits (d + 1) 9 [.string s] = some [.string s.data.toList] := fun s hs => by
    unfold Program.keyLits
    rw [Try.underlying9]
    simp only [hs, if_pos]
  have s2 : Try.prog.keyLits (d + 1) 44 [.int .i8 k.r] = some [.int .i8 k.r] := by
    unfold Program.keyLits
    rw [Try.underlying44]
    simp only [h4, and_self, if_pos]
  unfold Program.keyLits
  rw [Try.underlying46]
  simp [HK.cells, cells46, cells9, cells44, s1 _ h1, s1 _ h2, s1 _ h3, s2]

/-- What a key reads as. -/
def HK.lit (k : HK) : Lit := .string (keyBytes [.string k.a.data.toList, .string k.f.data.toList, .string k.c.data.toList, .int .i8 k.r])

theorem keyOf_val (k : HK) (h : k.ok) : keyOf Try.prog 46 k.val = some k.lit := by
  obtain ⟨d, hd⟩ : ∃ d, Try.prog.types.size + 1 = d + 2 := ⟨Try.prog.types.size - 1, by have := row46; omega⟩
  have hf : k.val.formed Try.prog 46 = true := by
    simp only [HK.val, Value.formed]
    rw [Try.underlying46, cells46]
    rfl
  have hc : k.val.cells.toList = k.cells := rfl
  unfold keyOf
  rw [Try.underlying46]
  simp only [keyType46, hf, Bool.and_self, if_pos, hd, hc, keyLits46 k h d]
  rfl

theorem lit_inj {k k' : HK} (h : k.ok) (h' : k'.ok) (e : k.lit = k'.lit) : k = k' := by
  have e1 := keyOf_val k h
  have e2 := keyOf_val k' h'
  rw [← e] at e2
  have := law.inj e1 e2
  obtain ⟨a, f, c, r⟩ := k
  obtain ⟨a', f', c', r'⟩ := k'
  simp [HK.val] at this
  simp [this]

end Go.Proofs.Qxb6614575a
