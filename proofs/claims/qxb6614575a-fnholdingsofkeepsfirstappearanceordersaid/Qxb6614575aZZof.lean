/- Holdings: ZZof (7). -/
import Derived.Test.Qxb6614575aOfNo
import Derived.Test.Qxb6614575aOfNil
namespace Go.Proofs.Qxb6614575a
open Go.ChangeShapes Go.WideShapes Go.ChangeAt Go.RowKit Go.Maps

theorem row_shape {w : World} {B e s n : Nat} {v : Value} {xs : List Value} (h : w.ownsRow B e s v n xs) : ∃ x cap, v = .slice x n cap := by
  rcases h.2 with ⟨rfl, rfl⟩ | ⟨g, cap, _, rfl, _⟩
  · exact ⟨none, 0, rfl⟩
  · exact ⟨_, cap, rfl⟩

theorem of_no (B Bh : Nat) (ms : List HK) (mv hv : Value) (a f c : ByteArray) (r : Int) (w : World) (hlen : ms.length ≤ 1024) (hst : St w B Bh ms mv hv) (hBs : B ≤ w.heap.size)
    (hg : Good ms) (hk : (HK.mk a f c r).ok) (hn : (HK.mk a f c r) ∉ ms) :
    Calls Try.prog 14 #[.pointer (some ⟨Bh, 0, none⟩), .agg #[.string a, .string f, .string c, .int .i8 r]] w (OfPost w B Bh ms ⟨a, f, c, r⟩) := by
  obtain ⟨x, cap, rfl⟩ := row_shape hst.2.2.2
  have h2 := hst.2.2.1
  rcases h2 with ⟨rfl, _⟩ | ⟨bm, rfl, _⟩
  · exact of_no_nil B Bh ms a f c r w x cap hlen hst hBs hg hk hn
  · exact of_no_map B Bh bm ms a f c r w x cap hlen hst hBs hg hk hn

theorem zzof_no (B Bh : Nat) (ms : List HK) (mv hv : Value) (a f c : ByteArray) (r : Int) (w : World) (hlen : ms.length ≤ 1024) (hst : St w B Bh ms mv hv) (hBs : B ≤ w.heap.size)
    (hg : Good ms) (hk : (HK.mk a f c r).ok) (hn : (HK.mk a f c r) ∉ ms) :
    Calls Try.prog 7 #[.pointer (some ⟨Bh, 0, none⟩), .string a, .string f, .string c, .int .i8 r] w (OfPost w B Bh ms ⟨a, f, c, r⟩) := by
  have hb1 : Below w.heap.size w (w.alloc (.cells #[.string a, .string f, .string c, .int .i8 r] 46)) := (Below.refl _ _).alloc (Nat.le_refl _) _
  have HF : Hid _ := of_no B Bh ms mv hv a f c r (w.alloc (.cells #[.string a, .string f, .string c, .int .i8 r] 46)) hlen (hst.below hb1) (by simp; omega) hg hk hn
  have HB : Hid (Below B w (w.alloc (.cells #[.string a, .string f, .string c, .int .i8 r] 46)) ∧ Kp w (w.alloc (.cells #[.string a, .string f, .string c, .int .i8 r] 46))) := ⟨hb1.mono hBs, Kp.below hb1⟩
  clear hst hg hk hn hb1
  go_enter Try.func7, Try.ntmps7
  go_wp2_with (first | (go_at_call 15; refine (zzKey_any _ _ _ _ _).mono ?_; rintro e w' ⟨rfl, rfl⟩) | (go_at_call 14; refine Calls.mono HF.out ?_; rintro e w' ⟨g, cap, mv', rfl, h1, h2, h3⟩))
  go_ret
  exact ⟨g, cap, mv', rfl, h1, HB.out.1.trans h2, HB.out.2.trans h3⟩

theorem zzof_yes (B Bh g j cap : Nat) (ms : List HK) (mv : Value) (a f c : ByteArray) (r : Int) (w : World) (hst : St w B Bh ms mv (.slice (some ⟨g, 0, none⟩) ms.length cap)) (hg : Good ms) (hj : ms[j]? = some (HK.mk a f c r)) :
    Calls Try.prog 7 #[.pointer (some ⟨Bh, 0, none⟩), .string a, .string f, .string c, .int .i8 r] w fun e w' => e = .returned (.pointer (some ⟨g, j * 5 + 4, none⟩)) ∧ Below w.heap.size w w' := by
  have hb1 : Below w.heap.size w (w.alloc (.cells #[.string a, .string f, .string c, .int .i8 r] 46)) := (Below.refl _ _).alloc (Nat.le_refl _) _
  have hs1 := hst.below hb1
  have hB := lt_blk hs1.2.1
  have e0 : (w.alloc (.cells #[.string a, .string f, .string c, .int .i8 r] 46)).cell? ⟨Bh, 0, none⟩ = some mv := by rw [cell_blk hs1.2.1]; rfl
  have e1 : (w.alloc (.cells #[.string a, .string f, .string c, .int .i8 r] 46)).cell? ⟨Bh, 1, none⟩ = some (.slice (some ⟨g, 0, none⟩) ms.length cap) := by rw [cell_blk hs1.2.1]; rfl
  have hl : ∀ W, Below (w.alloc (.cells #[.string a, .string f, .string c, .int .i8 r] 46)).heap.size (w.alloc (.cells #[.string a, .string f, .string c, .int .i8 r] 46)) W → (Instr.lookup 39 mv (.agg #[.string a, .string f, .string c, .int .i8 r]) true).run Try.prog W = .ok (.tuple #[.int .i64 (j : Int), .bool true]) W := fun W hW => by
    have hI : Idx W B mv ms := hs1.2.2.1.below hW
    have := Idx.yes (k := ⟨a, f, c, r⟩) hI hg hj
    unfold HK.val at this
    exact this
  have hjl : j < ms.length := (List.getElem?_eq_some_iff.1 hj).1
  have HF : Hid _ := of_yes Bh g j ms.length cap mv a f c r (w.alloc (.cells #[.string a, .string f, .string c, .int .i8 r] 46)) hB hjl e0 e1 hl
  have HB : Hid (Below w.heap.size w (w.alloc (.cells #[.string a, .string f, .string c, .int .i8 r] 46))) := hb1
  clear hst hg hj hb1 hs1 hB e0 e1 hl hjl
  go_enter Try.func7, Try.ntmps7
  go_wp2_with (first | (go_at_call 15; refine (zzKey_any _ _ _ _ _).mono ?_; rintro e w' ⟨rfl, rfl⟩) | (go_at_call 14; refine Calls.mono HF.out ?_; rintro e w' ⟨rfl, h1⟩))
  go_ret
  exact ⟨rfl, HB.out.trans (h1.mono (by simp))⟩
end Go.Proofs.Qxb6614575a
