/- Holdings: of (14) where the key is not there and the index is still nil. -/
import Derived.Test.Qxb6614575aOfLaws
namespace Go.Proofs.Qxb6614575a
open Go.ChangeShapes Go.WideShapes Go.ChangeAt Go.RowKit Go.Maps

/-- The index made: the state behind 'h.index = make(map[holding]int)'. -/
theorem made_state {w : World} {B Bh : Nat} {ms : List HK} {hv : Value} (h : St w B Bh ms (.map none) hv) (hBs : B ≤ w.heap.size) :
    St ((w.setCell ⟨Bh, 0, none⟩ (.map (some w.heap.size))).alloc (.map #[] 0)) B Bh ms (.map (some w.heap.size)) hv ∧ Below B w ((w.setCell ⟨Bh, 0, none⟩ (.map (some w.heap.size))).alloc (.map #[] 0)) ∧ Kp w ((w.setCell ⟨Bh, 0, none⟩ (.map (some w.heap.size))).alloc (.map #[] 0)) := by
  obtain ⟨h0, h1, h2, h3⟩ := h
  have hB := lt_blk h1
  have hms : ms = [] := by
    rcases h2 with ⟨_, h⟩ | ⟨b, h, _⟩
    · exact h
    · simp at h
  subst hms
  have hs : (w.setCell ⟨Bh, 0, none⟩ (.map (some w.heap.size))).heap.size = w.heap.size := by simp [World.setCell]
  have g1 := setCell_blk (i := 0) h1 (.map (some w.heap.size))
  refine ⟨⟨h0, ?_, ?_, ?_⟩, ?_, ?_⟩
  · rw [Below.heap_alloc _ _ _ (by rw [hs]; exact hB), g1]; rfl
  · refine Or.inr ⟨w.heap.size, rfl, hBs, ?_⟩
    have := World.ownsMap_made (w.setCell ⟨Bh, 0, none⟩ (.map (some w.heap.size))) Try.prog 46 (plainElem (H := Unit) Try.prog 3)
    rw [hs] at this
    exact this
  · exact (ownsRow_setCell_other (a := ⟨Bh, 0, none⟩) h3 (fun e => (row_ne2 h3 h1) e.symm) _).alloc _
  · exact ((Below.refl _ _).setCell h0 _).alloc (by rw [hs]; exact hBs) _
  · exact (Kp.setCell h1 (by decide) _).trans (Kp.below ((Below.refl _ _).alloc (Nat.le_refl _) _))

set_option maxRecDepth 100000 in
set_option maxHeartbeats 1000000 in
theorem of_no_nil (B Bh : Nat) (ms : List HK) (a f c : ByteArray) (r : Int) (w : World) (x : Option Addr) (cap : Nat) (hlen : ms.length ≤ 1024) (hst : St w B Bh ms (.map none) (.slice x ms.length cap)) (hBs : B ≤ w.heap.size)
    (hg : Good ms) (hk : (HK.mk a f c r).ok) (hn : (HK.mk a f c r) ∉ ms) :
    Calls Try.prog 14 #[.pointer (some ⟨Bh, 0, none⟩), .agg #[.string a, .string f, .string c, .int .i8 r]] w (OfPost w B Bh ms ⟨a, f, c, r⟩) := by
  have h1 := hst.2.1
  have hB := lt_blk h1
  have HF : Hid _ := find_no Bh (.map none) a f c r (w.alloc (.cells #[.string a, .string f, .string c, .int .i8 r] 46)) (by simp; omega) (by rw [World.cell?_alloc_past _ _ _ hB, cell_blk h1]; rfl)
    (fun m => (hst.2.2.1.below (below_drewN (((Below.refl _ _).alloc (Nat.le_refl _) _).alloc (by simp) _) m)).no hg hk hn)
  have hnil := fun (w : World) (m : Option Nat) => run_eql_map_nil (P := Try.prog) w 39 46 3 m Try.underlying39
  have hmm := @run_makeMap Try.prog
  have HS : Hid (St w B Bh ms (.map none) (.slice x ms.length cap)) := hst
  have HG : Hid (Good ms ∧ (HK.mk a f c r).ok ∧ (HK.mk a f c r) ∉ ms) := ⟨hg, hk, hn⟩
  obtain ⟨i0, hi, hz0, hz1, hz2⟩ := info_parts info51
  clear h1 hst hg hk hn
  go_enter Try.func14, Try.ntmps14
  go_wp2_with fail
  refine Calls.mono HF.out ?_
  rintro e W ⟨rfl, m, hW⟩
  have hbW : Below (w.alloc (.cells #[.string a, .string f, .string c, .int .i8 r] 46)).heap.size (w.alloc (.cells #[.string a, .string f, .string c, .int .i8 r] 46)) W := by rw [hW]; exact below_drewN ((Below.refl _ _).alloc (Nat.le_refl _) _) m
  have hbw : Below w.heap.size w W := ((Below.refl _ _).alloc (Nat.le_refl _) _).trans (hbW.mono (by simp))
  have hW0 := HS.out.below hbw
  have g2 : W.heap[w.heap.size]? = some (.cells #[.string a, .string f, .string c, .int .i8 r] 46 (0, 0)) := by rw [hbW.block _ (by simp)]; exact heap_alloc_new w _
  have g1 := hW0.2.1
  have c0 : W.cell? ⟨Bh, 0, none⟩ = some (.map none) := cell_blk g1 0
  have f0 : W.frozen? ⟨Bh, 0, none⟩ = false := frozen_blk g1 0
  have lW : Bh < W.heap.size := lt_blk g1
  have G0 : Hid (St W B Bh ms (.map none) (.slice x ms.length cap) ∧ Below w.heap.size w W ∧ W.heap[w.heap.size]? = some (.cells #[.string a, .string f, .string c, .int .i8 r] 46 (0, 0))) := ⟨hW0, hbw, g2⟩
  clear hbw g1 g2 hbW hW0 HS HF hW
  go_wp2
  clear c0 f0 hmm hnil
  obtain ⟨hW0, hbw, g2⟩ := G0.out
  obtain ⟨hV, hbV, hkV⟩ := made_state hW0 (Nat.le_trans hBs hbw.size)
  have hbm' : w.heap.size < W.heap.size := lt_blk g2
  have g2' : ((W.setCell ⟨Bh, 0, none⟩ (.map (some W.heap.size))).alloc (.map #[] 0)).heap[w.heap.size]? = some (.cells #[.string a, .string f, .string c, .int .i8 r] 46 (0, 0)) := by
    rw [Below.heap_alloc _ _ _ (by simpa [World.setCell] using hbm'), Below.heap_setCell _ _ _ _ (by show w.heap.size ≠ Bh; omega)]; exact g2
  have hBm : Bh ≠ W.heap.size := by omega
  generalize (W.setCell ⟨Bh, 0, none⟩ (.map (some W.heap.size))).alloc (.map #[] 0) = V at hV hbV hkV g2' ⊢
  generalize W.heap.size = bm at hV hBm hbm' ⊢
  have hb0 : Below B w V := (hbw.mono hBs).trans hbV
  have hkp : Kp w V := (Kp.below hbw).trans hkV
  clear hW0 hbw g2 hbV hkV G0
  obtain ⟨W3, hrun0, hm3, hgr⟩ := up_run hV HG.out.2.1 hlen
  have hrun : (Instr.mapUpdate 39 (.map (some bm)) (.agg #[.string a, .string f, .string c, .int .i8 r]) (.int .i64 ms.length)).run Try.prog V.drew = .ok () W3 := hrun0
  have g1 := hV.2.1
  have hmap := map_of_st hV
  have g3 : W3.heap[Bh]? = some (.cells #[.map (some bm), (.slice x ms.length cap)] 42 (0, 0)) := by rw [hgr.block Bh (lt_blk g1) (by simpa using hBm)]; exact g1
  have g4 : W3.heap[w.heap.size]? = some (.cells #[.string a, .string f, .string c, .int .i8 r] 46 (0, 0)) := by rw [hgr.block _ (lt_blk g2') (by simp; omega)]; exact g2'
  have c0 : V.cell? ⟨Bh, 0, none⟩ = some (.map (some bm)) := cell_blk g1 0
  have c1 : V.cell? ⟨Bh, 1, none⟩ = some (.slice x ms.length cap) := cell_blk g1 1
  have k0 : V.cell? ⟨w.heap.size, 0, none⟩ = some (.string a) := cell_blk g2' 0
  have k1 : V.cell? ⟨w.heap.size, 1, none⟩ = some (.string f) := cell_blk g2' 1
  have k2 : V.cell? ⟨w.heap.size, 2, none⟩ = some (.string c) := cell_blk g2' 2
  have k3 : V.cell? ⟨w.heap.size, 3, none⟩ = some (.int .i8 r) := cell_blk g2' 3
  have G : Hid (St V B Bh ms (.map (some bm)) (.slice x ms.length cap) ∧ Below B w V ∧ Kp w V ∧ W3.ownsMap Try.prog 46 (plainElem Try.prog 3) bm (ms.length + 1) (dOf (ms ++ [⟨a, f, c, r⟩])) ∧ V.grownBy W3 (some bm) ∧
      W3.heap[Bh]? = some (.cells #[.map (some bm), (.slice x ms.length cap)] 42 (0, 0)) ∧ W3.heap[w.heap.size]? = some (.cells #[.string a, .string f, .string c, .int .i8 r] 46 (0, 0)) ∧ W3.ownsRow B 51 5 (.slice x ms.length cap) ms.length (heldCells ms)) :=
    ⟨hV, hb0, hkp, hm3, hgr, g3, g4, hV.2.2.2.kept hgr (row_ne hV.2.2.2 hmap)⟩
  clear hgr g1 g2' g3 g4 hm3 hV hmap hb0 hkp HG hrun0 hbm' hBm
  go_region
  clear c0 c1 k0 k1 k2 k3 hrun
  obtain ⟨hV, hb0, hkp, hm3, hgr, g3, g4, o3⟩ := G.out
  have c1 : W3.cell? ⟨Bh, 1, none⟩ = some (.slice x ms.length cap) := cell_blk g3 1
  have k0 : W3.cell? ⟨w.heap.size, 0, none⟩ = some (.string a) := cell_blk g4 0
  have k1 : W3.cell? ⟨w.heap.size, 1, none⟩ = some (.string f) := cell_blk g4 1
  have k2 : W3.cell? ⟨w.heap.size, 2, none⟩ = some (.string c) := cell_blk g4 2
  have k3 : W3.cell? ⟨w.heap.size, 3, none⟩ = some (.int .i8 r) := cell_blk g4 3
  have l3 : Bh < W3.heap.size := lt_blk g3
  have l4 : w.heap.size < W3.heap.size := lt_blk g4
  have S1 : Hid ((W3.alloc (.cells #[.string a, .string f, .string c, .int .i8 r, .slice none 0 0] 51)).drew.ownsRow B 51 5 (.slice x ms.length cap) ms.length (heldCells ms)) := (o3.alloc _).drew
  have S2 : Hid (∀ j u, ([.string a, .string f, .string c, .int .i8 r, .slice none 0 0] : List Value)[j]? = some u → (W3.alloc (.cells #[.string a, .string f, .string c, .int .i8 r, .slice none 0 0] 51)).drew.cell? ((⟨W3.heap.size, 0, none⟩ : Addr).add j) = some u) := new_cells W3 [.string a, .string f, .string c, .int .i8 r, .slice none 0 0] 51
  have S3 : Hid (∀ u ∈ ([.string a, .string f, .string c, .int .i8 r, .slice none 0 0] : List Value), u.oneCell' = true) := by intro u hu; simp at hu; rcases hu with rfl | rfl | rfl | rfl | rfl <;> rfl
  have S4 : Hid (ms.length + 1 ≤ maxLen) := by unfold maxLen; exact (by omega : ms.length + 1 ≤ 9223372036854775807)
  have S5 : Hid ((ms.length + 1) * 80 ≤ 140737488355328) := (by omega : (ms.length + 1) * 80 ≤ 140737488355328)
  have S6 : Hid (B ≤ (W3.alloc (.cells #[.string a, .string f, .string c, .int .i8 r, .slice none 0 0] 51)).drew.heap.size) := by show B ≤ (W3.alloc (.cells #[.string a, .string f, .string c, .int .i8 r, .slice none 0 0] 51)).heap.size; simp; omega
  have S7 : Hid (0 < ms.length + 1) := Nat.succ_pos _
  have S8 : Hid (∀ w4, (W3.alloc (.cells #[.string a, .string f, .string c, .int .i8 r, .slice none 0 0] 51)).drew.grownBy w4 (Value.slice x ms.length cap).ownBlock → w4.heap[Bh]? = some (.cells #[.map (some bm), (.slice x ms.length cap)] 42 (0, 0))) := by
    intro w4 hg4
    rw [hg4.block Bh (by show Bh < (W3.alloc (.cells #[.string a, .string f, .string c, .int .i8 r, .slice none 0 0] 51)).heap.size; simp; omega) (row_ne2 o3 g3)]
    show (W3.alloc (.cells #[.string a, .string f, .string c, .int .i8 r, .slice none 0 0] 51)).heap[Bh]? = _
    rw [Below.heap_alloc W3 _ Bh l3]; exact g3
  have F : Hid (∀ (g' cap' : Nat) (w4 : World), w4.ownsRow B 51 5 (.slice (some ⟨g', 0, none⟩) (ms.length + 1) cap') (ms.length + 1) (heldCells ms ++ [.string a, .string f, .string c, .int .i8 r, .slice none 0 0]) → (W3.alloc (.cells #[.string a, .string f, .string c, .int .i8 r, .slice none 0 0] 51)).drew.grownBy w4 (Value.slice x ms.length cap).ownBlock →
      St (w4.setCell ⟨Bh, 1, none⟩ (.slice (some ⟨g', 0, none⟩) (ms.length + 1) cap')) B Bh (ms ++ [⟨a, f, c, r⟩]) (.map (some bm)) (.slice (some ⟨g', 0, none⟩) (ms.length + 1) cap') ∧
      Below B w (w4.setCell ⟨Bh, 1, none⟩ (.slice (some ⟨g', 0, none⟩) (ms.length + 1) cap')) ∧ Kp w (w4.setCell ⟨Bh, 1, none⟩ (.slice (some ⟨g', 0, none⟩) (ms.length + 1) cap'))) :=
    fun g' cap' w4 o4 g4 => of_finish (k := ⟨a, f, c, r⟩) hV (Nat.le_trans hBs hb0.size) hb0 hkp rfl hgr hm3 (grown_undrew g4) o4
  clear hV hb0 hkp hm3 hgr g3 g4 o3 G
  go_wp2
  go_region_law (refine step_append_own rfl (.tmp 35) (.tmp 38) 40 rfl B 51 i0 _ 5 80 Try.underlying40 hi hz0 hz1 hz2 rfl (by decide) (.slice x ms.length cap) ms.length (heldCells ms) (by simp [Act.eval]) S1.out ⟨W3.heap.size, 0, none⟩ 1 1 [.string a, .string f, .string c, .int .i8 r, .slice none 0 0] (by simp [Act.eval]) rfl S2.out S3.out S4.out S5.out S6.out S7.out ?_; intro g' cap' w4 hown4 hgr4; have c4 : w4.cell? ⟨Bh, 1, none⟩ = some (.slice x ms.length cap) := cell_blk (S8.out w4 hgr4) 1; have f4 : w4.frozen? ⟨Bh, 1, none⟩ = false := frozen_blk (S8.out w4 hgr4) 1)
  all_goals
    clear S1 S2 S3 S4 S5 S6 S7 S8 c1 k0 k1 k2 k3
    go_wp2
    go_quiet (fail)
    go_wp2
    go_ret
    obtain ⟨r1, r2, r3⟩ := F.out g' cap' w4 hown4 hgr4
    exact ⟨g', cap', _, rfl, r1, below_drewN r2 _, r3⟩

end Go.Proofs.Qxb6614575a
