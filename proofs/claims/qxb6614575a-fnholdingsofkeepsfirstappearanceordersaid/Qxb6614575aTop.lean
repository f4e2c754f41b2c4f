/- Holdings: the walk of the law (function 3) over a slice of at most 1024 keys. -/
import Derived.Test.Qxb6614575aTopLaws
import Derived.Deep.RegionHeld3
namespace Go.Proofs.Qxb6614575a
open Go.ChangeShapes Go.WideShapes Go.ChangeAt Go.RowKit Go.Maps

set_option maxHeartbeats 4000000 in
set_option maxRecDepth 100000 in
theorem top (b off len cap : Nat) (ks : List HK) (w : World) (hk : KeysAt w b off len ks) (hm : len ≤ 1024) (hb : b < w.heap.size) : Calls Try.prog 3 #[.slice (some ⟨b, off, none⟩) len cap] w fun e w' => e = .returned (.bool true) ∧ Below w.heap.size w w' := by
  have HK' : Hid (KeysAt w b off len ks) := hk
  clear hk
  go_enter Try.func3, Try.ntmps3
  go_wp2_with fail
  refine (bytes_any b off len cap ks w HK'.out (by unfold maxLen; omega)).mono ?_
  rintro e w' ⟨bo, rfl, rfl⟩
  cases bo
  · go_wp2
    go_ret
    exact ⟨rfl, Below.refl _ _⟩
  · go_wp2
    go_loop [3, 4] (fun t i => ∃ (k : Nat) (s : Int), k ≤ len ∧ i = .int .i64 k ∧ t = .int .i64 s) (fun _ i => len - (intOf i).toNat)
    case atStart => exact ⟨0, _, Nat.zero_le _, rfl, rfl⟩
    case round =>
      obtain ⟨k, s, hkl, rfl, rfl⟩ := hrel
      by_cases hlt : k < len
      · obtain ⟨key, hkey⟩ : ∃ key, ks[k]? = some key := ⟨_, List.getElem?_eq_getElem (by rw [HK'.out.1]; exact hlt)⟩
        obtain ⟨c0, c1, c2, _, _, _, _, _⟩ := HK'.out.2 k key hkey
        obtain ⟨a, f, c, r⟩ := key
        clear hkey
        go_wp2
        case roundEnd =>
          go_round
          case rel => exact ⟨k + 1, _, by omega, by go_num, rfl⟩
          case measure => simp [intOf]; omega
        all_goals (go_ret; exact ⟨rfl, Below.refl _ _⟩)
      · go_wp2
        go_loop [5] (fun i => ∃ (k : Nat), k ≤ len ∧ i = .int .i64 k) (fun i => len - (intOf i).toNat)
        case atStart => exact ⟨0, Nat.zero_le _, rfl⟩
        case round =>
          obtain ⟨k2, hkl2, rfl⟩ := hrel
          by_cases hlt2 : k2 < len
          · obtain ⟨key, hkey⟩ : ∃ key, ks[k2]? = some key := ⟨_, List.getElem?_eq_getElem (by rw [HK'.out.1]; exact hlt2)⟩
            obtain ⟨_, _, _, c3, _, _, _, _⟩ := HK'.out.2 k2 key hkey
            obtain ⟨a, f, c, r⟩ := key
            clear hkey
            go_wp2
            all_goals first
              | (go_ret; exact ⟨rfl, Below.refl _ _⟩)
              | (go_round; (case rel => exact ⟨k2 + 1, by omega, by go_num⟩); (case measure => simp [intOf]; omega))
          · go_wp2_with fail
            refine (newHoldings_any w).mono ?_
            rintro e W0 ⟨rfl, hW0⟩
            have H0 : Hid (L3 w W0 [] (.map none) (.slice none 0 0) (.slice none 0 0) 0) := by rw [hW0]; exact start_state w
            clear hW0
            clear hlt hkl hlt2 hkl2
            go_wp2
            go_loopw [7, 8] (fun v i wr => ∃ (k : Nat) (ms : List HK) (mv hv : Value), k ≤ len ∧ i = .int .i64 k ∧ Hid (L3 w wr ms mv hv v k)) (fun _ i _ => len - (intOf i).toNat)
            case atStart => exact ⟨0, [], _, _, Nat.zero_le _, rfl, H0⟩
            case round =>
              obtain ⟨q, ms, mv, hv, hql, rfl, HL⟩ := hrel
              obtain ⟨x, cp, rfl⟩ := row_shape HL.out.2.1
              by_cases hlt : q < len
              · obtain ⟨key, hkey⟩ : ∃ key, ks[q]? = some key := ⟨_, List.getElem?_eq_getElem (by rw [HK'.out.1]; exact hlt)⟩
                obtain ⟨d0, d1, d2, d3, hok⟩ := HK'.out.2 q key hkey
                obtain ⟨a, f, c, r⟩ := key
                have hbel := HL.out.2.2.2.2
                have c0 : wr.cell? ⟨b, off + q * 4, none⟩ = some (.string a) := (hbel.cell (p := ⟨b, off + q * 4, none⟩) hb).trans d0
                have c1 : wr.cell? ⟨b, off + q * 4 + 1, none⟩ = some (.string f) := (hbel.cell (p := ⟨b, off + q * 4 + 1, none⟩) hb).trans d1
                have c2 : wr.cell? ⟨b, off + q * 4 + 2, none⟩ = some (.string c) := (hbel.cell (p := ⟨b, off + q * 4 + 2, none⟩) hb).trans d2
                have c3 : wr.cell? ⟨b, off + q * 4 + 3, none⟩ = some (.int .i8 r) := (hbel.cell (p := ⟨b, off + q * 4 + 3, none⟩) hb).trans d3
                have HOK : Hid (HK.mk a f c r).ok := hok
                have hlen : ms.length ≤ 1024 := by have := HL.out.2.2.2.1; omega
                clear d0 d1 d2 d3 hok hkey hbel
                go_wp2_with fail
                have hb1 : Below wr.heap.size wr (wr.alloc (.cells #[.string a, .string f, .string c, .int .i8 r] 26)) := (Below.refl _ _).alloc (Nat.le_refl _) _
                by_cases hin : HK.mk a f c r ∈ ms
                · obtain ⟨j, hj⟩ := List.getElem?_of_mem hin
                  refine (place_v w.heap.size ms (.slice x ms.length cp) a f c r _ (ownsRow_below HL.out.2.1 hb1) hlen j (Or.inr ⟨j, rfl, hj, HL.out.2.2.1.2⟩)).mono ?_
                  rintro e W2 ⟨rfl, hb2⟩
                  have hbr : Below wr.heap.size wr W2 := hb1.trans (hb2.mono (by simp))
                  have hbx : W2.heap[wr.heap.size]? = some (.cells #[.string a, .string f, .string c, .int .i8 r] 26 (0, 0)) := by rw [hb2.block _ (by simp)]; exact heap_alloc_new wr _
                  have HL2 : Hid (L3 w W2 ms mv hv (.slice x ms.length cp) q) := HL.out.below hbr
                  obtain ⟨g, cq, rfl⟩ := row_some HL2.out.1.2.2.2 (List.getElem?_eq_some_iff.1 hj).1
                  have k0 : W2.cell? ⟨wr.heap.size, 0, none⟩ = some (.string a) := cell_blk hbx 0
                  have k1 : W2.cell? ⟨wr.heap.size, 1, none⟩ = some (.string f) := cell_blk hbx 1
                  have k2 : W2.cell? ⟨wr.heap.size, 2, none⟩ = some (.string c) := cell_blk hbx 2
                  have k3 : W2.cell? ⟨wr.heap.size, 3, none⟩ = some (.int .i8 r) := cell_blk hbx 3
                  have HJ : Hid (ms[j]? = some (HK.mk a f c r)) := hj
                  have hjl : j < ms.length := (List.getElem?_eq_some_iff.1 hj).1
                  clear HL c0 c1 c2 c3 hb1 hb2 hbr hbx hj hin HOK
                  go_wp2_with fail
                  refine (zzof_yes w.heap.size w.heap.size g j cq ms mv a f c r W2 HL2.out.1 HL2.out.2.2.1 HJ.out).mono ?_
                  rintro e W3 ⟨rfl, hb3⟩
                  have HL3 : Hid (L3 w W3 ms mv (.slice (some ⟨g, 0, none⟩) ms.length cq) (.slice x ms.length cp) q) := HL2.out.below hb3
                  have e1 : W3.cell? ⟨w.heap.size, 1, none⟩ = some (.slice (some ⟨g, 0, none⟩) ms.length cq) := cell_blk HL3.out.1.2.1 1
                  have e2 : W3.cell? ⟨g, j * 5 + 4, none⟩ = some (.slice none 0 0) := (held_key HL3.out.1 HJ.out).2.2.2.2.2
                  clear k0 k1 k2 k3 hb3 HL2 HJ
                  have hpq := neq30
                  go_wp2_with (first | (go_at_call 8; refine (heldLen_any _ _ _ _ _ e1).mono ?_; rintro e w' ⟨rfl, rfl⟩) | (go_at_call 9; refine (heldLots_any _ _ _ _ _ _ hjl e1).mono ?_; rintro e w' ⟨rfl, rfl⟩) | (go_at_call 10; refine (lotsLen_any _ _ _ e2).mono ?_; rintro e w' ⟨rfl, rfl⟩))
                  go_roundw
                  case rel => exact ⟨q + 1, ms, _, _, by omega, by go_num, L3.next HL3.out⟩
                  case measure => simp [intOf]; omega
                · refine (place_v w.heap.size ms (.slice x ms.length cp) a f c r _ (ownsRow_below HL.out.2.1 hb1) hlen (-1) (Or.inl ⟨rfl, hin⟩)).mono ?_
                  rintro e W2 ⟨rfl, hb2⟩
                  have hbr : Below wr.heap.size wr W2 := hb1.trans (hb2.mono (by simp))
                  have hbx : W2.heap[wr.heap.size]? = some (.cells #[.string a, .string f, .string c, .int .i8 r] 26 (0, 0)) := by rw [hb2.block _ (by simp)]; exact heap_alloc_new wr _
                  have HL2 : Hid (L3 w W2 ms mv hv (.slice x ms.length cp) q) := HL.out.below hbr
                  have hlt0 : ∀ j, (Value.slice x ms.length cp).ownBlock = some j → j < wr.heap.size := fun j hj => (HL.out.2.1.lt j hj).2
                  have k0 : W2.cell? ⟨wr.heap.size, 0, none⟩ = some (.string a) := cell_blk hbx 0
                  have k1 : W2.cell? ⟨wr.heap.size, 1, none⟩ = some (.string f) := cell_blk hbx 1
                  have k2 : W2.cell? ⟨wr.heap.size, 2, none⟩ = some (.string c) := cell_blk hbx 2
                  have k3 : W2.cell? ⟨wr.heap.size, 3, none⟩ = some (.int .i8 r) := cell_blk hbx 3
                  have l2 : wr.heap.size < W2.heap.size := lt_blk hbx
                  have HX : Hid (W2.heap[wr.heap.size]? = some (.cells #[.string a, .string f, .string c, .int .i8 r] 26 (0, 0)) ∧ (∀ j, (Value.slice x ms.length cp).ownBlock = some j → j < wr.heap.size) ∧ w.heap.size ≤ W2.heap.size) := ⟨hbx, hlt0, HL2.out.2.2.2.2.size⟩
                  have HI : Hid (HK.mk a f c r ∉ ms) := hin
                  obtain ⟨i0, hi, hz0, hz1, hz2⟩ := info_parts info26
                  clear HL c0 c1 c2 c3 hb1 hb2 hbr hbx hin hlt0
                  go_wp2_with (at_builtin; refine wpList_append_own_some _ rfl (.tmp 100) (.tmp 102) 22 rfl w.heap.size 26 i0 _ 4 56 Try.underlying22 hi hz0 hz1 hz2 rfl (by decide) (.slice x ms.length cp) ms.length (modelCells ms) rfl (HL2.out.2.1.alloc _) ⟨W2.heap.size, 0, none⟩ 1 1 [.string a, .string f, .string c, .int .i8 r] rfl rfl (new_cells0 W2 [.string a, .string f, .string c, .int .i8 r] 26) (by intro u hu; simp at hu; rcases hu with rfl | rfl | rfl | rfl <;> rfl) (by unfold maxLen; omega) (by omega) (by have := HX.out.2.2; simp; omega) (Nat.succ_pos _) ?_; intro g1 cp1 W4 ho4 hg4; have kb := box_kept HX.out.1 HX.out.2.1 hg4; have k0' : W4.cell? ⟨wr.heap.size, 0, none⟩ = some (.string a) := cell_blk kb 0; have k1' : W4.cell? ⟨wr.heap.size, 1, none⟩ = some (.string f) := cell_blk kb 1; have k2' : W4.cell? ⟨wr.heap.size, 2, none⟩ = some (.string c) := cell_blk kb 2; have k3' : W4.cell? ⟨wr.heap.size, 3, none⟩ = some (.int .i8 r) := cell_blk kb 3; clear kb)
                  obtain ⟨hs4, hb4⟩ := app_state HL2.out hg4
                  refine (zzof_no w.heap.size w.heap.size ms mv hv a f c r W4 hlen hs4 hb4.size HL2.out.2.2.1 HOK.out HI.out).mono ?_
                  rintro e W5 ⟨g, cq, mv', rfl, hs5, hb5, hk5⟩
                  have HL5 : Hid (L3 w W5 (ms ++ [HK.mk a f c r]) mv' (.slice (some ⟨g, 0, none⟩) (ms.length + 1) cq) (.slice (some ⟨g1, 0, none⟩) (ms.length + 1) cp1) (q + 1)) := L3.add HL2.out HOK.out HI.out ho4 hs5 (hb4.trans hb5) hk5
                  have hj : (ms ++ [HK.mk a f c r])[ms.length]? = some (HK.mk a f c r) := by simp
                  have e1 : W5.cell? ⟨w.heap.size, 1, none⟩ = some (.slice (some ⟨g, 0, none⟩) (ms.length + 1) cq) := cell_blk hs5.2.1 1
                  have e2 : W5.cell? ⟨g, ms.length * 5 + 4, none⟩ = some (.slice none 0 0) := (held_key hs5 hj).2.2.2.2.2
                  have hjl : ms.length < ms.length + 1 := Nat.lt_succ_self _
                  have hpq := neq30
                  clear k0 k1 k2 k3 k0' k1' k2' k3' hs4 hb4 hs5 hb5 hk5 hj ho4 hg4 HL2 HX HI HOK
                  go_wp2_with (first | (go_at_call 8; refine (heldLen_any _ _ _ _ _ e1).mono ?_; rintro e w' ⟨rfl, rfl⟩) | (go_at_call 9; refine (heldLots_any _ _ _ _ _ _ hjl e1).mono ?_; rintro e w' ⟨rfl, rfl⟩) | (go_at_call 10; refine (lotsLen_any _ _ _ e2).mono ?_; rintro e w' ⟨rfl, rfl⟩))
                  go_roundw
                  case rel => exact ⟨q + 1, ms ++ [HK.mk a f c r], _, _, by omega, by go_num, HL5⟩
                  case measure => simp [intOf]; omega
              · obtain ⟨xh, ch, rfl⟩ := row_shape HL.out.1.2.2.2
                have hlen : ms.length ≤ 1024 := by have := HL.out.2.2.2.1; omega
                have e0 : wr.cell? ⟨w.heap.size, 0, none⟩ = some mv := cell_blk HL.out.1.2.1 0
                have e1 : wr.cell? ⟨w.heap.size, 1, none⟩ = some (.slice xh ms.length ch) := cell_blk HL.out.1.2.1 1
                have HN : Hid (∀ ty, (Builtin.len_ #[39] ty #[mv]).run Try.prog wr = .ok (.int .i64 ms.length) wr) := fun ty => HL.out.1.2.2.1.len HL.out.2.2.1 ty
                go_wp2_with (first | (go_at_call 8; refine (heldLen_any _ _ _ _ _ e1).mono ?_; rintro e w' ⟨rfl, rfl⟩) | (go_at_call 11; refine (indexLen_any _ _ _ _ e0 HN.out).mono ?_; rintro e w' ⟨rfl, rfl⟩))
                clear e0 e1 HN hlt hql
                go_loopw [12] (fun i wz => ∃ (j : Nat), j ≤ ms.length ∧ i = .int .i64 j ∧ Hid (L3 w wz ms mv (.slice xh ms.length ch) (.slice x ms.length cp) q)) (fun i _ => ms.length - (intOf i).toNat)
                case atStart => exact ⟨0, Nat.zero_le _, rfl, HL⟩
                case round =>
                  clear HL
                  obtain ⟨j, hjl, rfl, HL⟩ := hrel
                  by_cases hlt : j < ms.length
                  · obtain ⟨key, hkey⟩ : ∃ key, ms[j]? = some key := ⟨_, List.getElem?_eq_getElem hlt⟩
                    obtain ⟨a, f, c, r⟩ := key
                    have HJ : Hid (ms[j]? = some (HK.mk a f c r)) := hkey
                    obtain ⟨g, hxh⟩ := row_addr HL.out.1.2.2.2 hlt
                    obtain ⟨gm, hx⟩ := row_addr HL.out.2.1 hlt
                    subst hxh
                    subst hx
                    have e1 : wr.cell? ⟨w.heap.size, 1, none⟩ = some (.slice (some ⟨g, 0, none⟩) ms.length ch) := cell_blk HL.out.1.2.1 1
                    obtain ⟨_, h0, h1, h2, h3, _⟩ := held_key HL.out.1 HJ.out
                    clear hkey
                    go_wp2_with fail
                    refine (heldKey_any w.heap.size g j ms.length ch a f c r wr hlt e1 h0 h1 h2 h3).mono ?_
                    rintro e W2 ⟨rfl, hb2⟩
                    have HL2 : Hid (L3 w W2 ms mv (.slice (some ⟨g, 0, none⟩) ms.length ch) (.slice (some ⟨gm, 0, none⟩) ms.length cp) q) := HL.out.below hb2
                    obtain ⟨m0, m1, m2, m3⟩ := row_key HL2.out.2.1 rfl HJ.out
                    have j0 : (j : Int) < (ms.length : Int) := by omega
                    have HD : Hid (Below W2.heap.size W2 W2.drew) := (Below.refl _ _).drew
                    have HC : Hid (Calls Try.prog 13 #[.pointer (some ⟨w.heap.size, 0, none⟩), .string a, .string f, .string c, .int .i8 r] W2.drew fun e w' => e = .returned (.tuple #[.int .i64 (j : Int), .bool true]) ∧ Below W2.drew.heap.size W2.drew w') :=
                      index_call (HL2.out.1.below HD.out) HL2.out.2.2.1 HJ.out
                    clear h0 h1 h2 h3 e1 hb2 HL HJ
                    go_wp2_with fail
                    have hgm : gm < W2.heap.size := (HL2.out.2.1.lt gm rfl).2
                    go_region_held3 (fun w' => w'.cell? ⟨gm, j * 4, none⟩ = some (.string a) ∧ w'.cell? ⟨gm, j * 4 + 1, none⟩ = some (.string f) ∧ w'.cell? ⟨gm, j * 4 + 2, none⟩ = some (.string c) ∧ w'.cell? ⟨gm, j * 4 + 3, none⟩ = some (.int .i8 r)) (go_keep) ((go_at_call 13; refine Calls.mono HC.out ?_; rintro e W3 ⟨rfl, hb3⟩; have n0 : W3.cell? ⟨gm, j * 4, none⟩ = some (.string a) := (hb3.cell (p := ⟨gm, j * 4, none⟩) hgm).trans m0; have n1 : W3.cell? ⟨gm, j * 4 + 1, none⟩ = some (.string f) := (hb3.cell (p := ⟨gm, j * 4 + 1, none⟩) hgm).trans m1; have n2 : W3.cell? ⟨gm, j * 4 + 2, none⟩ = some (.string c) := (hb3.cell (p := ⟨gm, j * 4 + 2, none⟩) hgm).trans m2; have n3 : W3.cell? ⟨gm, j * 4 + 3, none⟩ = some (.int .i8 r) := (hb3.cell (p := ⟨gm, j * 4 + 3, none⟩) hgm).trans m3))
                    clear n0 n1 n2 n3 m0 m1 m2 m3
                    have HL3 : Hid (L3 w W3 ms mv (.slice (some ⟨g, 0, none⟩) ms.length ch) (.slice (some ⟨gm, 0, none⟩) ms.length cp) q) := HL2.out.below (HD.out.trans hb3)
                    clear hb3 HL2 HC HD hgm
                    go_wp2
                    go_roundw
                    case rel => exact ⟨j + 1, by omega, by go_num, HL3⟩
                    case measure => simp [intOf]; omega
                  · go_wp2
                    go_ret
                    exact ⟨rfl, HL.out.2.2.2.2⟩
end Go.Proofs.Qxb6614575a
