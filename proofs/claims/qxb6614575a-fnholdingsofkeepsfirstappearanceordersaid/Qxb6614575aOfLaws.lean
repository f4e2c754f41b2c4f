/- Holdings: laws for of (14): steps and what stands behind them. -/
import Derived.Test.Qxb6614575aOf
import Derived.OneCell
namespace Go.Proofs.Qxb6614575a
open Go.ChangeShapes Go.WideShapes Go.ChangeAt Go.RowKit Go.Maps

theorem cell_blk {w : World} {b : Nat} {cs : Array Value} {t : TypeId} (h : w.heap[b]? = some (.cells cs t (0, 0))) (i : Nat) : w.cell? ⟨b, i, none⟩ = cs[i]? := by simp [World.cell?, h]
theorem frozen_blk {w : World} {b : Nat} {cs : Array Value} {t : TypeId} (h : w.heap[b]? = some (.cells cs t (0, 0))) (i : Nat) : w.frozen? ⟨b, i, none⟩ = false := by simp [World.frozen?, h]
theorem lt_blk {w : World} {b : Nat} {o : Obj} (h : w.heap[b]? = some o) : b < w.heap.size := (Array.getElem?_eq_some_iff.1 h).1

/-- append OF A SLICE OF THE CALL's OWN, as one step of a region that draws. -/
theorem step_append_own {P : Program} {ops : Array Oper} {o : Oper} {a : Act} {w : World} {K : Act → World → Prop} {Q : Exit → Act → World → Prop} {E : Prop}
    (hg : o.guard = none) (s x : Operand) (t : TypeId) (hop : o.op = Op.call { callee := Callee.builtin Builtin.append, args := #[s, x], argTypes := #[t, t] })
    (base : Nat) (e : TypeId) (i : TypeInfo) (z : Value) (size bytes : Nat) (h1 : P.underlying t = some (.slice e)) (h2 : P.info? e = some i) (h3 : i.zero = some z) (h4 : i.size = size) (h5 : i.bytes = bytes) (h6 : z.cells.size = size) (h7 : 0 < size)
    (v : Value) (n : Nat) (xs : List Value) (hs : a.eval s = v) (hown : w.ownsRow base e size v n xs)
    (ad : Addr) (m c : Nat) (news : List Value) (hx : a.eval x = .slice (some ad) m c) (hn : news.length = m * size) (hc : ∀ j u, news[j]? = some u → w.cell? (ad.add j) = some u) (h1c : ∀ u ∈ news, u.oneCell' = true)
    (b1 : n + m ≤ maxLen) (b2 : (n + m) * bytes ≤ 140737488355328) (hbase : base ≤ w.heap.size)
    (hpos : 0 < n + m)
    (hK : ∀ g cap w', w'.ownsRow base e size (.slice (some ⟨g, 0, none⟩) (n + m) cap) (n + m) (xs ++ news) → w.grownBy w' v.ownBlock → K (a.put o.dst (.slice (some ⟨g, 0, none⟩) (n + m) cap)) w') :
    if Region.wanted o (yielded ops a.tmps) = true then Oper.wp P o a w K Q else E := by
  have hw : Region.wanted o (yielded ops a.tmps) = true := by simp [Region.wanted, hg]
  rw [if_pos hw]
  obtain ⟨v', w', hrun, r1, r2, _⟩ := run_append_own (P := P) w base t o.type e i z size bytes h1 h2 h3 h4 h5 h6 h7 v n xs hown ad m c news hn hc h1c b1 b2 hbase
  unfold Oper.wp
  simp [execOp, hop, resolve, invoke, builtin, hs, hx, hrun, Result.andThen]
  rcases r1.2 with ⟨_, h⟩ | ⟨g, cp, _, h, _⟩
  · omega
  · subst h
    exact hK g cp w' r1 r2

theorem row_ne {w : World} {B e s n bm : Nat} {v : Value} {xs : List Value} (h : w.ownsRow B e s v n xs) (hmap : ∃ es clock, w.heap[bm]? = some (.map es clock)) : v.ownBlock = none ∨ v.ownBlock ≠ some bm := by
  obtain ⟨es, clock, hm⟩ := hmap
  rcases h.2 with ⟨rfl, _⟩ | ⟨g, cap, cur, rfl, _, hg, _⟩
  · exact Or.inl rfl
  · refine Or.inr ?_
    simp only [Value.ownBlock, ne_eq, Option.some.injEq]
    rintro rfl
    rw [hg] at hm
    simp at hm

theorem row_ne2 {w : World} {B e s n Bh : Nat} {v : Value} {xs : List Value} {cs : Array Value} {t : TypeId} (h : w.ownsRow B e s v n xs) (hb : w.heap[Bh]? = some (.cells cs t (0, 0))) (het : t ≠ e := by decide) : some Bh ≠ v.ownBlock := by
  rcases h.2 with ⟨rfl, _⟩ | ⟨g, cap, cur, rfl, _, hg, _⟩
  · simp [Value.ownBlock]
  · simp only [Value.ownBlock, ne_eq, Option.some.injEq]
    rintro rfl
    rw [hg] at hb
    simp only [Option.some.injEq, Obj.cells.injEq] at hb
    exact het hb.2.1.symm

theorem new_cells (w : World) (l : List Value) (t : TypeId) : ∀ j u, l[j]? = some u → (w.alloc (.cells l.toArray t)).drew.cell? ((⟨w.heap.size, 0, none⟩ : Addr).add j) = some u := by
  intro j u hj
  have : (⟨w.heap.size, 0, none⟩ : Addr).add j = ⟨w.heap.size, j, none⟩ := by unfold Addr.add; split <;> simp_all
  rw [this]
  show (w.alloc (.cells l.toArray t)).cell? ⟨w.heap.size, j, none⟩ = some u
  rw [World.cell?_alloc_at _ _ _ _ rfl]
  simpa using hj

theorem info51 : (Try.prog.info? 51).map (fun i => (i.zero, i.size, i.bytes)) = some (some (.agg #[.string ⟨#[]⟩, .string ⟨#[]⟩, .string ⟨#[]⟩, .int .i8 0, .slice none 0 0]), 5, 80) := by kernel_rfl


theorem setCell_blk {w : World} {b i : Nat} {cs : Array Value} {t : TypeId} {fr : Nat × Nat} (h : w.heap[b]? = some (.cells cs t fr)) (v : Value) : (w.setCell ⟨b, i, none⟩ v).heap[b]? = some (.cells (cs.setIfInBounds i v) t fr) := by
  simp only [World.setCell, Array.getElem?_modify, h]
  simp

theorem grown_undrew {w w' : World} {row : Option Nat} (h : w.drew.grownBy w' row) : w.grownBy w' row := ⟨h.os, h.tape, h.output, h.size, h.block⟩

theorem Kp.grown {w w' : World} {row : Option Nat} (hg : w.grownBy w' row) (hne : ∀ (g : Nat) (cur : Array Value), w.heap[g]? = some (Obj.cells cur 26 (0, 0)) → some g ≠ row) : Kp w w' :=
  fun g cur e => by rw [hg.block g (lt_blk e) (hne g cur e)]; exact e

theorem Kp.setCell {w : World} {b i : Nat} {cs : Array Value} {t : TypeId} (h : w.heap[b]? = some (.cells cs t (0, 0))) (ht : t ≠ 26) (v : Value) : Kp w (w.setCell ⟨b, i, none⟩ v) := by
  intro g cur e
  rw [Below.heap_setCell _ _ _ _ (by rintro rfl; rw [e] at h; simp only [Option.some.injEq, Obj.cells.injEq] at h; exact ht h.2.1.symm)]
  exact e

/-- THE END OF 'of' WHERE THE KEY WAS NOT THERE: from the world V, in which the index is a map, behind the store into the map (W3), the one-element slice, the append (w4) and the store of the slice. -/
theorem of_finish {w V W3 w4 : World} {B Bh bm g' cap' n : Nat} {ms : List HK} {k : HK} {hv : Value} {O : Obj} (hst : St V B Bh ms (.map (some bm)) hv) (hB : B ≤ V.heap.size) (hbV : Below B w V) (hkV : Kp w V) (hn : n = ms.length + 1)
    (hgr : V.grownBy W3 (some bm)) (hm3 : W3.ownsMap Try.prog 46 (plainElem Try.prog 3) bm (ms.length + 1) (dOf (ms ++ [k])))
    (hg4 : (W3.alloc O).grownBy w4 hv.ownBlock) (o4 : w4.ownsRow B 51 5 (.slice (some ⟨g', 0, none⟩) n cap') n (heldCells ms ++ k.held)) :
    St (w4.setCell ⟨Bh, 1, none⟩ (.slice (some ⟨g', 0, none⟩) n cap')) B Bh (ms ++ [k]) (.map (some bm)) (.slice (some ⟨g', 0, none⟩) n cap') ∧
    Below B w (w4.setCell ⟨Bh, 1, none⟩ (.slice (some ⟨g', 0, none⟩) n cap')) ∧ Kp w (w4.setCell ⟨Bh, 1, none⟩ (.slice (some ⟨g', 0, none⟩) n cap')) := by
  obtain ⟨h0, h1, h2, h3⟩ := hst
  have hbm : B ≤ bm := by
    rcases h2 with ⟨h, _⟩ | ⟨b, h, hb, _⟩
    · simp at h
    · simp at h; subst h; exact hb
  have hmap : ∃ es clock, V.heap[bm]? = some (.map es clock) := by
    rcases h2 with ⟨h, _⟩ | ⟨b, h, hb, es, clock, he, _⟩
    · simp at h
    · simp at h; subst h; exact ⟨es, clock, he⟩
  have hmm := hm3
  obtain ⟨es3, cl3, hm3', _⟩ := hm3
  have hne : bm ≠ Bh := by rintro rfl; obtain ⟨es, clock, he⟩ := hmap; rw [he] at h1; simp at h1
  have o3 : W3.ownsRow B 51 5 hv ms.length (heldCells ms) := h3.kept hgr (row_ne h3 hmap)
  have g3 : W3.heap[Bh]? = some (.cells #[.map (some bm), hv] 42 (0, 0)) := by rw [hgr.block Bh (lt_blk h1) (by simpa using fun e => hne e.symm)]; exact h1
  have g3a : (W3.alloc O).heap[Bh]? = some (.cells #[.map (some bm), hv] 42 (0, 0)) := by rw [Below.heap_alloc W3 _ Bh (lt_blk g3)]; exact g3
  have g4 : w4.heap[Bh]? = some (.cells #[.map (some bm), hv] 42 (0, 0)) := by rw [hg4.block Bh (lt_blk g3a) (row_ne2 o3 g3)]; exact g3a
  have m3a : (W3.alloc O).heap[bm]? = some (.map es3 cl3) := by rw [Below.heap_alloc W3 _ bm (lt_blk hm3')]; exact hm3'
  have rowmap : some bm ≠ hv.ownBlock := by
    rcases row_ne o3 ⟨es3, cl3, hm3'⟩ with h | h
    · rw [h]; simp
    · exact fun e => h e.symm
  have m4 : w4.ownsMap Try.prog 46 (plainElem Try.prog 3) bm (ms.length + 1) (dOf (ms ++ [k])) := (hmm.alloc O).kept hg4 rowmap
  have rowB : ∀ j, hv.ownBlock = some j → B ≤ j := fun j hj => (h3.lt j hj).1
  refine ⟨⟨h0, ?_, ?_, ?_⟩, ?_, ?_⟩
  · rw [setCell_blk g4]; rfl
  · refine Or.inr ⟨bm, rfl, hbm, ?_⟩
    have := m4.setCell (a := ⟨Bh, 1, none⟩) hne (.slice (some ⟨g', 0, none⟩) n cap')
    simpa using this
  · subst hn
    have := ownsRow_setCell_other (a := ⟨Bh, 1, none⟩) o4 (fun e => (row_ne2 o4 g4) e.symm) (.slice (some ⟨g', 0, none⟩) (ms.length + 1) cap')
    rw [heldCells_snoc]
    simpa using this
  · have b3 : Below B w W3 := hbV.grown hgr hB (fun j hj => by cases hj; exact hbm)
    have s3 : B ≤ W3.heap.size := Nat.le_trans hB hgr.size
    have b4 : Below B w w4 := (b3.alloc s3 O).grown hg4 (by simp; omega) rowB
    exact b4.setCell h0 _
  · refine hkV.trans ((Kp.grown hgr ?_).trans ((Kp.below ((Below.refl _ _).alloc (Nat.le_refl _) O)).trans ((Kp.grown hg4 ?_).trans (Kp.setCell g4 (by decide) _))))
    · intro g cur e h
      obtain ⟨es, clock, he⟩ := hmap
      cases h
      rw [e] at he; simp at he
    · intro g cur e
      exact row_ne2 (o3.alloc O) e

theorem map_of_st {w : World} {B Bh bm : Nat} {ms : List HK} {hv : Value} (h : St w B Bh ms (.map (some bm)) hv) : ∃ es clock, w.heap[bm]? = some (.map es clock) := by
  rcases h.2.2.1 with ⟨h, _⟩ | ⟨b, h, hb, es, clock, he, _⟩
  · simp at h
  · simp at h; subst h; exact ⟨es, clock, he⟩

theorem wf_len {n : Nat} (h : n ≤ 1024) : (Lit.int .i64 (n : Int)).wf = true := WalkArith.wf_i64 (by omega)

/-- The store into the index, in the world behind the draw. -/
theorem up_run {w : World} {B Bh bm : Nat} {ms : List HK} {hv : Value} {k : HK} (h : St w B Bh ms (.map (some bm)) hv) (hk : k.ok) (hlen : ms.length ≤ 1024) :
    ∃ W3, (Instr.mapUpdate 39 (.map (some bm)) k.val (.int .i64 ms.length)).run Try.prog w.drew = .ok () W3 ∧ W3.ownsMap Try.prog 46 (plainElem Try.prog 3) bm (ms.length + 1) (dOf (ms ++ [k])) ∧ w.grownBy W3 (some bm) := by
  rcases h.2.2.1 with ⟨h, _⟩ | ⟨b, h, hb, hown⟩
  · simp at h
  · simp at h
    subst h
    obtain ⟨W3, hrun, hm, hgr⟩ := hown.drew.update law Try.underlying39 (by unfold maxLen; omega) (keyOf_val k hk) (plainElem_int (H := Unit) Try.underlying3 (wf_len hlen))
    exact ⟨W3, hrun, by rw [dOf_snoc]; exact hm, grown_undrew hgr⟩

def OfPost (w : World) (B Bh : Nat) (ms : List HK) (k : HK) (e : Ending) (w' : World) : Prop :=
  ∃ g cap mv, e = .returned (.pointer (some ⟨g, ms.length * 5 + 4, none⟩)) ∧ St w' B Bh (ms ++ [k]) mv (.slice (some ⟨g, 0, none⟩) (ms.length + 1) cap) ∧ Below B w w' ∧ Kp w w'
end Go.Proofs.Qxb6614575a
