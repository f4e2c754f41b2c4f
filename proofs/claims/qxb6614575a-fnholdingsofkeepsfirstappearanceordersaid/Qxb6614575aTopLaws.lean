/- Holdings: what the law's own walk (function 3) leans on. -/
import Derived.Test.Qxb6614575aZZof
import Derived.Test.Qxb6614575aPlace
import Derived.Test.Qxb6614575aBytes
import Derived.Test.Qxb6614575aIdxOf
import Derived.Lib.Builder
namespace Go.Proofs.Qxb6614575a
open Go.ChangeShapes Go.WideShapes Go.ChangeAt Go.RowKit Go.Maps

/-- The cells of the j-th held. -/
theorem held_key {w : World} {B Bh g cap n : Nat} {ms : List HK} {mv : Value} (h : St w B Bh ms mv (.slice (some ⟨g, 0, none⟩) n cap)) {j : Nat} {k : HK} (hj : ms[j]? = some k) :
    n = ms.length ∧ w.cell? ⟨g, j * 5, none⟩ = some (.string k.a) ∧ w.cell? ⟨g, j * 5 + 1, none⟩ = some (.string k.f) ∧ w.cell? ⟨g, j * 5 + 2, none⟩ = some (.string k.c) ∧ w.cell? ⟨g, j * 5 + 3, none⟩ = some (.int .i8 k.r) ∧ w.cell? ⟨g, j * 5 + 4, none⟩ = some (.slice none 0 0) := by
  have hr := h.2.2.2
  have hn : n = ms.length := by
    rcases hr.2 with ⟨h, _⟩ | ⟨_, _, _, h, _⟩
    · simp at h
    · simp at h; exact h.2.1
  subst hn
  have hl := (List.getElem?_eq_some_iff.1 hj).1
  have get : ∀ i, i < 5 → w.cell? ⟨g, j * 5 + i, none⟩ = k.held[i]? := fun i hi => by
    rw [hr.cellAt (j * 5 + i) (by omega)]
    exact flat_get HK.held 5 held_len ms j i k hj hi
  exact ⟨rfl, get 0 (by omega), get 1 (by omega), get 2 (by omega), get 3 (by omega), get 4 (by omega)⟩

/-- A slice of keys grows in its own row: the Holdings stands. -/
theorem St.grown26 {w w' : World} {B Bh n : Nat} {ms : List HK} {mv hv v : Value} {xs : List Value} (h : St w B Bh ms mv hv) (hr : w.ownsRow B 26 4 v n xs) (hg : w.grownBy w' v.ownBlock) : St w' B Bh ms mv hv := by
  obtain ⟨h0, h1, h2, h3⟩ := h
  refine ⟨h0, ?_, ?_, ?_⟩
  · rw [hg.block Bh (lt_blk h1) (row_ne2 hr h1)]; exact h1
  · rcases h2 with h2 | ⟨bm, e, hb, hm⟩
    · exact Or.inl h2
    · refine Or.inr ⟨bm, e, hb, hm.kept hg ?_⟩
      obtain ⟨es, clock, hh, _⟩ := hm
      rcases row_ne hr ⟨es, clock, hh⟩ with h | h
      · rw [h]; simp
      · exact fun e => h e.symm
  · refine h3.kept hg ?_
    rcases h3.2 with ⟨rfl, _⟩ | ⟨g, cp, cur, rfl, _, hh, _⟩
    · exact Or.inl rfl
    · exact Or.inr (row_ne2 hr hh)

/-- len(h.index). -/
theorem Idx.len {w : World} {B : Nat} {mv : Value} {ms : List HK} (h : Idx w B mv ms) (hg : Good ms) (ty : TypeId) : (Builtin.len_ #[39] ty #[mv]).run Try.prog w = .ok (.int .i64 ms.length) w := by
  rcases h with ⟨rfl, rfl⟩ | ⟨bm, rfl, _, hown⟩
  · exact Maps.len_nil Try.underlying39 ty
  · rw [hown.len Try.underlying39 ty, dOf_size hg]

/-- placeOf on a slice of the call's own. -/
theorem place_v (B : Nat) (ms : List HK) (v : Value) (a f c : ByteArray) (r : Int) (w : World) (hown : w.ownsRow B 26 4 v ms.length (modelCells ms)) (hlen : ms.length ≤ 1024) (p : Int)
    (hp : (p = -1 ∧ HK.mk a f c r ∉ ms) ∨ (∃ j : Nat, p = (j : Int) ∧ ms[j]? = some (HK.mk a f c r) ∧ ms.Nodup)) :
    Calls Try.prog 6 #[v, .agg #[.string a, .string f, .string c, .int .i8 r]] w fun e w' => e = .returned (.int .i64 p) ∧ Below w.heap.size w w' := by
  have ho := hown
  rcases hown.2 with ⟨rfl, h0⟩ | ⟨g, cap, cur, rfl, _⟩
  · have : p = -1 := by
      rcases hp with ⟨h, _⟩ | ⟨j, _, h, _⟩
      · exact h
      · have := (List.getElem?_eq_some_iff.1 h).1; omega
    subst this
    exact place_nil a f c r w
  · exact place_any B g ms.length cap ms a f c r w ho rfl hlen p hp

theorem info26 : (Try.prog.info? 26).map (fun i => (i.zero, i.size, i.bytes)) = some (some (.agg #[.string ⟨#[]⟩, .string ⟨#[]⟩, .string ⟨#[]⟩, .int .i8 0]), 4, 56) := by kernel_rfl

/-- What the third loop keeps. -/
def L3 (w wr : World) (ms : List HK) (mv hv v : Value) (k : Nat) : Prop :=
  St wr w.heap.size w.heap.size ms mv hv ∧ wr.ownsRow w.heap.size 26 4 v ms.length (modelCells ms) ∧ Good ms ∧ ms.length ≤ k ∧ Below w.heap.size w wr

theorem L3.below {w wr wr' : World} {ms : List HK} {mv hv v : Value} {k : Nat} (h : L3 w wr ms mv hv v k) (hb : Below wr.heap.size wr wr') : L3 w wr' ms mv hv v k :=
  ⟨h.1.below hb, ownsRow_below h.2.1 hb, h.2.2.1, h.2.2.2.1, h.2.2.2.2.trans (hb.mono h.2.2.2.2.size)⟩

theorem L3.next {w wr : World} {ms : List HK} {mv hv v : Value} {k : Nat} (h : L3 w wr ms mv hv v k) : L3 w wr ms mv hv v (k + 1) :=
  ⟨h.1, h.2.1, h.2.2.1, Nat.le_succ_of_le h.2.2.2.1, h.2.2.2.2⟩

theorem start_state (w : World) : L3 w (w.alloc (.cells #[.map none, .slice none 0 0] 42)) [] (.map none) (.slice none 0 0) (.slice none 0 0) 0 :=
  ⟨⟨Nat.le_refl _, heap_alloc_new w _, Or.inl ⟨rfl, rfl⟩, World.ownsRow_nil _ _ _ _⟩, World.ownsRow_nil _ _ _ _, ⟨by simp, by simp⟩, Nat.le_refl _, (Below.refl _ _).alloc (Nat.le_refl _) _⟩

/-- A row that owns an element is no nil. -/
theorem row_some {w : World} {B e s n : Nat} {v : Value} {xs : List Value} {j : Nat} (h : w.ownsRow B e s v n xs) (hj : j < n) : ∃ g cap, v = .slice (some ⟨g, 0, none⟩) n cap := by
  rcases h.2 with ⟨_, h0⟩ | ⟨g, cap, _, rfl, _⟩
  · omega
  · exact ⟨g, cap, rfl⟩

theorem info49 : ∃ j, Try.prog.info? 49 = some j := Option.isSome_iff_exists.1 (by kernel_rfl)

/-- Two pointers that are one. -/
theorem neq30 (a : Addr) (w : World) : (binOp .neq 30 (.pointer (some a)) (.pointer (some a))).run Try.prog w = .ok (.bool false) w := by
  obtain ⟨j, hj⟩ := info49
  exact Go.Lib.run_neq_ptr_same w a Try.underlying30 hj

/-- The one-element slice that an append of a key lays. -/
theorem new_cells0 (w : World) (l : List Value) (t : TypeId) : ∀ j u, l[j]? = some u → (w.alloc (.cells l.toArray t)).cell? ((⟨w.heap.size, 0, none⟩ : Addr).add j) = some u := new_cells w l t

/-- append of a slice of the call's own, the new value's shape written out. -/
theorem wpList_append_own_some {P : Program} (w : World) {ops : Array Oper} {rest : List Oper} {o : Oper} {a : Act} {Q : Exit → Act → World → Prop} (hgd : o.guard = none) (s x : Operand) (t : TypeId)
    (ho : o.op = .call { callee := .builtin .append, args := #[s, x], argTypes := #[t, t] })
    (base : Nat) (e : TypeId) (i : TypeInfo) (z : Value) (size bytes : Nat) (ht : P.underlying t = some (.slice e)) (hi : P.info? e = some i) (hz : i.zero = some z)
    (hsize : i.size = size) (hby : i.bytes = bytes) (hzs : z.cells.size = size) (hsz : 0 < size)
    (v : Value) (n : Nat) (xs : List Value) (hs : a.eval s = v) (hown : w.ownsRow base e size v n xs)
    (ad : Addr) (m c : Nat) (news : List Value) (hx : a.eval x = .slice (some ad) m c) (hl : news.length = m * size) (hnews : ∀ j u, news[j]? = some u → w.cell? (ad.add j) = some u) (h1 : ∀ u ∈ news, u.oneCell' = true)
    (h63 : n + m ≤ maxLen) (hbytes : (n + m) * bytes ≤ 140737488355328) (hbase : base ≤ w.heap.size) (hpos : 0 < n + m)
    (h : ∀ g cap w', w'.ownsRow base e size (.slice (some ⟨g, 0, none⟩) (n + m) cap) (n + m) (xs ++ news) → w.grownBy w' v.ownBlock → wpList P ops Q rest (a.put o.dst (.slice (some ⟨g, 0, none⟩) (n + m) cap)) w') : wpList P ops Q (o :: rest) a w := by
  refine wpList_append_own w hgd s x t ho base e i z size bytes ht hi hz hsize hby hzs hsz v n xs hs hown ad m c news hx hl hnews h1 h63 hbytes hbase ?_
  intro v' w' r1 r2 _
  rcases r1.2 with ⟨_, h0⟩ | ⟨g, cp, _, h0, _⟩
  · omega
  · subst h0
    exact h g cp w' r1 r2

theorem box_kept {W2 W4 : World} {O o : Obj} {v : Value} {bx : Nat} (hb : W2.heap[bx]? = some o) (hlt : ∀ j, v.ownBlock = some j → j < bx) (hg : (W2.alloc O).grownBy W4 v.ownBlock) : W4.heap[bx]? = some o := by
  have hl := lt_blk hb
  rw [hg.block bx (by simp; omega) (fun e => by have := hlt bx e.symm; omega), Below.heap_alloc W2 _ bx hl]
  exact hb

/-- BEHIND 'model = append(model, k)': what stands. -/
theorem app_state {w W2 W4 : World} {ms : List HK} {mv hv v : Value} {q : Nat} {O : Obj} (h : L3 w W2 ms mv hv v q) (hg : (W2.alloc O).grownBy W4 v.ownBlock) :
    St W4 w.heap.size w.heap.size ms mv hv ∧ Below w.heap.size w W4 := by
  obtain ⟨h1, h2, h3, h4, h5⟩ := h
  have hb : Below W2.heap.size W2 (W2.alloc O) := (Below.refl _ _).alloc (Nat.le_refl _) _
  refine ⟨(h1.below hb).grown26 (ownsRow_below h2 hb) hg, ?_⟩
  exact (h5.trans (hb.mono h5.size)).grown hg (by simp; have := h5.size; omega) (fun j hj => (h2.lt j hj).1)

/-- A key more. -/
theorem L3.add {w W2 W4 W5 : World} {ms : List HK} {mv mv' hv hv' v v' : Value} {q : Nat} {k : HK} (h : L3 w W2 ms mv hv v q) (hk : k.ok) (hn : k ∉ ms) (ho : W4.ownsRow w.heap.size 26 4 v' (ms.length + 1) (modelCells ms ++ k.cells))
    (hs : St W5 w.heap.size w.heap.size (ms ++ [k]) mv' hv') (hb : Below w.heap.size w W5) (hkp : Kp W4 W5) : L3 w W5 (ms ++ [k]) mv' hv' v' (q + 1) := by
  refine ⟨hs, ?_, h.2.2.1.snoc hk hn, ?_, hb⟩
  · have := hkp.row ho
    rw [modelCells_snoc]
    simpa using this
  · have := h.2.2.2.1
    simp; omega

theorem row_addr {w : World} {B e s n cap : Nat} {x : Option Addr} {xs : List Value} {j : Nat} (h : w.ownsRow B e s (.slice x n cap) n xs) (hj : j < n) : ∃ g, x = some ⟨g, 0, none⟩ := by
  rcases h.2 with ⟨_, h0⟩ | ⟨g, cp, _, h0, _⟩
  · omega
  · simp at h0; exact ⟨g, h0.1⟩

/-- ZZindexOf where the key is the j-th. -/
theorem index_call {w : World} {B Bh j : Nat} {ms : List HK} {mv hv : Value} {a f c : ByteArray} {r : Int} (hst : St w B Bh ms mv hv) (hg : Good ms) (hj : ms[j]? = some (HK.mk a f c r)) :
    Calls Try.prog 13 #[.pointer (some ⟨Bh, 0, none⟩), .string a, .string f, .string c, .int .i8 r] w fun e w' => e = .returned (.tuple #[.int .i64 (j : Int), .bool true]) ∧ Below w.heap.size w w' := by
  refine indexOf_yes Bh j mv a f c r w (lt_blk hst.2.1) (by rw [cell_blk hst.2.1]; rfl) (fun m => ?_)
  have hI : Idx ((w.alloc (.cells #[.string a, .string f, .string c, .int .i8 r] 46)).drewN m) B mv ms := hst.2.2.1.below (below_drewN ((Below.refl _ _).alloc (Nat.le_refl _) _) m)
  have := Idx.yes (k := ⟨a, f, c, r⟩) hI hg hj
  unfold HK.val at this
  exact this
end Go.Proofs.Qxb6614575a
