/- Holdings: the index as a datum, the state of a Holdings in memory. -/
import Derived.Test.Qxb6614575aBase
namespace Go.Proofs.Qxb6614575a
open Go.ChangeShapes Go.WideShapes Go.ChangeAt Go.RowKit Go.Maps

/-! ### The index as a datum -/
def dRev : List HK → DataW Unit
  | [] => .map []
  | k :: rs => (dRev rs).put k.lit (.lit (.int .i64 rs.length))

def dOf (ms : List HK) : DataW Unit := dRev ms.reverse

theorem dOf_snoc (ms : List HK) (k : HK) : dOf (ms ++ [k]) = (dOf ms).put k.lit (.lit (.int .i64 ms.length)) := by
  simp [dOf, dRev]

theorem lit_key (k : HK) : WideAt.IsKeyLit k.lit := trivial

theorem dRev_tidy : ∀ rs, Tidy (dRev rs)
  | [] => tidy_empty
  | k :: rs => (dRev_tidy rs).put (lit_key k) _

theorem dRev_not : ∀ (rs : List HK) (k : HK), (∀ x ∈ rs, x.ok) → k.ok → k ∉ rs → Maps.has (dRev rs) k.lit = false
  | [], k, _, _, _ => rfl
  | x :: rs, k, h, hk, hn => by
    have hne : k.lit ≠ x.lit := fun e => hn (by rw [lit_inj hk (h x (by simp)) e]; simp)
    show Maps.has ((dRev rs).put x.lit _) k.lit = false
    rw [has_put_other hne]
    exact dRev_not rs k (fun y hy => h y (by simp [hy])) hk (fun hm => hn (by simp [hm]))

theorem dRev_at : ∀ (rs : List HK) (k : HK) (i : Nat), (∀ x ∈ rs, x.ok) → rs.Nodup → rs[i]? = some k → Maps.has (dRev rs) k.lit = true ∧ ∀ z, (dRev rs).atKey k.lit z = .lit (.int .i64 ((rs.length - 1 - i : Nat) : Int))
  | [], k, i, _, _, hi => by simp at hi
  | x :: rs, k, 0, h, hd, hi => by
    simp at hi
    subst hi
    refine ⟨has_put_same (dRev_tidy rs).isMap (lit_key x) _, fun z => ?_⟩
    show ((dRev rs).put x.lit _).atKey x.lit z = _
    rw [atKey_put_same (dRev_tidy rs).isMap (lit_key x)]
    simp
  | x :: rs, k, i + 1, h, hd, hi => by
    simp at hi
    have hk : k ∈ rs := List.mem_of_getElem? hi
    have hne : k.lit ≠ x.lit := fun e => by
      have := lit_inj (h k (by simp [hk])) (h x (by simp)) e
      subst this
      exact (List.nodup_cons.1 hd).1 hk
    obtain ⟨h1, h2⟩ := dRev_at rs k i (fun y hy => h y (by simp [hy])) (List.nodup_cons.1 hd).2 hi
    refine ⟨?_, fun z => ?_⟩
    · show Maps.has ((dRev rs).put x.lit _) k.lit = true
      rw [has_put_other hne]; exact h1
    · show ((dRev rs).put x.lit _).atKey k.lit z = _
      rw [atKey_put_other hne, h2 z]
      congr 3
      simp
      omega

theorem dRev_size : ∀ (rs : List HK), (∀ x ∈ rs, x.ok) → rs.Nodup → Maps.size (dRev rs) = rs.length
  | [], _, _ => rfl
  | x :: rs, h, hd => by
    have hn := dRev_not rs x (fun y hy => h y (by simp [hy])) (h x (by simp)) (List.nodup_cons.1 hd).1
    show Maps.size ((dRev rs).put x.lit _) = _
    rw [size_put (dRev_tidy rs), hn, dRev_size rs (fun y hy => h y (by simp [hy])) (List.nodup_cons.1 hd).2]
    simp

/-- A list of keys as the law keeps it. -/
def Good (ms : List HK) : Prop := (∀ x ∈ ms, x.ok) ∧ ms.Nodup

theorem nodup_rev : ∀ {ms : List HK}, ms.Nodup → ms.reverse.Nodup
  | [], _ => by simp
  | x :: xs, h => by
    obtain ⟨h1, h2⟩ := List.nodup_cons.1 h
    rw [List.reverse_cons]
    exact List.nodup_append.2 ⟨nodup_rev h2, by simp, fun a ha b hb e => by simp at hb; subst hb; subst e; exact h1 (by simpa using ha)⟩

theorem dOf_not {ms : List HK} (h : Good ms) {k : HK} (hk : k.ok) (hn : k ∉ ms) : Maps.has (dOf ms) k.lit = false :=
  dRev_not _ k (fun x hx => h.1 x (by simpa using hx)) hk (by simpa using hn)

theorem dOf_at {ms : List HK} (h : Good ms) {k : HK} {j : Nat} (hj : ms[j]? = some k) : Maps.has (dOf ms) k.lit = true ∧ ∀ z, (dOf ms).atKey k.lit z = .lit (.int .i64 (j : Int)) := by
  have hl := (List.getElem?_eq_some_iff.1 hj).1
  have := dRev_at ms.reverse k (ms.length - 1 - j) (fun x hx => h.1 x (by simpa using hx)) (nodup_rev h.2) (by rw [List.getElem?_reverse (by omega)]; rw [← hj]; congr 1; omega)
  refine ⟨this.1, fun z => ?_⟩
  rw [dOf, this.2 z]
  congr 3
  simp
  omega

theorem dOf_size {ms : List HK} (h : Good ms) : Maps.size (dOf ms) = ms.length := by
  have := dRev_size ms.reverse (fun x hx => h.1 x (by simpa using hx)) (nodup_rev h.2)
  simpa [dOf] using this

theorem Good.snoc {ms : List HK} (h : Good ms) {k : HK} (hk : k.ok) (hn : k ∉ ms) : Good (ms ++ [k]) :=
  ⟨fun x hx => by rcases List.mem_append.1 hx with h' | h'; exact h.1 x h'; simp at h'; subst h'; exact hk,
   List.nodup_append.2 ⟨h.2, by simp, fun a ha b hb e => by simp at hb; subst hb; subst e; exact hn ha⟩⟩

/-! ### Rows of structs -/
theorem flat_get {α : Type} (f : α → List Value) (s : Nat) (hs : ∀ x, (f x).length = s) : ∀ (l : List α) (j i : Nat) (x : α), l[j]? = some x → i < s → (l.flatMap f)[j * s + i]? = (f x)[i]?
  | [], j, i, x, h, _ => by simp at h
  | y :: l, 0, i, x, h, hi => by
    simp at h; subst h
    rw [List.flatMap_cons, Nat.zero_mul, Nat.zero_add, List.getElem?_append_left (by rw [hs]; exact hi)]
  | y :: l, j + 1, i, x, h, hi => by
    simp at h
    rw [List.flatMap_cons, List.getElem?_append_right (by rw [hs, Nat.add_mul]; omega), hs]
    have : (j + 1) * s + i - s = j * s + i := by rw [Nat.add_mul]; omega
    rw [this]
    exact flat_get f s hs l j i x h hi

theorem flat_len {α : Type} (f : α → List Value) (s : Nat) (hs : ∀ x, (f x).length = s) : ∀ (l : List α), (l.flatMap f).length = l.length * s
  | [] => by simp
  | y :: l => by rw [List.flatMap_cons, List.length_append, hs, flat_len f s hs l, List.length_cons, Nat.add_mul]; omega

def HK.held (k : HK) : List Value := k.cells ++ [.slice none 0 0]
def heldCells (ms : List HK) : List Value := ms.flatMap HK.held
def modelCells (ms : List HK) : List Value := ms.flatMap HK.cells
theorem held_len (k : HK) : k.held.length = 5 := rfl
theorem cells_len (k : HK) : k.cells.length = 4 := rfl
theorem heldCells_snoc (ms : List HK) (k : HK) : heldCells (ms ++ [k]) = heldCells ms ++ k.held := by simp [heldCells]
theorem modelCells_snoc (ms : List HK) (k : HK) : modelCells (ms ++ [k]) = modelCells ms ++ k.cells := by simp [modelCells]

/-! ### The index in memory -/
def Idx (w : World) (B : Nat) (mv : Value) (ms : List HK) : Prop :=
  (mv = .map none ∧ ms = []) ∨ ∃ bm, mv = .map (some bm) ∧ B ≤ bm ∧ w.ownsMap Try.prog 46 (plainElem Try.prog 3) bm ms.length (dOf ms)

theorem wf0 : (Lit.int .i64 0).wf = true := by decide

theorem Idx.no {w : World} {B : Nat} {mv : Value} {ms : List HK} (h : Idx w B mv ms) (hg : Good ms) {k : HK} (hk : k.ok) (hn : k ∉ ms) :
    (Instr.lookup 39 mv k.val true).run Try.prog w = .ok (.tuple #[.int .i64 0, .bool false]) w := by
  rcases h with ⟨rfl, rfl⟩ | ⟨bm, rfl, _, hown⟩
  · exact Maps.look_nil true law Try.underlying39 (zero3 w) (keyOf_val k hk)
  · obtain ⟨v, ps, hrun, hv⟩ := hown.look_ok law Try.underlying39 (zero3 w) (plainElem_int Try.underlying3 wf0) (keyOf_val k hk)
    rw [atKey_of_not_has (dOf_not hg hk hn)] at hv
    obtain ⟨c, rfl, hc, _⟩ := plainElem_int_inv Try.underlying3 hv
    simp at hc
    rw [hrun, dOf_not hg hk hn, ← hc.1]

theorem Idx.yes {w : World} {B : Nat} {mv : Value} {ms : List HK} (h : Idx w B mv ms) (hg : Good ms) {k : HK} {j : Nat} (hj : ms[j]? = some k) :
    (Instr.lookup 39 mv k.val true).run Try.prog w = .ok (.tuple #[.int .i64 (j : Int), .bool true]) w := by
  have hk := hg.1 k (List.mem_of_getElem? hj)
  rcases h with ⟨rfl, rfl⟩ | ⟨bm, rfl, _, hown⟩
  · simp at hj
  · obtain ⟨v, ps, hrun, hv⟩ := hown.look_ok law Try.underlying39 (zero3 w) (plainElem_int Try.underlying3 wf0) (keyOf_val k hk)
    rw [(dOf_at hg hj).2] at hv
    obtain ⟨c, rfl, hc, _⟩ := plainElem_int_inv Try.underlying3 hv
    simp at hc
    rw [hrun, (dOf_at hg hj).1, ← hc.1]

/-! ### The state -/
def St (w : World) (B Bh : Nat) (ms : List HK) (mv hv : Value) : Prop :=
  B ≤ Bh ∧ w.heap[Bh]? = some (.cells #[mv, hv] 42 (0, 0)) ∧ Idx w B mv ms ∧ w.ownsRow B 51 5 hv ms.length (heldCells ms)

/-- What was there has not turned: so the state stands. -/
theorem Idx.below {w w' : World} {B : Nat} {mv : Value} {ms : List HK} (h : Idx w B mv ms) (hb : Below w.heap.size w w') : Idx w' B mv ms := by
  rcases h with h | ⟨bm, h1, h2, es, clock, h3, r⟩
  · exact Or.inl h
  · exact Or.inr ⟨bm, h1, h2, es, clock, by rw [hb.block bm (Array.getElem?_eq_some_iff.1 h3).1]; exact h3, r⟩

theorem ownsRow_below {w w' : World} {B e s n : Nat} {v : Value} {xs : List Value} (h : w.ownsRow B e s v n xs) (hb : Below w.heap.size w w') : w'.ownsRow B e s v n xs := by
  obtain ⟨h1, h2⟩ := h
  refine ⟨h1, ?_⟩
  rcases h2 with h2 | ⟨g, cap, cur, a1, a2, a3, r⟩
  · exact Or.inl h2
  · exact Or.inr ⟨g, cap, cur, a1, a2, by rw [hb.block g (Array.getElem?_eq_some_iff.1 a3).1]; exact a3, r⟩

theorem St.below {w w' : World} {B Bh : Nat} {ms : List HK} {mv hv : Value} (h : St w B Bh ms mv hv) (hb : Below w.heap.size w w') : St w' B Bh ms mv hv := by
  obtain ⟨h0, h1, h2, h3⟩ := h
  exact ⟨h0, by rw [hb.block Bh (Array.getElem?_eq_some_iff.1 h1).1]; exact h1, h2.below hb, ownsRow_below h3 hb⟩

/-- The blocks of HoldingKeys (element type 26) are kept. -/
def Kp (w w' : World) : Prop := ∀ (g : Nat) (cur : Array Value), w.heap[g]? = some (Obj.cells cur 26 (0, 0)) → w'.heap[g]? = some (Obj.cells cur 26 (0, 0))
theorem Kp.refl (w : World) : Kp w w := fun _ _ h => h
theorem Kp.trans {a b c : World} (h : Kp a b) (k : Kp b c) : Kp a c := fun g cur e => k g cur (h g cur e)
theorem Kp.below {w w' : World} (hb : Below w.heap.size w w') : Kp w w' := fun g cur e => by rw [hb.block g (Array.getElem?_eq_some_iff.1 e).1]; exact e
theorem Kp.row {w w' : World} (h : Kp w w') {B s n : Nat} {v : Value} {xs : List Value} (hr : w.ownsRow B 26 s v n xs) : w'.ownsRow B 26 s v n xs := by
  obtain ⟨h1, h2⟩ := hr
  refine ⟨h1, ?_⟩
  rcases h2 with h2 | ⟨g, cap, cur, a1, a2, a3, r⟩
  · exact Or.inl h2
  · exact Or.inr ⟨g, cap, cur, a1, a2, h g cur a3, r⟩

end Go.Proofs.Qxb6614575a
