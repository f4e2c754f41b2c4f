/- Holdings: the argument opened: a slice of HoldingKeys. -/
import Derived.Test.Qxb6614575aBytes
import Derived.Deep.Slices
import Derived.Lib.SmallJoins
namespace Go.Proofs.Qxb6614575a
open Go.ChangeShapes Go.WideShapes Go.ChangeAt Go.RowKit Go.Maps Go.Deep Go.Joins

theorem list_of {Q : Nat → HK → Prop} : ∀ (len : Nat), (∀ i, i < len → ∃ k, Q i k) → ∃ ks : List HK, ks.length = len ∧ ∀ i k, ks[i]? = some k → Q i k
  | 0, _ => ⟨[], rfl, fun i k h => by simp at h⟩
  | n + 1, h => by
    obtain ⟨ks, hl, hq⟩ := list_of n (fun i hi => h i (by omega))
    obtain ⟨k, hk⟩ := h n (by omega)
    refine ⟨ks ++ [k], by simp [hl], fun i x hx => ?_⟩
    by_cases hi : i < n
    · rw [List.getElem?_append_left (by omega)] at hx
      exact hq i x hx
    · have hlt := (List.getElem?_eq_some_iff.1 hx).1
      simp [hl] at hlt
      have : i = n := by omega
      subst this
      rw [List.getElem?_append_right (by omega), hl] at hx
      simp at hx
      subst hx
      exact hk

theorem cells26 : Try.prog.cellsOf 26 = 4 := by kernel_rfl
theorem cells24 : Try.prog.cellsOf 24 = 1 := by kernel_rfl

set_option maxRecDepth 100000 in
theorem open_key {H : Type} {enc : TypeId × Value → H} {W : World} {base : Nat} {sp : Nat → Bool} {held : Bool} {n : Nat} {cs : List Value} {x : DataW H × List MemPlace} (h : DataW.trod enc Try.prog W base sp held n 26 cs = some x) : ∃ k : HK, cs = k.cells ∧ k.ok := by
  obtain ⟨y0, y1, y2, y3, m, _, hl, h0, h1, h2, h3⟩ := trod_struct4 Try.underlying26 h
  rw [cells26] at hl
  match cs, hl with
  | [c0, c1, c2, c3], _ =>
    simp [cells9, cells24] at h0 h1 h2 h3
    obtain ⟨a, e0, _, wa⟩ := DataW.trod_string Try.underlying9 h0
    obtain ⟨f, e1, _, wf⟩ := DataW.trod_string Try.underlying9 h1
    obtain ⟨c, e2, _, wc⟩ := DataW.trod_string Try.underlying9 h2
    obtain ⟨r, e3, _, wr⟩ := DataW.trod_int Try.underlying24 h3
    simp at e0 e1 e2 e3
    subst e0 e1 e2 e3
    exact ⟨⟨a, f, c, r⟩, rfl, wa, wf, wc, wr⟩

theorem open_keys {H : Type} {enc : TypeId × Value → H} {W : World} {fuel : Nat} {x0 : Option Addr} {len0 cap0 : Nat} {y : DataW H × List MemPlace} (h : DataW.trod enc Try.prog W 0 (fun _ => true) true fuel 22 [.slice x0 len0 cap0] = some y) :
    len0 = 0 ∨ ∃ b off ks, x0 = some ⟨b, off, none⟩ ∧ KeysAt W b off len0 ks ∧ b < W.heap.size ∧ len0 ≤ maxLen := by
  rcases open_slice Try.underlying22 h with ⟨hcs, _⟩ | ⟨a, len, cap, m, n, D, Pl, hcs, _, hl, hm, hmm, _, hel⟩
  · simp at hcs; exact Or.inl hcs.2.1
  · simp at hcs
    obtain ⟨rfl, rfl, rfl⟩ := hcs
    simp at hmm
    subst hmm
    by_cases h0 : len0 = 0
    · exact Or.inl h0
    · right
      have each : ∀ i, i < len0 → ∃ k : HK, (∀ t, t < 4 → W.cell? ((a.add (i * 4)).add t) = k.cells[t]?) ∧ k.ok := fun i hi => by
        obtain ⟨cs', h1, h2⟩ := hel i (by omega)
        rw [cells26] at h1
        obtain ⟨k, rfl, hk⟩ := open_key h2
        exact ⟨k, (World.cells?_some h1).2.2, hk⟩
      obtain ⟨b, off, spot⟩ := a
      have hspot : spot = none := by
        obtain ⟨k, hk, _⟩ := each 0 (by omega)
        have hc0 : W.cell? ⟨b, off, spot⟩ = some (.string k.a) := by
          have := hk 0 (by omega)
          rw [show ((⟨b, off, spot⟩ : Addr).add (0 * 4)).add 0 = ⟨b, off, spot⟩ from rfl] at this
          exact this
        exact World.cell?_spot hc0
      subst hspot
      obtain ⟨ks, hkl, hks⟩ := list_of len0 each
      have hkeys : KeysAt W b off len0 ks := by
        refine ⟨hkl, fun i k hi => ?_⟩
        obtain ⟨hc, hok⟩ := hks i k hi
        have get : ∀ t, t < 4 → W.cell? ⟨b, off + i * 4 + t, none⟩ = k.cells[t]? := fun t ht => by
          have := hc t ht
          rw [Go.WideShapes.add_plain, Go.WideShapes.add_plain] at this
          exact this
        exact ⟨get 0 (by omega), get 1 (by omega), get 2 (by omega), get 3 (by omega), hok⟩
      refine ⟨b, off, ks, rfl, hkeys, ?_, by omega⟩
      obtain ⟨k, hk⟩ : ∃ k, ks[0]? = some k := ⟨_, List.getElem?_eq_getElem (by omega)⟩
      exact block_lt_of_cell (hkeys.2 0 k hk).1
end Go.Proofs.Qxb6614575a
