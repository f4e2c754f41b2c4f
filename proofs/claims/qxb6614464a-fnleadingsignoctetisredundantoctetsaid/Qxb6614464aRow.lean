/- A new block of octets, written out: its cells, its stores. -/
import Derived.Test.Qxb6614464aRedPlain
import Derived.WalkKit
import Derived.Deep.OwnRows
namespace Go.Proofs.Qxb6614464a
open Go.RowKit

def arrOf (L : List Int) : Array Value := (L.map (Value.int .u8)).toArray

theorem arrOf_size (L : List Int) : (arrOf L).size = L.length := by simp [arrOf]

theorem arrOf_get (L : List Int) (j : Nat) (h : j < L.length) : (arrOf L)[j]? = some (.int .u8 (L.getD j 0)) := by
  simp [arrOf, h]

theorem arrOf_set (L : List Int) (j : Nat) (v : Int) : (arrOf L).setIfInBounds j (.int .u8 v) = arrOf (L.set j v) := by
  simp [arrOf, List.map_set]

theorem made_arr (n : Nat) : madeCells #[.int .u8 0] n = arrOf (List.replicate n 0) := by
  apply Array.ext
  · simp [size_madeCells, arrOf]
  · intro i h1 h2
    simp [madeCells, arrOf]
    rw [Nat.mod_one]
    rfl

theorem row_cell (w : World) (L : List Int) (j : Nat) (h : j < L.length) : (w.alloc (.cells (arrOf L) 5)).cell? ⟨w.heap.size, j, none⟩ = some (.int .u8 (L.getD j 0)) := by
  rw [World.cell?_alloc_at _ _ _ _ rfl]
  exact arrOf_get L j h

theorem row_set (w : World) (L : List Int) (j : Nat) (v : Int) : (w.alloc (.cells (arrOf L) 5)).setCell ⟨w.heap.size, j, none⟩ (.int .u8 v) = w.alloc (.cells (arrOf (L.set j v)) 5) := by
  rw [World.setCell_alloc_at _ _ _ _ _ rfl, arrOf_set]

end Go.Proofs.Qxb6614464a
