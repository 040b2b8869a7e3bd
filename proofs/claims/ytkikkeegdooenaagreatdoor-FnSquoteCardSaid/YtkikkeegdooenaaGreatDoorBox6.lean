/- A block of six cells that holds one value. -/
import Derived.Test.YtkikkeegdooenaaGreatDoorVals
import Derived.WalkKit
namespace Go.Proofs.YtkikkeegdooenaaGreatDoor.Vals
open Go.RowKit Go.Proofs.YtkikkeegdooenaaGreatDoorW.PrintWords
set_option linter.unusedVariables false
/-- A box of six cells. -/
def Box6 (w : World) (b : Nat) (c0 c1 c2 c3 c4 c5 : Value) : Prop := w.heap[b]? = some (.cells #[c0, c1, c2, c3, c4, c5] 42 (0, 0))
theorem Box6.new (w : World) (c0 c1 c2 c3 c4 c5 : Value) : Box6 (w.alloc (.cells #[c0, c1, c2, c3, c4, c5] 42)) w.heap.size c0 c1 c2 c3 c4 c5 := heap_alloc_new w _
theorem Box6.lt {w : World} {b : Nat} {c0 c1 c2 c3 c4 c5 : Value} (h : Box6 w b c0 c1 c2 c3 c4 c5) : b < w.heap.size := blk_lt h
theorem Box6.below {w w' : World} {b : Nat} {c0 c1 c2 c3 c4 c5 : Value} (h : Box6 w b c0 c1 c2 c3 c4 c5) (hb : Below w.heap.size w w') : Box6 w' b c0 c1 c2 c3 c4 c5 := (hb.block b h.lt).trans h
theorem Box6.cells {w : World} {b : Nat} {c0 c1 c2 c3 c4 c5 : Value} (h : Box6 w b c0 c1 c2 c3 c4 c5) : w.cell? ⟨b, 0, none⟩ = some c0 ∧ w.cell? ⟨b, 1, none⟩ = some c1 ∧ w.cell? ⟨b, 2, none⟩ = some c2 ∧ w.cell? ⟨b, 3, none⟩ = some c3 ∧ w.cell? ⟨b, 4, none⟩ = some c4 ∧ w.cell? ⟨b, 5, none⟩ = some c5 :=
  ⟨by rw [blk_cell h]; rfl, by rw [blk_cell h]; rfl, by rw [blk_cell h]; rfl, by rw [blk_cell h]; rfl, by rw [blk_cell h]; rfl, by rw [blk_cell h]; rfl⟩

end Go.Proofs.YtkikkeegdooenaaGreatDoor.Vals
