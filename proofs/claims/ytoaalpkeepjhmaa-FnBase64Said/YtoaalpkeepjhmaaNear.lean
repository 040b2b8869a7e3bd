/- A region that draws its order, whose operations read old memory and whose calls make new memory: one walk in the order of the text. The class of worlds: those that are as they were below a block. -/
import Derived.Test.YtoaalpkeepjhmaaProg
import Derived.WalkKit
import Derived.BigQuiet
import Derived.Below
namespace Go.Proofs.Ytoaalpkeepjhmaa.Vals
open Go.RowKit
set_option linter.unusedVariables false

/-- A world that is as w was below block B. -/
structure Near (B : Nat) (w : World) where
  W : World
  h : Below B w W
instance (B : Nat) (w : World) : Nonempty (Near B w) := ⟨⟨w, Below.refl _ _⟩⟩
theorem Near.cell {B : Nat} {w : World} (x : Near B w) {b o : Nat} {v : Value} (hb : b < B) (h : w.cell? ⟨b, o, none⟩ = some v) : x.W.cell? ⟨b, o, none⟩ = some v :=
  (x.h.cell (p := ⟨b, o, none⟩) hb).trans h
theorem Near.size {B : Nat} {w : World} (x : Near B w) : w.heap.size ≤ x.W.heap.size := x.h.size
theorem Near.of {B : Nat} {w : World} (x : Near B w) {W : World} (h : Below x.W.heap.size x.W W) (hB : B ≤ w.heap.size) : ∃ y : Near B w, W = y.W :=
  ⟨⟨W, x.h.trans (h.mono (Nat.le_trans hB x.size))⟩, rfl⟩

theorem wp_region_near {P : Program} (B : Nat) (w0 : World) {id : Nat} {Q : Exit → Act → World → Prop} {a : Act} {w : World} {l : List Oper} (hm : P.follows .mixedOrders = true) (hB : Region.lexB .any l.toArray = true) (hw : Below B w0 w)
    (h : wpQuiet P l.toArray (fun w' => ∃ x : Near B w0, w' = x.W) (fun a' => ∀ w', (∃ x : Near B w0, w' = x.W) → Q .normal a' w') l a) : (Code.region id l.toArray true).wp P Q a w :=
  wp_region_quiet (C := fun w' => ∃ x : Near B w0, w' = x.W) hm hB ⟨⟨{ w with drawn := w.drawn + 1 }, ⟨hw.os, hw.tape, hw.output, hw.size, hw.block⟩⟩, rfl⟩ (by simpa using h)
end Go.Proofs.Ytoaalpkeepjhmaa.Vals
