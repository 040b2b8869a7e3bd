/- Lemmas on texts' cells and on builders that later steps leave alone. -/
import Derived.Test.YtoebognfkigooaaGreatDoorBld
namespace Go.Proofs.YtoebognfkigooaaGreatDoor.Giv
open Go.RowKit Go.Proofs.YtoebognfkigooaaGreatDoorW.PrintWords Go.Proofs.YtoebognfkigooaaGreatDoor.Txt
set_option linter.unusedVariables false

theorem strCells_tl (s : ByteArray) : Lib.strCells s = Lib.byteCells s.toList := by
  rw [Lib.toList_data]
  rfl
theorem bytes_app (a b : List UInt8) : Lib.byteCells a ++ Lib.byteCells b = Lib.byteCells (a ++ b) := by
  unfold Lib.byteCells; rw [List.map_append]
theorem bytes_len (a : List UInt8) : (Lib.byteCells a).length = a.length := by unfold Lib.byteCells; rw [List.length_map]
theorem ownsBelow {w w' : World} {B n m : Nat} {e : TypeId} {v : Value} {xs : List Value} (h : w.ownsRow B e m v n xs) (hb : Below w.heap.size w w') : w'.ownsRow B e m v n xs := by
  refine ⟨h.1, h.2.imp id ?_⟩
  rintro ⟨g, cap, cur, hv, hB, hg, r⟩
  have hlt : g < w.heap.size := by
    rcases Nat.lt_or_ge g w.heap.size with h' | h'
    · exact h'
    · simp [Array.getElem?_eq_none h'] at hg
  exact ⟨g, cap, cur, hv, hB, (hb.block g hlt).trans hg, r⟩
theorem builderBelow {w w' : World} {B b : Nat} {T e : TypeId} {p : Value} {bs : List Value} (h : Lib.BuilderAt T e B b p bs w) (hb : Below w.heap.size w w') : Lib.BuilderAt T e B b p bs w' := by
  obtain ⟨hB, v, hbk, hown, hne⟩ := h
  have hlt : b < w.heap.size := by
    rcases Nat.lt_or_ge b w.heap.size with h' | h'
    · exact h'
    · simp [Array.getElem?_eq_none h'] at hbk
  exact ⟨hB, v, (hb.block b hlt).trans hbk, ownsBelow hown hb, hne⟩
theorem isBelow {w w' : World} {B b : Nat} {T e : TypeId} {bs : List Value} (h : Lib.IsBuilder T e B b bs w) (hb : Below w.heap.size w w') : Lib.IsBuilder T e B b bs w' :=
  h.imp (fun h => builderBelow h hb) (fun h => builderBelow h hb)

end Go.Proofs.YtoebognfkigooaaGreatDoor.Giv
