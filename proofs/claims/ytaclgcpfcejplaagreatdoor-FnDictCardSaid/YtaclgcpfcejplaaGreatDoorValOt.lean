/- A parameter that is a slice of texts. -/
import Derived.Test.YtaclgcpfcejplaaGreatDoorValO
import Derived.ChangeArms
import Derived.SliceStrings
import Derived.ProofKit
import Derived.OpenShut
namespace Go.Proofs.YtaclgcpfcejplaaGreatDoor.Vals
open Go.ChangeShapes Go.WideShapes Go.ChangeAt Go.RowKit
set_option linter.unusedVariables false
set_option maxRecDepth 20000
section
variable {H : Type} {enc : TypeId × Value → H} {w : World} {base : Nat} {sp : Nat → Bool} {hd : Bool}
theorem open_texts {r : Reach} {b0 : Nat} {v : Value} {d : DataW H} {p : List MemPlace} (hv : Value.okWide Tryz.prog w r b0 22 v) (h : DataW.Trod enc Tryz.prog w base sp hd 22 v d p) :
    ∃ (A : Option Addr) (c : Nat) (ms : List ByteArray), v = .slice A ms.length c ∧ RowIs w (fun b => b < w.heap.size) 1 (.slice A ms.length c) ms.length (ms.map Value.string) := by
  obtain ⟨A, n, c, rfl⟩ := okWide_slice Tryz.underlying22 hv
  obtain ⟨fuel, hf⟩ := h
  rcases open_strings Tryz.underlying22 Tryz.underlying9 textCells hf with ⟨hcs, _⟩ | ⟨a, len, cap, ss, hcs, _, hl, hm, hz, _, hcell, hw⟩
  · simp [Value.cells] at hcs
    obtain ⟨rfl, rfl, rfl⟩ := hcs
    exact ⟨none, 0, [], rfl, none, 0, rfl, by simp, by unfold maxLen; omega, by simp, fun h => absurd h (by simp)⟩
  · simp [Value.cells] at hcs
    obtain ⟨rfl, rfl, rfl⟩ := hcs
    have hss : n ≤ ss.length := by rw [hz]; split <;> omega
    have hlen : (ss.take n).length = n := by rw [List.length_take]; omega
    refine ⟨some a, c, ss.take n, by rw [hlen], some a, c, by rw [hlen], by rw [hlen]; exact hl, hm, by simp, fun h0 => ?_⟩
    have h00 := hcell 0 (by omega)
    rw [show a.add 0 = a by unfold Addr.add; rfl] at h00
    have hp := plain_of h00
    refine ⟨a.block, a.off, by rw [← hp], World.block_lt_of_cell? w _ h00, fun j u hu => ?_⟩
    rw [List.getElem?_map] at hu
    cases hj : (ss.take n)[j]? with
    | none => rw [hj] at hu; cases hu
    | some s =>
      rw [hj] at hu
      injection hu with hu
      subst hu
      have hjl : j < (ss.take n).length := (List.getElem?_eq_some_iff.1 hj).1
      have hjs : j < ss.length := by rw [hlen] at hjl; omega
      have e := hcell j hjs
      rw [add_eq hp, e]
      rw [List.getElem?_take, if_pos (by omega), List.getElem?_eq_getElem hjs] at hj
      injection hj with hj
      rw [List.getD_eq_getElem?_getD, List.getElem?_eq_getElem hjs, Option.getD_some, hj]
end
end Go.Proofs.YtaclgcpfcejplaaGreatDoor.Vals
