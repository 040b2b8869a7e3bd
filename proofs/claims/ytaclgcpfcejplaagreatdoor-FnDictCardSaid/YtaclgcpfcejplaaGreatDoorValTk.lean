/- Walk of given.example/pub-budwood/spec.Taken: a dictionary without some keys. -/
import Derived.Test.YtaclgcpfcejplaaGreatDoorValPt
import Derived.Deep.RegionHeld3
import Derived.Test.YtaclgcpfcejplaaGreatDoorSplit
import Derived.Deep.CutBlock
namespace Go.Proofs.YtaclgcpfcejplaaGreatDoor.Vals
open Go.Proofs.YtaclgcpfcejplaaGreatDoor.Split Go.RowKit Go.ChangeMaps Go.Proofs.YtaclgcpfcejplaaGreatDoorW.PrintWords Go.Proofs.YtaclgcpfcejplaaGreatDoor.Txt
set_option linter.unusedVariables false
set_option maxRecDepth 20000
/-- The elements of a list that a test by their places lets in, of so many. -/
def pickI {α : Type} (p : Nat → Bool) (l : List α) : Nat → List α
  | 0 => []
  | i + 1 => pickI p l i ++ (if p i = true then (l[i]?).toList else [])
theorem pickI_le {α : Type} (p : Nat → Bool) (l : List α) : ∀ i, (pickI p l i).length ≤ i
  | 0 => Nat.le_refl _
  | i + 1 => by
    have := pickI_le p l i
    unfold pickI
    rw [List.length_append]
    split
    · cases l[i]? <;> simp <;> omega
    · simp; omega
theorem pickI_len {α β : Type} (p : Nat → Bool) {l : List α} {l' : List β} (h : l.length = l'.length) : ∀ i, (pickI p l i).length = (pickI p l' i).length
  | 0 => rfl
  | i + 1 => by
    unfold pickI
    rw [List.length_append, List.length_append, pickI_len p h i]
    by_cases hp : p i = true
    · rw [if_pos hp, if_pos hp]
      by_cases hi : i < l.length
      · rw [List.getElem?_eq_getElem hi, List.getElem?_eq_getElem (by omega)]; rfl
      · rw [List.getElem?_eq_none (by omega), List.getElem?_eq_none (by omega)]; rfl
    · rw [if_neg hp, if_neg hp]; rfl
theorem pickI_mem {α : Type} (p : Nat → Bool) {l : List α} : ∀ i {x : α}, x ∈ pickI p l i → x ∈ l
  | 0, x, h => by simp [pickI] at h
  | i + 1, x, h => by
    unfold pickI at h
    rcases List.mem_append.1 h with h | h
    · exact pickI_mem p i h
    · split at h
      · cases hl : l[i]? with
        | none => rw [hl] at h; simp at h
        | some y =>
          rw [hl] at h
          simp at h
          subst h
          exact List.mem_of_getElem? hl
      · simp at h
theorem pickI_yes {α : Type} {p : Nat → Bool} {l : List α} {i : Nat} (h : p i = true) (hi : i < l.length) : pickI p l (i + 1) = pickI p l i ++ [l[i]] := by
  show pickI p l i ++ _ = _
  rw [if_pos h, List.getElem?_eq_getElem hi]; rfl
theorem pickI_no {α : Type} {p : Nat → Bool} {l : List α} {i : Nat} (h : p i = false) : pickI p l (i + 1) = pickI p l i := by
  show pickI p l i ++ _ = _
  rw [if_neg (by rw [h]; simp), List.append_nil]
/-- Two rows of the call's own are laid into their box. -/
theorem two_store {wr wX W' : World} {bo m1 : Nat} {s4 s5 vK vL : Value} {n1 n2 : Nat} {kz yz : List Value} (hbx : Box6 wX bo (.int .i64 7) (.int .i64 0) (.float .f64 0) (.string ⟨#[]⟩) s4 s5) (hK : wX.ownsRow (bo + 1) 9 1 vK n1 kz) (hL : wX.ownsRow (bo + 1) 28 6 vL n2 yz)
    (hb : Below (bo + 1) wr wX) (hm : m1 ≤ wX.heap.size) (hW : W' = (wX.setCell ⟨bo, 4, none⟩ vK).setCell ⟨bo, 5, none⟩ vL) :
    Box6 W' bo (.int .i64 7) (.int .i64 0) (.float .f64 0) (.string ⟨#[]⟩) vK vL ∧ W'.ownsRow (bo + 1) 9 1 vK n1 kz ∧ W'.ownsRow (bo + 1) 28 6 vL n2 yz ∧ Below bo wr W' ∧ m1 ≤ W'.heap.size := by
  have h5 := blk_set (blk_set hbx 4 vK) 5 vL
  rw [← hW] at h5
  have ho : ∀ k, k ≠ bo → W'.heap[k]? = wX.heap[k]? := fun k hk => by rw [hW, Below.heap_setCell _ _ _ _ hk, Below.heap_setCell _ _ _ _ hk]
  have hb1 : Below bo wX W' := by
    rw [hW]; exact ((Below.refl _ _).setCell (p := ⟨bo, 4, none⟩) (Nat.le_refl _) _).setCell (p := ⟨bo, 5, none⟩) (Nat.le_refl _) _
  have hg : wX.grownBy W' (some bo) := ⟨hb1.os, hb1.tape, hb1.output, hb1.size, fun j hj hjr => ho j (fun e => hjr (by rw [e]))⟩
  exact ⟨by unfold Box6; simpa using h5, hK.kept hg (.inr (row_ne_low (b := bo) hK (by omega)).symm), hL.kept hg (.inr (row_ne_low (b := bo) hL (by omega)).symm), (hb.mono (by omega)).trans hb1, Nat.le_trans hm hb1.size⟩

end Go.Proofs.YtaclgcpfcejplaaGreatDoor.Vals

