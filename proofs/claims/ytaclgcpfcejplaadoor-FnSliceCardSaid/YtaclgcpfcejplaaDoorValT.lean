/- Parts of a slice of values. -/
import Derived.Test.YtaclgcpfcejplaaDoorVals
namespace Go.Proofs.YtaclgcpfcejplaaDoor.Vals
open Go.RowKit
set_option linter.unusedVariables false

theorem IsV.len6 {w : World} {P : Nat → Prop} {v : V} {cs : List Value} (h : IsV w P v cs) : cs.length = 6 := by
  cases v; unfold IsV at h
  obtain ⟨kv, lv, xs, rfl, _⟩ := h
  rfl
theorem IsVs.drop1 {w : World} {P : Nat → Prop} {l : List V} {xs : List Value} (h : IsVs w P l xs) : IsVs w P (l.drop 1) (xs.drop 6) := by
  cases l with
  | nil => unfold IsVs at h; subst h; simp; unfold IsVs; rfl
  | cons v r =>
    unfold IsVs at h
    obtain ⟨c, c', rfl, h1, h2⟩ := h
    have e : (c ++ c').drop 6 = c' := by rw [← h1.len6]; exact List.drop_left
    rw [e]
    exact h2
theorem IsVs.takeV {w : World} {P : Nat → Prop} : ∀ (k : Nat) {l : List V} {xs : List Value}, IsVs w P l xs → IsVs w P (l.take k) (xs.take (k * 6))
  | 0, l, xs, h => by simp; unfold IsVs; rfl
  | k + 1, [], xs, h => by unfold IsVs at h; subst h; simp; unfold IsVs; rfl
  | k + 1, v :: l, xs, h => by
    unfold IsVs at h
    obtain ⟨c, c', rfl, h1, h2⟩ := h
    rw [List.take_succ_cons]
    unfold IsVs
    refine ⟨c, c'.take (k * 6), ?_, h1, IsVs.takeV k h2⟩
    rw [List.take_append, List.take_of_length_le (by rw [h1.len6]; omega), h1.len6, show (k + 1) * 6 - 6 = k * 6 by omega]
theorem RowIs.tail {w : World} {P : Nat → Prop} {b o n c : Nat} {xs : List Value} (h : RowIs w P 6 (.slice (some ⟨b, o, none⟩) n c) n xs) (hn : 0 < n) :
    RowIs w P 6 (.slice (if c = 1 then some ⟨b, o, none⟩ else some ⟨b, o + 6, none⟩) (n - 1) (c - 1)) (n - 1) (xs.drop 6) := by
  obtain ⟨h1, h2⟩ := h.sizes
  obtain ⟨_, _, _, _, _, hx⟩ := h.form
  obtain ⟨b', o', hA, hP, hc⟩ := h.elem hn
  injection hA with hA
  injection hA with hb ho
  subst hb; subst ho
  refine ⟨_, _, rfl, by omega, by omega, by rw [List.length_drop]; omega, fun h0 => ⟨b, o + 6, by rw [if_neg (by omega)], hP, fun j u hu => ?_⟩⟩
  rw [List.getElem?_drop] at hu
  rw [show o + 6 + j = o + (6 + j) by omega]
  exact hc _ _ hu
theorem RowIs.init {w : World} {P : Nat → Prop} {b o n c m : Nat} {xs : List Value} (h : RowIs w P 6 (.slice (some ⟨b, o, none⟩) n c) n xs) (hn : 0 < n) (hm : m ≤ n) :
    RowIs w P 6 (.slice (some ⟨b, o, none⟩) m c) m (xs.take (m * 6)) := by
  obtain ⟨h1, h2⟩ := h.sizes
  obtain ⟨_, _, _, _, _, hx⟩ := h.form
  obtain ⟨b', o', hA, hP, hc⟩ := h.elem hn
  injection hA with hA
  injection hA with hb ho
  subst hb; subst ho
  refine ⟨_, _, rfl, by omega, by omega, by rw [List.length_take]; omega, fun h0 => ⟨b, o, rfl, hP, fun j u hu => ?_⟩⟩
  rw [List.getElem?_take] at hu
  split at hu
  · exact hc _ _ hu
  · cases hu
end Go.Proofs.YtaclgcpfcejplaaDoor.Vals
