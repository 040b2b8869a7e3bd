/- A dictionary that the laws take; what has been put and what has been taken, plainly. -/
import Derived.Test.YtaclgcpfcejplaaGreatDoorValTk
import Derived.Test.YtaclgcpfcejplaaGreatDoorValR
namespace Go.Proofs.YtaclgcpfcejplaaGreatDoor.Vals
open Go.RowKit Go.Proofs.YtaclgcpfcejplaaGreatDoorW.PrintWords
set_option linter.unusedVariables false
set_option maxRecDepth 20000

theorem pick_all {α : Type} {p : Nat → Bool} (l : List α) (hp : ∀ i, p i = true) : ∀ n, pickI p l n = l.take n
  | 0 => by simp [pickI]
  | n + 1 => by
    unfold pickI
    rw [pick_all l hp n, if_pos (hp n), List.take_add_one]
theorem pick_but {α : Type} (l : List α) (a : Nat) : ∀ n, n ≤ l.length → pickI (fun i => decide (i ≠ a)) l n = (l.take n).eraseIdx a
  | 0, _ => by simp [pickI]
  | n + 1, hn => by
    unfold pickI
    have hl : (l.take n).length = n := by rw [List.length_take]; omega
    rw [pick_but l a n (by omega), List.take_add_one, List.getElem?_eq_getElem (by omega)]
    simp only [Option.toList]
    rcases Nat.lt_trichotomy n a with h | h | h
    · rw [if_pos (by simp; omega), List.eraseIdx_of_length_le (by omega), List.eraseIdx_of_length_le (by rw [List.length_append, List.length_singleton]; omega)]
    · subst h
      rw [if_neg (by simp), List.append_nil, List.eraseIdx_of_length_le (by omega), List.eraseIdx_append_of_length_le (by omega), hl, Nat.sub_self]
      simp
    · rw [if_pos (by simp; omega), List.eraseIdx_append_of_lt_length (by omega)]
theorem pick_taken {α : Type} (ks : List ByteArray) (l : List α) (s : ByteArray) (h : ks.length = l.length) : pickI (fun i => !isD ks s || decide (i ≠ atD ks s)) l ks.length = takeL ks l s := by
  unfold takeL
  cases isD ks s with
  | false => rw [if_neg (by simp), pick_all l (fun i => by simp), h, List.take_length]
  | true =>
    rw [if_pos rfl]
    simp only [Bool.not_true, Bool.false_or]
    rw [pick_but l _ _ (by omega), h, List.take_length]
theorem pick_takenK (ks : List ByteArray) (s : ByteArray) : pickI (fun i => !isD ks s || decide (i ≠ atD ks s)) ks ks.length = takeK ks s := pick_taken ks ks s rfl
theorem same_puts {ks : List ByteArray} {l : List V} (h : ∀ x ∈ l, ∃ d, Right x d) : SameP (.mk 7 0 0 ⟨#[]⟩ ks (norms l)) (.mk 7 0 0 ⟨#[]⟩ ks l) := by
  unfold SameP
  simp only [V.k, V.n, V.r, V.t, V.ks, V.l]
  refine ⟨by unfold bareB; decide +kernel, trivial, norms_len l, SamesP.mk (norms_len l) fun i hi hi' => ?_⟩
  rw [norms_get l i hi' hi]
  obtain ⟨d, hd⟩ := h _ (List.getElem_mem hi')
  exact same_of hd
end Go.Proofs.YtaclgcpfcejplaaGreatDoor.Vals
