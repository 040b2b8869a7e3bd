/- A right value: it is fine for coming back, and what comes back is the same. -/
import Derived.Test.YtaclgcpfcejplaaGreatDoorValDict
import Derived.Test.YtaclgcpfcejplaaGreatDoorValS
import Derived.Test.YtaclgcpfcejplaaGreatDoorValR
import Derived.Laws.BitsLemmas
namespace Go.Proofs.YtaclgcpfcejplaaGreatDoor.Vals
open Go.RowKit Go.Proofs.YtaclgcpfcejplaaGreatDoorW.PrintWords Go.Proofs.YtaclgcpfcejplaaGreatDoor.Txt
set_option linter.unusedVariables false
set_option maxRecDepth 20000

theorem and1 (n : Int) : bits .and .i64 n 1 = n % 2 := by
  have h1 : (BitVec.ofInt 64 1).toNat = 2 ^ 1 - 1 := by decide
  have key : (BitVec.ofInt 64 n &&& BitVec.ofInt 64 1).toNat = (n % ((2 ^ 64 : Nat) : Int)).toNat % 2 ^ 1 := by
    rw [BitVec.toNat_and, BitVec.toNat_ofInt, h1, Nat.and_two_pow_sub_one_eq_mod]
  show IntKind.i64.wrap ((BitVec.ofInt 64 n &&& BitVec.ofInt 64 1).toNat : Nat) = n % 2
  rw [key, IntKind.wrap_i64]
  omega

theorem Right.bare {k n : Int} {r : Nat} {t : ByteArray} {ks : List ByteArray} {l : List V} {d : Int} (h : Right (.mk k n r t ks l) d) :
    (n = if k = 1 then (if n = 1 then 1 else 0) else if k = 2 ∨ k = 3 then n else 0) ∧ feq r (if k = 4 then r else 0) = true ∧ t = (if k = 5 then t else ⟨#[]⟩) := by
  unfold Right at h
  obtain ⟨⟨n', r', t', hb, hbb⟩, hf, _⟩ := h
  obtain ⟨_, rfl, rfl, rfl⟩ := hb
  have hr := finB_refl hf
  unfold bareB at hbb
  simp only [Bool.and_eq_true, decide_eq_true_eq, Bool.or_eq_true, beq_iff_eq, hr] at hbb
  obtain ⟨_, h1, h2, h3⟩ := hbb
  refine ⟨?_, ?_, ext_eq h3⟩
  · by_cases hk : k = 1
    · rw [if_pos hk] at h1 ⊢
      rw [and1] at h1
      split <;> omega
    · rw [if_neg hk] at h1 ⊢
      exact h1
  · rcases h2 with h2 | h2
    · exact h2
    · simp at h2
theorem Right.fine : ∀ (N : Nat) (v : V), SizeOf.sizeOf v < N → ∀ {d : Int} {w : World} {P : Nat → Prop} {c0 c1 c2 c3 kv lv : Value}, Right v d → IsV w P v [c0, c1, c2, c3, kv, lv] → Fine v := by
  intro N
  induction N with
  | zero => intro v h; omega
  | succ N ih =>
    intro v hN d w P c0 c1 c2 c3 kv lv hr hi
    obtain ⟨xs, _, hl, hv, _, hI, _, _⟩ := hi.parts
    obtain ⟨A, c, rfl, _⟩ := hl.form
    have hch : ∀ i (h : i < v.l.length), Right v.l[i] (d - 1) → Fine v.l[i] := fun i h hri => by
      obtain ⟨b, o, kv', lv', _, _, _, hi', _⟩ := IsVs.elem hl hv i h
      exact ih _ (by have := v.lt_of_get i h; omega) hri hi'
    have hk := hr
    obtain ⟨k, n, r, t, ks, l⟩ := v
    have hkk := hk.kind
    unfold Right at hr
    obtain ⟨_, _, h3, _, h5, _, _, h8, h9, h10⟩ := hr
    unfold Fine
    refine ⟨hkk, hI, by unfold maxLen; omega, by simpa using Nat.le_trans h5 (by omega), fun h7 => ⟨h8 h7, ?_, ?_⟩, Fines.mk fun i h => hch i h (h10.at_ i h)⟩
    · exact asc_of_steps fun i h0 hi => (h9 h7 i (by have := h8 h7; omega)).2 h0
    · intro x hx
      obtain ⟨i, hi, rfl⟩ := List.mem_iff_getElem.1 hx
      have := (h9 h7 i (by have := h8 h7; omega)).1
      simp only [List.getD_eq_getElem?_getD, List.getElem?_eq_getElem hi, Option.getD_some] at this
      unfold maxLen; omega
theorem fine_of {v : V} {d : Int} {w : World} {P : Nat → Prop} {c0 c1 c2 c3 kv lv : Value} (hr : Right v d) (hi : IsV w P v [c0, c1, c2, c3, kv, lv]) : Fine v := Right.fine _ v (Nat.lt_succ_self _) hr hi
theorem fines_of {l : List V} {d : Int} {w : World} {P : Nat → Prop} {A : Option Addr} {c : Nat} {xs : List Value} (hr : Rights l d) (hl : RowIs w P 6 (.slice A l.length c) l.length xs) (hv : IsVs w P l xs) : Fines l :=
  Fines.mk fun i h => by
    obtain ⟨b, o, kv', lv', _, _, _, hi', _⟩ := IsVs.elem hl hv i h
    exact fine_of (hr.at_ i h) hi'
theorem same_norm : ∀ (N : Nat) (v : V), SizeOf.sizeOf v < N → ∀ {d : Int}, Right v d → SameP (norm v) v := by
  intro N
  induction N with
  | zero => intro v h; omega
  | succ N ih =>
    intro v hN d hr
    have hch : ∀ i (h : i < v.l.length), Right v.l[i] (d - 1) → SameP (norm v.l[i]) v.l[i] := fun i h hri => ih _ (by have := v.lt_of_get i h; omega) hri
    obtain ⟨k, n, r, t, ks, l⟩ := v
    obtain ⟨h1, h2, h3⟩ := hr.bare
    unfold Right at hr
    obtain ⟨_, _, _, h4, _, _, h7, _, _, h10⟩ := hr
    unfold norm
    unfold SameP
    simp only [V.k, V.n, V.r, V.t, V.ks, V.l]
    refine ⟨?_, ?_, ?_, ?_⟩
    · unfold bareB
      rw [← h1, ← h3, feq_symm, h2]
      simp
    · by_cases hk : k = 7
      · rw [if_pos hk]
      · rw [if_neg hk, List.eq_nil_of_length_eq_zero (h7 hk)]
    · by_cases hk : k = 6 ∨ k = 7
      · rw [if_pos hk, norms_len]
      · rw [if_neg hk, h4 (fun e => hk (.inl e)) (fun e => hk (.inr e))]; rfl
    · by_cases hk : k = 6 ∨ k = 7
      · rw [if_pos hk]
        exact SamesP.mk (norms_len l) fun i hi hi' => by rw [norms_get l i hi' hi]; exact hch i hi' (h10.at_ i hi')
      · rw [if_neg hk, List.eq_nil_of_length_eq_zero (h4 (fun e => hk (.inl e)) (fun e => hk (.inr e)))]
        unfold SamesP; rfl
theorem same_of {v : V} {d : Int} (hr : Right v d) : SameP (norm v) v := same_norm _ v (Nat.lt_succ_self _) hr
theorem sames_of {l : List V} {d : Int} (hr : Rights l d) : SamesP (norms l) l := SamesP.mk (norms_len l) fun i hi hi' => by rw [norms_get l i hi' hi]; exact same_of (hr.at_ i hi')
end Go.Proofs.YtaclgcpfcejplaaGreatDoor.Vals
