/- Walks of sprig.Has, impl.Has, spec.Has: whether a value is in a list. -/
import Derived.Test.YtaclgcpfcejplaaGreatDoorValZ
namespace Go.Proofs.YtaclgcpfcejplaaGreatDoor.Vals
open Go.RowKit Go.Proofs.YtaclgcpfcejplaaGreatDoorW.PrintWords Go.Proofs.YtaclgcpfcejplaaGreatDoor.Txt
set_option linter.unusedVariables false
set_option maxRecDepth 20000

theorem bareB_symm (k n : Int) (r : Nat) (t : ByteArray) (k' n' : Int) (r' : Nat) (t' : ByteArray) : bareB k n r t k' n' r' t' = bareB k' n' r' t' k n r t := by
  unfold bareB
  rw [feq_symm r r', Bool.and_comm (!feq r r)]
  have e1 : (t.toList == t'.toList) = (t'.toList == t.toList) := by rw [Bool.eq_iff_iff]; simp only [beq_iff_eq]; exact eq_comm
  have e2 : decide (k = k') = decide (k' = k) := by rw [Bool.eq_iff_iff]; simp only [decide_eq_true_eq]; exact eq_comm
  have e3 : decide (n = n') = decide (n' = n) := by rw [Bool.eq_iff_iff]; simp only [decide_eq_true_eq]; exact eq_comm
  rw [e1, e2, e3]
theorem same_symm_any : ∀ (N : Nat) (a : V), SizeOf.sizeOf a < N → ∀ b, SameP a b → SameP b a := by
  intro N
  induction N with
  | zero => intro a h; omega
  | succ N ih =>
    intro a hN b h
    have hch : ∀ i (h : i < a.l.length) (c : V), SameP a.l[i] c → SameP c a.l[i] := fun i h c => ih _ (by have := a.lt_of_get i h; omega) c
    obtain ⟨k, n, r, t, ks, l⟩ := a
    obtain ⟨k', n', r', t', ks', l'⟩ := b
    unfold SameP at h ⊢
    simp only [V.k, V.n, V.r, V.t, V.ks, V.l] at h hch ⊢
    obtain ⟨h1, h2, h3, h4⟩ := h
    exact ⟨by rw [bareB_symm]; exact h1, h2.symm, h3.symm, SamesP.mk h3.symm fun i hi hi' => hch i hi' _ (h4.at_ i hi' hi)⟩
theorem SameP.symm {a b : V} (h : SameP a b) : SameP b a := same_symm_any _ a (Nat.lt_succ_self _) b h
/-- A value is in a list. -/
def HasP (v : V) (l : List V) : Prop := ∃ i, ∃ h : i < l.length, SameP v l[i]
noncomputable def hasB (v : V) (l : List V) : Bool := @decide (HasP v l) (Classical.propDecidable _)
theorem hasB_no {v : V} {l : List V} (h : ¬ HasP v l) : hasB v l = false := @decide_eq_false _ (Classical.propDecidable _) h
theorem hasB_yes {v : V} {l : List V} (h : HasP v l) : hasB v l = true := @decide_eq_true _ (Classical.propDecidable _) h
theorem sameB_false {a b : V} (h : sameB a b = false) : ¬ SameP a b := fun e => by have := sameB_yes e; rw [h] at this; cases this
/-- A bool, this one, and no error. -/
def TheBoolOk (r : Bool) (Q : World → Prop) (e : Ending) (w' : World) : Prop := ∃ b, e = .returned (.tuple #[.bool b, .nilIface]) ∧ Hid (r = b) ∧ Q w'
def TheBool2 (r : Bool) (Q : World → Prop) (e : Ending) (w' : World) : Prop := ∃ b, e = .returned (.tuple #[.bool b, .bool true]) ∧ Hid (r = b) ∧ Q w'

end Go.Proofs.YtaclgcpfcejplaaGreatDoor.Vals
