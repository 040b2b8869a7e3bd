/- FnSliceText, as a plain statement: the characters between two places. -/
import Derived.Test.YtjpocldnibmopaaDoorPFnSliceTextx1
import Derived.Test.YtjpocldnibmopaaDoorTxt
namespace Go.Proofs.YtjpocldnibmopaaDoor.Pure
open Go.RowKit Go.Proofs.YtjpocldnibmopaaDoor.PFnSliceText Go.Proofs.YtjpocldnibmopaaDoorW.PrintWords Go.Proofs.YtjpocldnibmopaaDoorW.PrintLast Go.Proofs.YtjpocldnibmopaaDoor.Txt Go.Proofs.YtjpocldnibmopaaDoor

/-! ### texts of UTF-8 -/
/-- Are all of these looked at? -/
def textL (l : List ByteArray) : Bool := l.all fun s => s.size ≤ 500 && Giv.utf8 s
theorem textL_cons (s : ByteArray) (l : List ByteArray) : textL (s :: l) = ((decide (s.size ≤ 500) && Giv.utf8 s) && textL l) := rfl
theorem text_ev (l : List ByteArray) (hl : l.length ≤ 1000) : Ev (fun k => laws_text9.f k l) (textL l) := by
  have key : ∀ (d i : Nat), l.length - i = d → i ≤ l.length → Ev (fun k => laws_text9.l0 k l (l.length : Int) (i : Int)) (textL (l.drop i)) := by
    intro d
    induction d with
    | zero =>
      intro i hd hi
      rw [List.drop_eq_nil_of_le (by omega)]
      refine Ev.step (f := fun _ => some true) (fun k => ?_) (Ev.now _)
      simp only [laws_text9.l0]; rw [if_neg (by omega)]
    | succ d ih =>
      intro i hd hi
      have hlt : i < l.length := by omega
      have e : l.drop i = l[i] :: l.drop (i + 1) := List.drop_eq_getElem_cons hlt
      have hr : rdOf ByteArray.empty l (i : Int) = l[i] := by simp [rdOf, List.getElem?_eq_getElem hlt]
      by_cases h5 : l[i].size ≤ 500
      · have ha : Giv.spec_UTF8.f l[i] = some (Giv.utf8 l[i]) := by unfold Giv.spec_UTF8.f; rw [if_pos (by omega)]
        refine Ev.step (f := fun k => (Giv.spec_UTF8.f l[i]).bind fun t => if t = true then laws_text9.l0 k l (l.length : Int) ((i + 1 : Nat) : Int) else some false) (fun k => ?_) ?_
        · simp only [laws_text9.l0]; rw [if_pos (by omega), if_pos (by omega), if_pos (by omega), hr, if_neg (by omega), w64 (by omega) (by omega)]; rfl
        · refine Ev.thenC ha ?_
          cases hx : Giv.utf8 l[i] with
          | true =>
            have e2 : textL (l.drop i) = textL (l.drop (i + 1)) := by rw [e, textL_cons, hx, decide_eq_true h5]; rfl
            rw [e2]; exact Ev.pos rfl (ih (i + 1) (by omega) (by omega))
          | false =>
            have e2 : textL (l.drop i) = false := by rw [e, textL_cons, hx, Bool.and_false, Bool.false_and]
            rw [e2]; exact Ev.neg (by decide) (Ev.now _)
      · have e2 : textL (l.drop i) = false := by rw [e, textL_cons, decide_eq_false h5]; rfl
        rw [e2]
        refine Ev.step (f := fun _ => some false) (fun k => ?_) (Ev.now _)
        simp only [laws_text9.l0]; rw [if_pos (by omega), if_pos (by omega), if_pos (by omega), hr, if_pos (by omega)]
  have := key _ 0 rfl (Nat.zero_le _)
  simpa [laws_text9.f] using this
/-- Of a text of UTF-8: both answer alike. -/
theorem alike (s : ByteArray) (hu : Giv.utf8 s = true) (a e : Int) :
    (Giv.sliceS s a e).isSome = (Giv.specS s a e).2 ∧ ∀ r, Giv.sliceS s a e = some r → r.toList = (Giv.specS s a e).1.toList := by
  have hl := Giv.runes_length s
  unfold Giv.sliceS Giv.specS
  by_cases h0 : a < 0
  · rw [if_pos (.inl h0), if_pos (.inl h0)]; exact ⟨rfl, fun r h => absurd h (by simp)⟩
  obtain ⟨n, rfl⟩ : ∃ n : Nat, a = (n : Int) := ⟨a.toNat, by omega⟩
  rw [Int.toNat_natCast]
  obtain ⟨p1, -, -⟩ := Giv.part_runes s hu n 0
  have hle := Giv.adv_le s n 0 (Nat.zero_le _)
  by_cases h1 : e < 0
  · rw [if_neg (show ¬ ((n : Int) < 0 ∨ (s.size : Int) < e ∨ (0 ≤ e ∧ e < (n : Int))) by omega)]
    by_cases h2 : (Giv.runes s).length < n
    · rw [if_pos (show 0 < (Giv.adv s n 0).1 by omega), if_pos (.inr (.inl ⟨h1, by omega⟩))]
      exact ⟨rfl, fun r h => absurd h (by simp)⟩
    · rw [if_neg (show ¬ 0 < (Giv.adv s n 0).1 by omega), if_pos h1, if_neg (by omega), if_pos h1]
      refine ⟨rfl, fun r h => ?_⟩
      obtain rfl := Option.some.inj h
      obtain ⟨q1, q2, q3⟩ := Giv.part_runes s hu n ((Giv.runes s).length - n)
      rw [q3]
      -- all characters: the place is the end
      have hm := Giv.adv_le s ((Giv.runes s).length - n) (Giv.adv s n 0).2 hle.2.1
      obtain ⟨z1, z2, z3⟩ := Giv.part_runes s hu n ((Giv.runes s).length - n + 1)
      have hm1 := Giv.adv_le s ((Giv.runes s).length - n + 1) (Giv.adv s n 0).2 hle.2.1
      have e1 : (Giv.adv s ((Giv.runes s).length - n + 1) (Giv.adv s n 0).2).2 = s.size := hm1.2.2.1 (by omega)
      have e2 : ((Giv.runes s).drop n).take ((Giv.runes s).length - n + 1) = ((Giv.runes s).drop n).take ((Giv.runes s).length - n) := by
        rw [List.take_of_length_le (by rw [List.length_drop]; omega), List.take_of_length_le (by rw [List.length_drop]; omega)]
      rw [e2, q3, e1] at z3
      exact z3.symm
  · by_cases h2 : e < (n : Int)
    · rw [if_pos (show ((n : Int) < 0 ∨ (s.size : Int) < e ∨ (0 ≤ e ∧ e < (n : Int))) by omega), if_pos (show _ by exact .inr (.inr ⟨by omega, .inl h2⟩))]
      exact ⟨rfl, fun r h => absurd h (by simp)⟩
    obtain ⟨b, rfl⟩ : ∃ b : Nat, e = ((n + b : Nat) : Int) := ⟨(e - n).toNat, by omega⟩
    have eb : (((n + b : Nat) : Int) - (n : Int)).toNat = b := by omega
    rw [eb]
    obtain ⟨q1, q2, q3⟩ := Giv.part_runes s hu n b
    by_cases h3 : (Giv.runes s).length < n + b
    · rw [if_pos (show (n : Int) < 0 ∨ (((n + b : Nat) : Int) < 0 ∧ ((Giv.runes s).length : Int) < (n : Int)) ∨ (0 ≤ ((n + b : Nat) : Int) ∧ (((n + b : Nat) : Int) < (n : Int) ∨ ((Giv.runes s).length : Int) < ((n + b : Nat) : Int))) by omega)]
      refine ⟨?_, ?_⟩
      · split
        · rfl
        split
        · rfl
        rw [if_pos (show 0 < (Giv.adv s b (Giv.adv s n 0).2).1 by omega)]; rfl
      · intro r h
        exfalso
        split at h
        · exact absurd h (by simp)
        split at h
        · exact absurd h (by simp)
        rw [if_pos (show 0 < (Giv.adv s b (Giv.adv s n 0).2).1 by omega)] at h
        exact absurd h (by simp)
    · rw [if_neg (show ¬ ((n : Int) < 0 ∨ (s.size : Int) < ((n + b : Nat) : Int) ∨ (0 ≤ ((n + b : Nat) : Int) ∧ ((n + b : Nat) : Int) < (n : Int))) by omega), if_neg (show ¬ 0 < (Giv.adv s n 0).1 by omega), if_neg h1, if_neg (show ¬ 0 < (Giv.adv s b (Giv.adv s n 0).2).1 by omega),
        if_neg (show ¬ ((n : Int) < 0 ∨ (((n + b : Nat) : Int) < 0 ∧ ((Giv.runes s).length : Int) < (n : Int)) ∨ (0 ≤ ((n + b : Nat) : Int) ∧ (((n + b : Nat) : Int) < (n : Int) ∨ ((Giv.runes s).length : Int) < ((n + b : Nat) : Int)))) by omega), if_neg h1]
      refine ⟨rfl, fun r h => ?_⟩
      obtain rfl := Option.some.inj h
      exact q3.symm

theorem FnSliceText : laws_FnSliceText.Pure := by
  intro s a e hs ha he
  apply Ev.rounds
  have ba := wf64 ha; have be := wf64 he
  unfold laws_FnSliceText.f
  by_cases h1 : (s.size : Int) > 2147483647
  · exact Ev.pos h1 (Ev.now _)
  refine Ev.neg h1 ?_
  refine Ev.andThen (text_ev [s] (by simp)) ?_
  cases htx : textL [s] with
  | false => exact Ev.neg (by decide) (Ev.now _)
  | true =>
    refine Ev.pos rfl ?_
    simp only [textL, List.all_cons, List.all_nil, Bool.and_true, Bool.and_eq_true, decide_eq_true_eq] at htx
    have z := htx.1
    obtain ⟨k1, k2⟩ := alike s htx.2 a e
    have f1 : Giv.spec_SliceText.f s a e = some (Giv.specS s a e) := by unfold Giv.spec_SliceText.f; rw [if_pos (by omega)]
    have f2 : Giv.impl_SliceText.f s a e = some ((Giv.sliceS s a e).getD ⟨#[]⟩, (Giv.sliceS s a e).isSome) := by unfold Giv.impl_SliceText.f; rw [if_pos ⟨ba.1, ba.2, be.1, be.2, by omega⟩]
    refine Ev.thenC f1 (Ev.thenC f2 (Ev.pos (by simp [k1]) ?_))
    cases hx : Giv.sliceS s a e with
    | none => exact Ev.neg (by simp) (Ev.now _)
    | some r =>
      refine Ev.pos rfl (Ev.const ?_)
      have := k2 r hx
      simp [this]

end Go.Proofs.YtjpocldnibmopaaDoor.Pure
