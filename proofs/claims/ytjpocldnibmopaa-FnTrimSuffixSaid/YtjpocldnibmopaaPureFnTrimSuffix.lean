/- FnTrimSuffix, as a plain statement: an end goes, if the text has it, once. For all texts of at most 2^47 - 4096 bytes. -/
import Derived.Test.YtjpocldnibmopaaPFnTrimSuffixx1
import Derived.Test.YtjpocldnibmopaaTxt
namespace Go.Proofs.Ytjpocldnibmopaa.Pure
open Go.RowKit Go.Proofs.Ytjpocldnibmopaa.PFnTrimSuffix Go.Proofs.YtjpocldnibmopaaW.PrintWords Go.Proofs.YtjpocldnibmopaaW.PrintLast Go.Proofs.Ytjpocldnibmopaa.Txt Go.Proofs.Ytjpocldnibmopaa

/-! ### texts of UTF-8 -/
/-- Are all of these looked at? -/
def textL (l : List ByteArray) : Bool := l.all fun s => s.size ≤ 500 && Giv.utf8 s
theorem textL_cons (s : ByteArray) (l : List ByteArray) : textL (s :: l) = ((decide (s.size ≤ 500) && Giv.utf8 s) && textL l) := rfl
theorem text_ev (l : List ByteArray) (hl : l.length ≤ 1000) : Ev (fun k => laws_text9.f k l) (textL l) := by
  have key : ∀ (d i : Nat), l.length - i = d → i ≤ l.length → Ev (fun k => laws_text9.l0 k l (l.length : Int) (i : Int)) (textL (l.drop i)) := by
    intro d
    induction d with
    | zero =>
      intro i hd hi
      rw [List.drop_eq_nil_of_le (by omega)]
      refine Ev.step (f := fun _ => some true) (fun k => ?_) (Ev.now _)
      simp only [laws_text9.l0]; rw [if_neg (by omega)]
    | succ d ih =>
      intro i hd hi
      have hlt : i < l.length := by omega
      have e : l.drop i = l[i] :: l.drop (i + 1) := List.drop_eq_getElem_cons hlt
      have hr : rdOf ByteArray.empty l (i : Int) = l[i] := by simp [rdOf, List.getElem?_eq_getElem hlt]
      by_cases h5 : l[i].size ≤ 500
      · have ha : Giv.spec_UTF8.f l[i] = some (Giv.utf8 l[i]) := by unfold Giv.spec_UTF8.f; rw [if_pos (by omega)]
        refine Ev.step (f := fun k => (Giv.spec_UTF8.f l[i]).bind fun t => if t = true then laws_text9.l0 k l (l.length : Int) ((i + 1 : Nat) : Int) else some false) (fun k => ?_) ?_
        · simp only [laws_text9.l0]; rw [if_pos (by omega), if_pos (by omega), if_pos (by omega), hr, if_neg (by omega), w64 (by omega) (by omega)]; rfl
        · refine Ev.thenC ha ?_
          cases hx : Giv.utf8 l[i] with
          | true =>
            have e2 : textL (l.drop i) = textL (l.drop (i + 1)) := by rw [e, textL_cons, hx, decide_eq_true h5]; rfl
            rw [e2]; exact Ev.pos rfl (ih (i + 1) (by omega) (by omega))
          | false =>
            have e2 : textL (l.drop i) = false := by rw [e, textL_cons, hx, Bool.and_false, Bool.false_and]
            rw [e2]; exact Ev.neg (by decide) (Ev.now _)
      · have e2 : textL (l.drop i) = false := by rw [e, textL_cons, decide_eq_false h5]; rfl
        rw [e2]
        refine Ev.step (f := fun _ => some false) (fun k => ?_) (Ev.now _)
        simp only [laws_text9.l0]; rw [if_pos (by omega), if_pos (by omega), if_pos (by omega), hr, if_pos (by omega)]
  have := key _ 0 rfl (Nat.zero_le _)
  simpa [laws_text9.f] using this
/-- A text without an end, if it has it. -/
def cutEnd (p s : ByteArray) : ByteArray := if p.size ≤ s.size ∧ (s.extract (s.size - p.size) s.size).toList = p.toList then s.extract 0 (s.size - p.size) else s
theorem has_some (s p : ByteArray) (hs : s.size ≤ 140737488351232) (hp : p.size ≤ 140737488351232) : stringslite_HasSuffix.f s p = some (decide (p.size ≤ s.size ∧ (s.extract (s.size - p.size) s.size).toList = p.toList)) := by
  unfold stringslite_HasSuffix.f
  by_cases h : (s.size : Int) ≥ (p.size : Int)
  · rw [if_pos h, w64 (by omega) (by omega), if_pos (by omega), if_pos (by omega), show ((s.size : Int) - (p.size : Int)).toNat = s.size - p.size by omega]
    congr 1
    by_cases e : (s.extract (s.size - p.size) s.size).toList = p.toList
    · simp [e]; omega
    · simp [e]
  · rw [if_neg h]; congr 1; symm; simp; omega
theorem ends_some (p s : ByteArray) (hs : s.size ≤ 140737488351232) (hp : p.size ≤ 140737488351232) : spec_Ends.f p s = some (decide (p.size ≤ s.size ∧ (s.extract (s.size - p.size) s.size).toList = p.toList)) := has_some s p hs hp
theorem trim_some (p s : ByteArray) (hs : s.size ≤ 140737488351232) (hp : p.size ≤ 140737488351232) : impl_TrimSuffix.f p s = some (cutEnd p s) := by
  unfold impl_TrimSuffix.f sprig_TrimSuffix.f sprig_trimSuffix.f strings_TrimSuffix.f stringslite_TrimSuffix.f cutEnd
  rw [has_some s p hs hp]
  by_cases h : p.size ≤ s.size ∧ (s.extract (s.size - p.size) s.size).toList = p.toList
  · simp only [Option.bind_some, decide_eq_true h, if_true]
    rw [w64 (by omega) (by omega), if_pos (by omega), if_pos (by omega), if_pos h, show ((s.size : Int) - (p.size : Int)).toNat = s.size - p.size by omega]; rfl
  · simp only [Option.bind_some, decide_eq_false h]; rw [if_neg h]; rfl
theorem spec_some (p s : ByteArray) (hs : s.size ≤ 140737488351232) (hp : p.size ≤ 140737488351232) : spec_TrimSuffix.f p s = some (cutEnd p s) := by
  unfold spec_TrimSuffix.f cutEnd
  rw [ends_some p s hs hp]
  by_cases h : p.size ≤ s.size ∧ (s.extract (s.size - p.size) s.size).toList = p.toList
  · simp only [Option.bind_some, decide_eq_true h, if_true]
    rw [w64 (by omega) (by omega), if_pos (by omega), if_pos (by omega), if_pos h, show ((s.size : Int) - (p.size : Int)).toNat = s.size - p.size by omega]
  · simp only [Option.bind_some, decide_eq_false h]; rw [if_neg h]; rfl
theorem cut_append (p s : ByteArray) : (cutEnd p (s ++ p)).toList = s.toList := by
  have hl := len_eq s; have hl' := len_eq p; have hz := size_append s p
  unfold cutEnd
  rw [if_pos]
  · rw [extract_upto, tl_append, hz, List.take_append_of_le_length (by omega), List.take_of_length_le (by omega)]
  · refine ⟨by omega, ?_⟩
    rw [extract_self, tl_append, hz, List.drop_append_of_le_length (by omega), List.drop_eq_nil_of_le (by omega), List.nil_append]

theorem FnTrimSuffix : laws_FnTrimSuffix.Pure := by
  intro p s hp hs
  apply Ev.rounds
  have big : Ev (fun k => laws_FnTrimSuffix.j0 k p s true) true := Ev.step (f := fun _ => some true) (fun k => by simp only [laws_FnTrimSuffix.j0, if_true]) (Ev.now _)
  unfold laws_FnTrimSuffix.f
  by_cases h1 : (p.size : Int) > 2147483647
  · exact Ev.pos h1 big
  refine Ev.neg h1 ?_
  by_cases h2 : (s.size : Int) > 2147483647
  · rw [decide_eq_true h2]; exact big
  rw [decide_eq_false h2]
  refine Ev.step (fun k => by simp only [laws_FnTrimSuffix.j0]; rw [if_neg (by decide)]) ?_
  refine Ev.andThen (text_ev [p, s] (by simp)) ?_
  cases textL [p, s] with
  | false => exact Ev.neg (by decide) (Ev.now _)
  | true =>
    have hz := size_append s p
    refine Ev.pos rfl (Ev.const ?_)
    rw [trim_some p s (by omega) (by omega), spec_some p s (by omega) (by omega)]
    simp only [Option.bind_some, if_true]
    rw [if_pos (by omega), trim_some p (s ++ p) (by omega) (by omega)]
    simp only [Option.bind_some]
    rw [if_pos (cut_append p s), trim_some _ _ (by decide) (by decide)]
    simp only [Option.bind_some]
    decide +kernel

end Go.Proofs.Ytjpocldnibmopaa.Pure
