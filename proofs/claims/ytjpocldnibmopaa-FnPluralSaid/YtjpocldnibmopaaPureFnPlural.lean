/- FnPlural, as a plain statement: one form for 1, the other one for all else. For all texts of at most 2^47 - 4096 bytes and all integers of 64 bits. -/
import Derived.Test.YtjpocldnibmopaaPFnPluralx1
import Derived.Test.YtjpocldnibmopaaTxt
namespace Go.Proofs.Ytjpocldnibmopaa.Pure
open Go.RowKit Go.Proofs.Ytjpocldnibmopaa.PFnPlural Go.Proofs.YtjpocldnibmopaaW.PrintWords Go.Proofs.YtjpocldnibmopaaW.PrintLast Go.Proofs.Ytjpocldnibmopaa.Txt Go.Proofs.Ytjpocldnibmopaa

/-! ### texts of UTF-8 -/
/-- Are all of these looked at? -/
def textL (l : List ByteArray) : Bool := l.all fun s => s.size ≤ 500 && Giv.utf8 s
theorem textL_cons (s : ByteArray) (l : List ByteArray) : textL (s :: l) = ((decide (s.size ≤ 500) && Giv.utf8 s) && textL l) := rfl
theorem text_ev (l : List ByteArray) (hl : l.length ≤ 1000) : Ev (fun k => laws_text9.f k l) (textL l) := by
  have key : ∀ (d i : Nat), l.length - i = d → i ≤ l.length → Ev (fun k => laws_text9.l0 k l (l.length : Int) (i : Int)) (textL (l.drop i)) := by
    intro d
    induction d with
    | zero =>
      intro i hd hi
      rw [List.drop_eq_nil_of_le (by omega)]
      refine Ev.step (f := fun _ => some true) (fun k => ?_) (Ev.now _)
      simp only [laws_text9.l0]; rw [if_neg (by omega)]
    | succ d ih =>
      intro i hd hi
      have hlt : i < l.length := by omega
      have e : l.drop i = l[i] :: l.drop (i + 1) := List.drop_eq_getElem_cons hlt
      have hr : rdOf ByteArray.empty l (i : Int) = l[i] := by simp [rdOf, List.getElem?_eq_getElem hlt]
      by_cases h5 : l[i].size ≤ 500
      · have ha : Giv.spec_UTF8.f l[i] = some (Giv.utf8 l[i]) := by unfold Giv.spec_UTF8.f; rw [if_pos (by omega)]
        refine Ev.step (f := fun k => (Giv.spec_UTF8.f l[i]).bind fun t => if t = true then laws_text9.l0 k l (l.length : Int) ((i + 1 : Nat) : Int) else some false) (fun k => ?_) ?_
        · simp only [laws_text9.l0]; rw [if_pos (by omega), if_pos (by omega), if_pos (by omega), hr, if_neg (by omega), w64 (by omega) (by omega)]; rfl
        · refine Ev.thenC ha ?_
          cases hx : Giv.utf8 l[i] with
          | true =>
            have e2 : textL (l.drop i) = textL (l.drop (i + 1)) := by rw [e, textL_cons, hx, decide_eq_true h5]; rfl
            rw [e2]; exact Ev.pos rfl (ih (i + 1) (by omega) (by omega))
          | false =>
            have e2 : textL (l.drop i) = false := by rw [e, textL_cons, hx, Bool.and_false, Bool.false_and]
            rw [e2]; exact Ev.neg (by decide) (Ev.now _)
      · have e2 : textL (l.drop i) = false := by rw [e, textL_cons, decide_eq_false h5]; rfl
        rw [e2]
        refine Ev.step (f := fun _ => some false) (fun k => ?_) (Ev.now _)
        simp only [laws_text9.l0]; rw [if_pos (by omega), if_pos (by omega), if_pos (by omega), hr, if_pos (by omega)]
  have := key _ 0 rfl (Nat.zero_le _)
  simpa [laws_text9.f] using this
theorem plural_ev (a b : ByteArray) (n : Int) : impl_Plural.f a b n = some (if n = 1 then a else b) := by
  unfold impl_Plural.f sprig_Plural.f sprig_plural.f
  by_cases h : n = 1 <;> simp [h]
theorem FnPlural : laws_FnPlural.Pure := by
  intro a b n ha hb hn
  apply Ev.rounds
  have big : Ev (fun k => laws_FnPlural.j0 k a b n true) true := Ev.step (f := fun _ => some true) (fun k => by simp only [laws_FnPlural.j0, if_true]) (Ev.now _)
  unfold laws_FnPlural.f
  by_cases h1 : (a.size : Int) > 2147483647
  · exact Ev.pos h1 big
  refine Ev.neg h1 ?_
  by_cases h2 : (b.size : Int) > 2147483647
  · rw [decide_eq_true h2]; exact big
  rw [decide_eq_false h2]
  refine Ev.step (fun k => by simp only [laws_FnPlural.j0]; rw [if_neg (by decide)]) ?_
  refine Ev.andThen (text_ev [a, b] (by simp)) ?_
  cases textL [a, b] with
  | false => exact Ev.neg (by decide) (Ev.now _)
  | true =>
    refine Ev.pos rfl (Ev.const ?_)
    simp only [plural_ev, Option.bind_some]
    by_cases h : n = 1
    · simp [h]
    · simp [h]

end Go.Proofs.Ytjpocldnibmopaa.Pure
