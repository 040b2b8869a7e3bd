/- FnScrub, as a plain statement: another text for each run of bytes that are no UTF-8. -/
import Derived.Test.YtpkdoinofenahaaDoorPFnScrubx1
import Derived.Test.YtpkdoinofenahaaDoorTxt
namespace Go.Proofs.YtpkdoinofenahaaDoor.Pure
open Go.RowKit Go.Proofs.YtpkdoinofenahaaDoor.PFnScrub Go.Proofs.YtpkdoinofenahaaDoorW.PrintWords Go.Proofs.YtpkdoinofenahaaDoorW.PrintLast Go.Proofs.YtpkdoinofenahaaDoor.Txt

/-! ### texts of UTF-8 -/
/-- Are all of these looked at? -/
def textL (l : List ByteArray) : Bool := l.all fun s => s.size ≤ 500 && Giv.utf8 s
theorem textL_cons (s : ByteArray) (l : List ByteArray) : textL (s :: l) = ((decide (s.size ≤ 500) && Giv.utf8 s) && textL l) := rfl
theorem text_ev (l : List ByteArray) (hl : l.length ≤ 1000) : Ev (fun k => laws_text9.f k l) (textL l) := by
  have key : ∀ (d i : Nat), l.length - i = d → i ≤ l.length → Ev (fun k => laws_text9.l0 k l (l.length : Int) (i : Int)) (textL (l.drop i)) := by
    intro d
    induction d with
    | zero =>
      intro i hd hi
      rw [List.drop_eq_nil_of_le (by omega)]
      refine Ev.step (f := fun _ => some true) (fun k => ?_) (Ev.now _)
      simp only [laws_text9.l0]; rw [if_neg (by omega)]
    | succ d ih =>
      intro i hd hi
      have hlt : i < l.length := by omega
      have e : l.drop i = l[i] :: l.drop (i + 1) := List.drop_eq_getElem_cons hlt
      have hr : rdOf ByteArray.empty l (i : Int) = l[i] := by simp [rdOf, List.getElem?_eq_getElem hlt]
      by_cases h5 : l[i].size ≤ 500
      · have ha : Giv.spec_UTF8.f l[i] = some (Giv.utf8 l[i]) := by unfold Giv.spec_UTF8.f; rw [if_pos (by omega)]
        refine Ev.step (f := fun k => (Giv.spec_UTF8.f l[i]).bind fun t => if t = true then laws_text9.l0 k l (l.length : Int) ((i + 1 : Nat) : Int) else some false) (fun k => ?_) ?_
        · simp only [laws_text9.l0]; rw [if_pos (by omega), if_pos (by omega), if_pos (by omega), hr, if_neg (by omega), w64 (by omega) (by omega)]; rfl
        · refine Ev.thenC ha ?_
          cases hx : Giv.utf8 l[i] with
          | true =>
            have e2 : textL (l.drop i) = textL (l.drop (i + 1)) := by rw [e, textL_cons, hx, decide_eq_true h5]; rfl
            rw [e2]; exact Ev.pos rfl (ih (i + 1) (by omega) (by omega))
          | false =>
            have e2 : textL (l.drop i) = false := by rw [e, textL_cons, hx, Bool.and_false, Bool.false_and]
            rw [e2]; exact Ev.neg (by decide) (Ev.now _)
      · have e2 : textL (l.drop i) = false := by rw [e, textL_cons, decide_eq_false h5]; rfl
        rw [e2]
        refine Ev.step (f := fun _ => some false) (fun k => ?_) (Ev.now _)
        simp only [laws_text9.l0]; rw [if_pos (by omega), if_pos (by omega), if_pos (by omega), hr, if_pos (by omega)]
  have := key _ 0 rfl (Nat.zero_le _)
  simpa [laws_text9.f] using this
theorem scrub_ab : ((Giv.scrubS (⟨#[97, 255, 98]⟩ : ByteArray) (⟨#[63]⟩ : ByteArray)).toList == ([97, 63, 98] : List UInt8)) = true := by
  unfold Giv.scrubS
  rw [tl_mk]
  decide +kernel

theorem FnScrub : laws_FnScrub.Pure := by
  intro s o hs ho
  apply Ev.rounds
  unfold laws_FnScrub.f
  have key : ∀ b : Bool, Ev (fun k => laws_FnScrub.j0 k s o b) true := by
    intro b
    cases b with
    | true => exact Ev.step (f := fun _ => some true) (fun k => by simp only [laws_FnScrub.j0]; rfl) (Ev.now _)
    | false =>
      refine Ev.step (f := fun k => (if (s.size : Int) > 500 then (some true) else ((laws_text9.f k (([o] : List ByteArray))).bind fun t108 => (if t108 = true then ((impl_ScrubOf.f s o).bind fun t109 => ((Giv.spec_Scrubbed.f s o).bind fun t110 => (if t109.toList = t110.toList then ((impl_ScrubOf.f (⟨#[97, 255, 98]⟩ : ByteArray) (⟨#[63]⟩ : ByteArray)).bind fun t111 => (some (t111.toList == ([97, 63, 98] : List UInt8)))) else (some false)))) else (some true))))) (fun k => by simp only [laws_FnScrub.j0]; rfl) ?_
      by_cases h1 : (s.size : Int) > 500
      · exact Ev.pos h1 (Ev.now _)
      refine Ev.neg h1 (Ev.andThen (text_ev [o] (by simp)) ?_)
      cases htx : textL [o] with
      | false => exact Ev.neg (by decide) (Ev.now _)
      | true =>
        refine Ev.pos rfl ?_
        simp only [textL, List.all_cons, List.all_nil, Bool.and_true, Bool.and_eq_true, decide_eq_true_eq] at htx
        have z := htx.1
        have f1 : Giv.xstrings_Scrub.f s o = some (Giv.scrubS s o) := by unfold Giv.xstrings_Scrub.f; rw [if_pos (by omega)]
        have f2 : Giv.spec_Scrubbed.f s o = some (Giv.scrubS s o) := by unfold Giv.spec_Scrubbed.f; rw [if_pos (by omega)]
        have f3 : impl_ScrubOf.f s o = some (Giv.scrubS s o) := by unfold impl_ScrubOf.f; rw [f1]; rfl
        have f4 : impl_ScrubOf.f (⟨#[97, 255, 98]⟩ : ByteArray) (⟨#[63]⟩ : ByteArray) = some (Giv.scrubS (⟨#[97, 255, 98]⟩ : ByteArray) (⟨#[63]⟩ : ByteArray)) := by
          unfold impl_ScrubOf.f Giv.xstrings_Scrub.f; rw [if_pos (by constructor <;> (show _ ≤ 1000; decide))]; rfl
        refine Ev.thenC f3 (Ev.thenC f2 (Ev.pos rfl (Ev.thenC f4 (Ev.const ?_))))
        rw [scrub_ab]
  by_cases h1 : (s.size : Int) > 2147483647
  · exact Ev.pos h1 (key _)
  · exact Ev.neg h1 (key _)

end Go.Proofs.YtpkdoinofenahaaDoor.Pure
