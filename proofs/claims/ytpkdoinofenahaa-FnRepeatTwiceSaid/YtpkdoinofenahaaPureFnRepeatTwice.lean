/- FnRepeatTwice, as a plain statement: so many times, and further times, are all times together. -/
import Derived.Test.YtpkdoinofenahaaPFnRepeatTwicex1
import Derived.Test.YtpkdoinofenahaaTxt
namespace Go.Proofs.Ytpkdoinofenahaa.Pure
open Go.RowKit Go.Proofs.Ytpkdoinofenahaa.PFnRepeatTwice Go.Proofs.YtpkdoinofenahaaW.PrintWords Go.Proofs.YtpkdoinofenahaaW.PrintLast Go.Proofs.Ytpkdoinofenahaa.Txt Go.Proofs.Ytpkdoinofenahaa

/-! ### texts of UTF-8 -/
/-- Are all of these looked at? -/
def textL (l : List ByteArray) : Bool := l.all fun s => s.size ≤ 500 && Giv.utf8 s
theorem textL_cons (s : ByteArray) (l : List ByteArray) : textL (s :: l) = ((decide (s.size ≤ 500) && Giv.utf8 s) && textL l) := rfl
theorem text_ev (l : List ByteArray) (hl : l.length ≤ 1000) : Ev (fun k => laws_text9.f k l) (textL l) := by
  have key : ∀ (d i : Nat), l.length - i = d → i ≤ l.length → Ev (fun k => laws_text9.l0 k l (l.length : Int) (i : Int)) (textL (l.drop i)) := by
    intro d
    induction d with
    | zero =>
      intro i hd hi
      rw [List.drop_eq_nil_of_le (by omega)]
      refine Ev.step (f := fun _ => some true) (fun k => ?_) (Ev.now _)
      simp only [laws_text9.l0]; rw [if_neg (by omega)]
    | succ d ih =>
      intro i hd hi
      have hlt : i < l.length := by omega
      have e : l.drop i = l[i] :: l.drop (i + 1) := List.drop_eq_getElem_cons hlt
      have hr : rdOf ByteArray.empty l (i : Int) = l[i] := by simp [rdOf, List.getElem?_eq_getElem hlt]
      by_cases h5 : l[i].size ≤ 500
      · have ha : Giv.spec_UTF8.f l[i] = some (Giv.utf8 l[i]) := by unfold Giv.spec_UTF8.f; rw [if_pos (by omega)]
        refine Ev.step (f := fun k => (Giv.spec_UTF8.f l[i]).bind fun t => if t = true then laws_text9.l0 k l (l.length : Int) ((i + 1 : Nat) : Int) else some false) (fun k => ?_) ?_
        · simp only [laws_text9.l0]; rw [if_pos (by omega), if_pos (by omega), if_pos (by omega), hr, if_neg (by omega), w64 (by omega) (by omega)]; rfl
        · refine Ev.thenC ha ?_
          cases hx : Giv.utf8 l[i] with
          | true =>
            have e2 : textL (l.drop i) = textL (l.drop (i + 1)) := by rw [e, textL_cons, hx, decide_eq_true h5]; rfl
            rw [e2]; exact Ev.pos rfl (ih (i + 1) (by omega) (by omega))
          | false =>
            have e2 : textL (l.drop i) = false := by rw [e, textL_cons, hx, Bool.and_false, Bool.false_and]
            rw [e2]; exact Ev.neg (by decide) (Ev.now _)
      · have e2 : textL (l.drop i) = false := by rw [e, textL_cons, decide_eq_false h5]; rfl
        rw [e2]
        refine Ev.step (f := fun _ => some false) (fun k => ?_) (Ev.now _)
        simp only [laws_text9.l0]; rw [if_pos (by omega), if_pos (by omega), if_pos (by omega), hr, if_pos (by omega)]
  have := key _ 0 rfl (Nat.zero_le _)
  simpa [laws_text9.f] using this
theorem rep_f (c : Nat) (s : ByteArray) (hc : c ≤ 1000) (hs : s.size ≤ 1000) : Giv.impl_Repeat.f (c : Int) s = some (Giv.repeatS c s, true) := by
  unfold Giv.impl_Repeat.f; rw [if_pos ⟨by omega, by omega, hs⟩, Int.toNat_natCast]
theorem rep_size (c : Nat) (s : ByteArray) : (Giv.repeatS c s).size = c * s.size := by
  show (Giv.repeatS c s).data.size = _
  show (Lib.repeatL s.data.toList c).toArray.size = _
  rw [List.size_toArray, Lib.repeatL_length, Array.length_toList]; rfl
theorem FnRepeatTwice : laws_FnRepeatTwice.Pure := by
  intro n m s hn hm hs
  apply Ev.rounds
  have big : Ev (fun k => laws_FnRepeatTwice.j0 k n m s true) true := Ev.step (f := fun _ => some true) (fun k => by simp only [laws_FnRepeatTwice.j0, if_true]) (Ev.now _)
  unfold laws_FnRepeatTwice.f
  by_cases h1 : (s.size : Int) > 2147483647
  · exact Ev.pos h1 (Ev.now _)
  refine Ev.neg h1 ?_
  by_cases h2 : n < 0
  · exact Ev.pos h2 big
  refine Ev.neg h2 ?_
  by_cases h3 : m < 0
  · exact Ev.pos h3 big
  refine Ev.neg h3 ?_
  by_cases h4 : n > 25
  · exact Ev.pos h4 big
  refine Ev.neg h4 ?_
  by_cases h5 : m > 25
  · exact Ev.pos h5 big
  refine Ev.neg h5 ?_
  refine Ev.andThen (text_ev [s] (by simp)) ?_
  cases htx : textL [s] with
  | false => exact Ev.neg (by decide) big
  | true =>
    refine Ev.pos rfl ?_
    simp only [textL, List.all_cons, List.all_nil, Bool.and_true, Bool.and_eq_true, decide_eq_true_eq] at htx
    have z := htx.1
    obtain ⟨a, rfl⟩ : ∃ a : Nat, n = (a : Int) := ⟨n.toNat, by omega⟩
    obtain ⟨b, rfl⟩ : ∃ b : Nat, m = (b : Int) := ⟨m.toNat, by omega⟩
    cases hb : decide (wrap64 (wrap64 ((a : Int) + (b : Int)) * (s.size : Int)) > 5000) with
    | true => exact big
    | false =>
      clear hb hn hm
      refine Ev.step (fun k => by simp only [laws_FnRepeatTwice.j0]; rw [if_neg (by decide)]) ?_
      rw [wadd _ _ (by omega)]
      refine Ev.thenC (rep_f a s (by omega) (by omega)) (Ev.thenC (rep_f b s (by omega) (by omega)) (Ev.thenC (rep_f (a + b) s (by omega) (by omega)) (Ev.pos rfl (Ev.pos rfl (Ev.pos rfl (Ev.pos ?_ (Ev.const ?_)))))))
      · have ha : a * s.size ≤ 25 * 500 := Nat.mul_le_mul (by omega) z
        have hb : b * s.size ≤ 25 * 500 := Nat.mul_le_mul (by omega) z
        simp only [rep_size]
        omega
      · simp only [tl_append]
        unfold Giv.repeatS
        simp only [tl_mk, Lib.repeatL_add, beq_self_eq_true]

end Go.Proofs.Ytpkdoinofenahaa.Pure
