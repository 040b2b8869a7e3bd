/- FnAbbrevBoth, as a plain statement: a longer text is cut at both ends, with three points there. For all texts of at most 2^47 - 4096 bytes and all integers of 64 bits. -/
import Derived.Test.YtjpocldnibmopaaPFnAbbrevBothx1
import Derived.Test.YtjpocldnibmopaaTxt
namespace Go.Proofs.Ytjpocldnibmopaa.Pure
open Go.RowKit Go.Proofs.Ytjpocldnibmopaa.PFnAbbrevBoth Go.Proofs.YtjpocldnibmopaaW.PrintWords Go.Proofs.YtjpocldnibmopaaW.PrintLast Go.Proofs.Ytjpocldnibmopaa.Txt Go.Proofs.Ytjpocldnibmopaa

/-! ### texts of ASCII -/
def asciiL (s : List UInt8) : Bool := s.all (· < 128)
theorem asciiL_cons (c : UInt8) (s : List UInt8) : asciiL (c :: s) = (decide (c < 128) && asciiL s) := rfl
theorem ascii_ev (s : ByteArray) (hs : s.size ≤ 140737488351232) : Ev (fun k => spec_ASCII.f k s) (asciiL s.toList) := by
  have hl := len_eq s
  have key : ∀ (d i : Nat), s.toList.length - i = d → i ≤ s.toList.length → Ev (fun k => spec_ASCII.l0 k s (i : Int)) (asciiL (s.toList.drop i)) := by
    intro d
    induction d with
    | zero =>
      intro i hd hi
      rw [List.drop_eq_nil_of_le (by omega)]
      refine Ev.step (f := fun _ => some true) (fun k => ?_) (Ev.now _)
      simp only [spec_ASCII.l0]; rw [if_neg (by omega)]
    | succ d ih =>
      intro i hd hi
      have hlt : i < s.toList.length := by omega
      have e : s.toList.drop i = s.toList[i] :: s.toList.drop (i + 1) := List.drop_eq_getElem_cons hlt
      have hb := bt_get s (i : Int) (by simpa using hlt)
      simp only [Int.toNat_natCast] at hb
      by_cases hc : s.toList[i] < 128
      · have hc' : ¬ (bt s (i : Int) ≥ 128) := by rw [hb]; have := UInt8.lt_iff_toNat_lt.1 hc; simp at this; omega
        have e2 : asciiL (s.toList.drop i) = asciiL (s.toList.drop (i + 1)) := by rw [e, asciiL_cons, decide_eq_true hc, Bool.true_and]
        rw [e2]
        refine Ev.step (f := fun k => spec_ASCII.l0 k s ((i + 1 : Nat) : Int)) (fun k => ?_) (ih (i + 1) (by omega) (by omega))
        simp only [spec_ASCII.l0]; rw [if_pos (by omega), if_pos (by omega), if_neg hc', w64 (by omega) (by omega)]; rfl
      · have hc' : bt s (i : Int) ≥ 128 := by rw [hb]; have := fun h => hc (UInt8.lt_iff_toNat_lt.2 h); simp at this; omega
        have e2 : asciiL (s.toList.drop i) = false := by rw [e, asciiL_cons, decide_eq_false hc, Bool.false_and]
        rw [e2]
        refine Ev.step (f := fun _ => some false) (fun k => ?_) (Ev.now _)
        simp only [spec_ASCII.l0]; rw [if_pos (by omega), if_pos (by omega), if_pos hc']
  have := key _ 0 rfl (Nat.zero_le _)
  simpa [spec_ASCII.f] using this
/-- Are all of these looked at? -/
def plainL (l : List ByteArray) : Bool := l.all fun s => s.size ≤ 500 && asciiL s.toList
theorem plainL_cons (s : ByteArray) (l : List ByteArray) : plainL (s :: l) = ((decide (s.size ≤ 500) && asciiL s.toList) && plainL l) := rfl
theorem plain_ev (l : List ByteArray) (hl : l.length ≤ 1000) : Ev (fun k => laws_plain9.f k l) (plainL l) := by
  have key : ∀ (d i : Nat), l.length - i = d → i ≤ l.length → Ev (fun k => laws_plain9.l0 k l (l.length : Int) (i : Int)) (plainL (l.drop i)) := by
    intro d
    induction d with
    | zero =>
      intro i hd hi
      rw [List.drop_eq_nil_of_le (by omega)]
      refine Ev.step (f := fun _ => some true) (fun k => ?_) (Ev.now _)
      simp only [laws_plain9.l0]; rw [if_neg (by omega)]
    | succ d ih =>
      intro i hd hi
      have hlt : i < l.length := by omega
      have e : l.drop i = l[i] :: l.drop (i + 1) := List.drop_eq_getElem_cons hlt
      have hr : rdOf ByteArray.empty l (i : Int) = l[i] := by simp [rdOf, List.getElem?_eq_getElem hlt]
      by_cases h5 : l[i].size ≤ 500
      · have ha := ascii_ev l[i] (by omega)
        refine Ev.step (f := fun k => (spec_ASCII.f k l[i]).bind fun t => if t = true then laws_plain9.l0 k l (l.length : Int) ((i + 1 : Nat) : Int) else some false) (fun k => ?_) ?_
        · simp only [laws_plain9.l0]; rw [if_pos (by omega), if_pos (by omega), if_pos (by omega), hr, if_neg (by omega), w64 (by omega) (by omega)]; rfl
        · refine Ev.andThen ha ?_
          cases hx : asciiL l[i].toList with
          | true =>
            have e2 : plainL (l.drop i) = plainL (l.drop (i + 1)) := by rw [e, plainL_cons, hx, decide_eq_true h5]; rfl
            rw [e2]; exact Ev.pos rfl (ih (i + 1) (by omega) (by omega))
          | false =>
            have e2 : plainL (l.drop i) = false := by rw [e, plainL_cons, hx, Bool.and_false, Bool.false_and]
            rw [e2]; exact Ev.neg (by decide) (Ev.now _)
      · have e2 : plainL (l.drop i) = false := by rw [e, plainL_cons, decide_eq_false h5]; rfl
        rw [e2]
        refine Ev.step (f := fun _ => some false) (fun k => ?_) (Ev.now _)
        simp only [laws_plain9.l0]; rw [if_pos (by omega), if_pos (by omega), if_pos (by omega), hr, if_pos (by omega)]
  have := key _ 0 rfl (Nat.zero_le _)
  simpa [laws_plain9.f] using this
theorem impl_some (off w : Int) (s : ByteArray) (hs : s.size ≤ 1000) (h0 : -1000000 ≤ off) (h1 : off ≤ 1000000) (h2 : -1000000 ≤ w) (h3 : w ≤ 1000000) : impl_AbbrevBoth.f off w s = some (Giv.abbB off w s) := by
  unfold impl_AbbrevBoth.f sprig_AbbrevBoth.f Giv.sprig_abbrevboth.f
  rw [if_pos ⟨h0, h1, h2, h3, hs⟩]; rfl
theorem far_some (n : Int) : laws_far9.f n = some (decide (n < -1000000 ∨ 1000000 < n)) := by
  unfold laws_far9.f
  by_cases h : n < -1000000
  · rw [if_pos h]; congr 1; symm; exact decide_eq_true (.inl h)
  · rw [if_neg h]; congr 1; by_cases h' : n > 1000000 <;> simp [h, h'] <;> omega

theorem FnAbbrevBoth : laws_FnAbbrevBoth.Pure := by
  intro off w s _ _ hs
  apply Ev.rounds
  have big : Ev (fun k => laws_FnAbbrevBoth.j0 k off w s true) true := Ev.step (f := fun _ => some true) (fun k => by simp only [laws_FnAbbrevBoth.j0, if_true]) (Ev.now _)
  unfold laws_FnAbbrevBoth.f
  by_cases h1 : (s.size : Int) > 2147483647
  · exact Ev.pos h1 (Ev.now _)
  refine Ev.neg h1 (Ev.andThen (plain_ev [s] (by simp)) ?_)
  cases hpl : plainL [s] with
  | false => exact Ev.neg (by decide) big
  | true =>
    simp only [plainL, List.all_cons, List.all_nil, Bool.and_true, Bool.and_eq_true, decide_eq_true_eq] at hpl
    refine Ev.pos rfl (Ev.thenC (far_some off) ?_)
    by_cases c1 : off < -1000000 ∨ 1000000 < off
    · rw [decide_eq_true c1]; exact Ev.pos rfl big
    rw [decide_eq_false c1]
    refine Ev.neg (by decide) (Ev.thenC (far_some w) ?_)
    by_cases c2 : w < -1000000 ∨ 1000000 < w
    · rw [decide_eq_true c2]; exact big
    rw [decide_eq_false c2]
    have hi := impl_some off w s (by omega) (by omega) (by omega) (by omega) (by omega)
    have hc : impl_AbbrevBoth.f 0 4 (⟨#[97, 98, 99, 100, 101]⟩ : ByteArray) = some _ := impl_some 0 4 _ (by decide) (by decide) (by decide) (by decide) (by decide)
    have hsp : Giv.spec_Abbreviated.f s off w = some (Giv.spec3 s off w) := by unfold Giv.spec_Abbreviated.f; rw [if_pos ⟨by omega, by omega, by omega, by omega, by omega⟩]
    have hl : ((Giv.abbB 0 4 (⟨#[97, 98, 99, 100, 101]⟩ : ByteArray)).toList == ([97, 46, 46, 46] : List UInt8)) = true := by decide +kernel
    have yes : (Giv.abbB off w s).toList = s.toList → ∀ r, Ev (fun k => laws_FnAbbrevBoth.j1 k off w s r true) true := fun e r =>
      Ev.step (f := fun _ => some true) (fun k => by simp only [laws_FnAbbrevBoth.j1, if_true]; rw [hi]; simp only [Option.bind_some]; rw [if_pos e, hc]; simp only [Option.bind_some]; rw [hl]) (Ev.now _)
    refine Ev.step (fun k => by simp only [laws_FnAbbrevBoth.j0]; rw [if_neg (by decide)]) (Ev.thenC hsp ?_)
    unfold Giv.spec3
    by_cases e0 : s.size = 0
    · rw [if_pos e0]
      have ht : s.toList = [] := List.length_eq_zero_iff.1 (by rw [← len_eq]; exact e0)
      refine Ev.pos rfl (Ev.step (f := fun _ => some true) (fun k => ?_) (Ev.now _))
      simp only [laws_FnAbbrevBoth.j1]
      rw [if_neg (by decide), hi]; simp only [Option.bind_some]
      rw [if_pos, hc]; simp only [Option.bind_some]; rw [hl]
      unfold Giv.abbB; rw [if_pos (by omega), ht, tl_nil]
    · rw [if_neg e0]
      by_cases h4 : w < 4
      · rw [if_pos h4]
        exact Ev.neg (by decide) (yes (by unfold Giv.abbB; rw [if_pos (.inl h4)]) _)
      · rw [if_neg h4]
        by_cases h7 : 0 < off ∧ w < 7
        · rw [if_pos h7]
          exact Ev.neg (by decide) (yes (by unfold Giv.abbB; rw [if_pos (.inr (.inl h7))]) _)
        · rw [if_neg h7]
          refine Ev.pos rfl (Ev.step (f := fun _ => some true) (fun k => ?_) (Ev.now _))
          simp only [laws_FnAbbrevBoth.j1]
          rw [if_neg (by decide), hi]; simp only [Option.bind_some]
          rw [if_pos trivial, hc]; simp only [Option.bind_some]; rw [hl]

end Go.Proofs.Ytjpocldnibmopaa.Pure
