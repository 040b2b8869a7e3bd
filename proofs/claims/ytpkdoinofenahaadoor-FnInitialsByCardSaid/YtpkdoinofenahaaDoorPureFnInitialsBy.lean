/- FnInitialsBy, as a plain statement: the first letters of all words, by signs between words. -/
import Derived.Test.YtpkdoinofenahaaDoorPFnInitialsByx1
import Derived.Test.YtpkdoinofenahaaDoorTxt
namespace Go.Proofs.YtpkdoinofenahaaDoor.Pure
open Go.RowKit Go.Proofs.YtpkdoinofenahaaDoor.PFnInitialsBy Go.Proofs.YtpkdoinofenahaaDoorW.PrintWords Go.Proofs.YtpkdoinofenahaaDoorW.PrintLast Go.Proofs.YtpkdoinofenahaaDoor.Txt Go.Proofs.YtpkdoinofenahaaDoor

/-! ### texts of ASCII -/
def asciiL (s : List UInt8) : Bool := s.all (· < 128)
theorem asciiL_cons (c : UInt8) (s : List UInt8) : asciiL (c :: s) = (decide (c < 128) && asciiL s) := rfl
theorem ascii_ev (s : ByteArray) (hs : s.size ≤ 140737488351232) : Ev (fun k => spec_ASCII.f k s) (asciiL s.toList) := by
  have hl := len_eq s
  have key : ∀ (d i : Nat), s.toList.length - i = d → i ≤ s.toList.length → Ev (fun k => spec_ASCII.l0 k s (i : Int)) (asciiL (s.toList.drop i)) := by
    intro d
    induction d with
    | zero =>
      intro i hd hi
      rw [List.drop_eq_nil_of_le (by omega)]
      refine Ev.step (f := fun _ => some true) (fun k => ?_) (Ev.now _)
      simp only [spec_ASCII.l0]; rw [if_neg (by omega)]
    | succ d ih =>
      intro i hd hi
      have hlt : i < s.toList.length := by omega
      have e : s.toList.drop i = s.toList[i] :: s.toList.drop (i + 1) := List.drop_eq_getElem_cons hlt
      have hb := bt_get s (i : Int) (by simpa using hlt)
      simp only [Int.toNat_natCast] at hb
      by_cases hc : s.toList[i] < 128
      · have hc' : ¬ (bt s (i : Int) ≥ 128) := by rw [hb]; have := UInt8.lt_iff_toNat_lt.1 hc; simp at this; omega
        have e2 : asciiL (s.toList.drop i) = asciiL (s.toList.drop (i + 1)) := by rw [e, asciiL_cons, decide_eq_true hc, Bool.true_and]
        rw [e2]
        refine Ev.step (f := fun k => spec_ASCII.l0 k s ((i + 1 : Nat) : Int)) (fun k => ?_) (ih (i + 1) (by omega) (by omega))
        simp only [spec_ASCII.l0]; rw [if_pos (by omega), if_pos (by omega), if_neg hc', w64 (by omega) (by omega)]; rfl
      · have hc' : bt s (i : Int) ≥ 128 := by rw [hb]; have := fun h => hc (UInt8.lt_iff_toNat_lt.2 h); simp at this; omega
        have e2 : asciiL (s.toList.drop i) = false := by rw [e, asciiL_cons, decide_eq_false hc, Bool.false_and]
        rw [e2]
        refine Ev.step (f := fun _ => some false) (fun k => ?_) (Ev.now _)
        simp only [spec_ASCII.l0]; rw [if_pos (by omega), if_pos (by omega), if_pos hc']
  have := key _ 0 rfl (Nat.zero_le _)
  simpa [spec_ASCII.f] using this
/-- Are all of these looked at? -/
def plainL (l : List ByteArray) : Bool := l.all fun s => s.size ≤ 500 && asciiL s.toList
theorem plainL_cons (s : ByteArray) (l : List ByteArray) : plainL (s :: l) = ((decide (s.size ≤ 500) && asciiL s.toList) && plainL l) := rfl
theorem plain_ev (l : List ByteArray) (hl : l.length ≤ 1000) : Ev (fun k => laws_plain9.f k l) (plainL l) := by
  have key : ∀ (d i : Nat), l.length - i = d → i ≤ l.length → Ev (fun k => laws_plain9.l0 k l (l.length : Int) (i : Int)) (plainL (l.drop i)) := by
    intro d
    induction d with
    | zero =>
      intro i hd hi
      rw [List.drop_eq_nil_of_le (by omega)]
      refine Ev.step (f := fun _ => some true) (fun k => ?_) (Ev.now _)
      simp only [laws_plain9.l0]; rw [if_neg (by omega)]
    | succ d ih =>
      intro i hd hi
      have hlt : i < l.length := by omega
      have e : l.drop i = l[i] :: l.drop (i + 1) := List.drop_eq_getElem_cons hlt
      have hr : rdOf ByteArray.empty l (i : Int) = l[i] := by simp [rdOf, List.getElem?_eq_getElem hlt]
      by_cases h5 : l[i].size ≤ 500
      · have ha := ascii_ev l[i] (by omega)
        refine Ev.step (f := fun k => (spec_ASCII.f k l[i]).bind fun t => if t = true then laws_plain9.l0 k l (l.length : Int) ((i + 1 : Nat) : Int) else some false) (fun k => ?_) ?_
        · simp only [laws_plain9.l0]; rw [if_pos (by omega), if_pos (by omega), if_pos (by omega), hr, if_neg (by omega), w64 (by omega) (by omega)]; rfl
        · refine Ev.andThen ha ?_
          cases hx : asciiL l[i].toList with
          | true =>
            have e2 : plainL (l.drop i) = plainL (l.drop (i + 1)) := by rw [e, plainL_cons, hx, decide_eq_true h5]; rfl
            rw [e2]; exact Ev.pos rfl (ih (i + 1) (by omega) (by omega))
          | false =>
            have e2 : plainL (l.drop i) = false := by rw [e, plainL_cons, hx, Bool.and_false, Bool.false_and]
            rw [e2]; exact Ev.neg (by decide) (Ev.now _)
      · have e2 : plainL (l.drop i) = false := by rw [e, plainL_cons, decide_eq_false h5]; rfl
        rw [e2]
        refine Ev.step (f := fun _ => some false) (fun k => ?_) (Ev.now _)
        simp only [laws_plain9.l0]; rw [if_pos (by omega), if_pos (by omega), if_pos (by omega), hr, if_pos (by omega)]
  have := key _ 0 rfl (Nat.zero_le _)
  simpa [laws_plain9.f] using this
theorem asciiB_of (s : ByteArray) (h : asciiL s.toList = true) : Giv.asciiB s := by
  intro c hc
  have := List.all_eq_true.1 h c hc
  have h2 := UInt8.lt_iff_toNat_lt.1 (by simpa using this : c < 128)
  simpa using h2
theorem space_f (x : Nat) (h : x < 128) : spec_IsSpace.f (wrap32 (x : Int)) = some (Lib.isSpaceL (x : Int)) := by
  have : ∀ n : Fin 128, spec_IsSpace.f (wrap32 (n.val : Int)) = some (Lib.isSpaceL (n.val : Int)) := by decide +kernel
  exact this ⟨x, h⟩
theorem wrap32_small (x : Nat) (h : x < 128) : wrap32 (x : Int) = (x : Int) := by
  unfold wrap32; omega
theorem between_f (c : UInt8) (signs : ByteArray) (hc : c.toNat < 128) (hg : signs.size ≤ 1000) : spec_between.f (c.toNat : Int) signs = some (Giv.delimF signs c) := by
  unfold spec_between.f Giv.delimF
  have hl := len_eq signs
  by_cases h : signs.toList = []
  · rw [if_pos h, if_pos (by rw [hl, h]; rfl), space_f _ hc]; rfl
  · have h0 : ¬ signs.size = 0 := by
      intro e
      rw [hl] at e
      exact h (List.length_eq_zero_iff.1 e)
    rw [if_neg h, if_neg h0, wrap32_small _ hc]
    unfold Giv.spec_isIn.f
    rw [if_pos (by omega)]; rfl
theorem spec_ev (s signs : ByteArray) (hs : s.size ≤ 1000) (hg : signs.size ≤ 1000) (ha : Giv.asciiB s) : Ev (fun k => spec_InitialsBy.f k s signs) (Giv.initS s signs) := by
  have hl := len_eq s
  obtain ⟨D, hD⟩ : ∃ D, D = Giv.delimF signs := ⟨_, rfl⟩
  have hb : ∀ i (h : i < s.toList.length), spec_between.f (bt s (i : Int)) signs = some (D s.toList[i]) := by
    intro i h
    have hb := bt_get s (i : Int) (by simpa using h)
    simp only [Int.toNat_natCast] at hb
    rw [hb, hD]
    exact between_f _ signs (ha _ (List.getElem_mem h)) hg
  have key : ∀ (d i : Nat) (acc : ByteArray) (gap : Bool), s.toList.length - i = d → i ≤ s.toList.length → acc.size ≤ i → (i = 0 → gap = true) → (∀ (h0 : 0 < i) (h : i - 1 < s.toList.length), gap = D s.toList[i - 1]) →
      ∃ r : ByteArray, Ev (fun k => spec_InitialsBy.l0 k s signs acc (s.size : Int) (i : Int)) r ∧ r.toList = acc.toList ++ Giv.initL D gap (s.toList.drop i) := by
    intro d
    induction d with
    | zero =>
      intro i acc gap hd hi hz _ _
      refine ⟨acc, Ev.step (f := fun _ => some acc) (fun k => by simp only [spec_InitialsBy.l0]; rw [if_neg (by omega)]) (Ev.now _), ?_⟩
      rw [List.drop_eq_nil_of_le (by omega)]; simp [Giv.initL]
    | succ d ih =>
      intro i acc gap hd hi hz hg0 hg1
      have hlt : i < s.toList.length := by omega
      have e : s.toList.drop i = s.toList[i] :: s.toList.drop (i + 1) := List.drop_eq_getElem_cons hlt
      have f1 := hb i hlt
      have hw : wrap64 ((i : Int) + 1) = ((i + 1 : Nat) : Int) := by rw [w64 (by omega) (by omega)]; rfl
      have hx : (s.extract (i : Int).toNat (((i + 1 : Nat) : Int)).toNat).toList = [s.toList[i]] := by
        rw [tl_extract, Int.toNat_natCast, Int.toNat_natCast, e, show i + 1 - i = 1 by omega]; rfl
      have hxz : (s.extract (i : Int).toNat (((i + 1 : Nat) : Int)).toNat).size = 1 := by rw [len_eq, hx]; rfl
      cases hDc : D s.toList[i] with
      | true =>
        obtain ⟨r, h1, h2⟩ := ih (i + 1) acc true (by omega) (by omega) (by omega) (by omega) (fun _ h => by simpa using hDc.symm)
        refine ⟨r, Ev.step (f := fun k => spec_InitialsBy.l0 k s signs acc (s.size : Int) ((i + 1 : Nat) : Int)) (fun k => ?_) h1, ?_⟩
        · simp only [spec_InitialsBy.l0]
          rw [if_pos (by omega), if_pos (by omega), if_pos (by omega), f1, hDc, Option.bind_some, if_pos rfl, hw]
        · rw [h2, e, Giv.initL, if_pos hDc]
      | false =>
        cases gap with
        | false =>
          have hi0 : 0 < i := by
            rcases Nat.eq_zero_or_pos i with h | h
            · exact absurd (hg0 h) (by decide)
            · exact h
          have hp := hg1 hi0 (by omega)
          have f2 := hb (i - 1) (by omega)
          have hw2 : wrap64 ((i : Int) - 1) = ((i - 1 : Nat) : Int) := by rw [w64 (by omega) (by omega)]; omega
          obtain ⟨r, h1, h2⟩ := ih (i + 1) acc false (by omega) (by omega) (by omega) (by omega) (fun _ h => by simpa using hDc.symm)
          refine ⟨r, Ev.step (f := fun k => spec_InitialsBy.l0 k s signs acc (s.size : Int) ((i + 1 : Nat) : Int)) (fun k => ?_) h1, ?_⟩
          · simp only [spec_InitialsBy.l0]
            rw [if_pos (by omega), if_pos (by omega), if_pos (by omega), f1, hDc, Option.bind_some, if_neg (by decide), if_neg (by omega), hw2, if_pos (by omega), if_pos (by omega), f2, ← hp, Option.bind_some, if_neg (by decide), hw]
          · rw [h2, e, Giv.initL, if_neg (by rw [hDc]; decide), if_neg (by decide)]
        | true =>
          have hsz := size_append acc (s.extract (i : Int).toNat (((i + 1 : Nat) : Int)).toNat)
          obtain ⟨r, h1, h2⟩ := ih (i + 1) (acc ++ s.extract (i : Int).toNat (((i + 1 : Nat) : Int)).toNat) false (by omega) (by omega) (by omega) (by omega) (fun _ h => by simpa using hDc.symm)
          refine ⟨r, Ev.step (f := fun k => spec_InitialsBy.l0 k s signs (acc ++ s.extract (i : Int).toNat (((i + 1 : Nat) : Int)).toNat) (s.size : Int) ((i + 1 : Nat) : Int)) (fun k => ?_) h1, ?_⟩
          · simp only [spec_InitialsBy.l0]
            rw [if_pos (by omega), if_pos (by omega), if_pos (by omega), f1, hDc, Option.bind_some, if_neg (by decide), hw]
            by_cases hi0 : (i : Int) = 0
            · rw [if_pos hi0, if_pos (by omega), if_pos (by omega), if_pos (by omega)]
            · have hp := hg1 (by omega) (by omega)
              have f2 := hb (i - 1) (by omega)
              have hw2 : wrap64 ((i : Int) - 1) = ((i - 1 : Nat) : Int) := by rw [w64 (by omega) (by omega)]; omega
              rw [if_neg hi0, hw2, if_pos (by omega), if_pos (by omega), f2, ← hp, Option.bind_some, if_pos rfl, if_pos (by omega), if_pos (by omega), if_pos (by omega)]
          · rw [h2, e, Giv.initL, if_neg (by rw [hDc]; decide), if_pos rfl, tl_append, hx, List.append_assoc]; rfl
  obtain ⟨r, h1, h2⟩ := key _ 0 ⟨#[]⟩ true rfl (Nat.zero_le _) (by decide) (fun _ => rfl) (fun h => absurd h (by omega))
  have er : r = Giv.initS s signs := ext_eq (by rw [h2, tl_nil, List.drop_zero, List.nil_append, hD]; exact (tl_mk _).symm)
  rw [← er]
  exact h1
theorem init_ab : (Giv.initS (⟨#[97, 98]⟩ : ByteArray) (⟨#[]⟩ : ByteArray)).toList = [97] := by
  unfold Giv.initS
  rw [tl_mk]
  decide +kernel

theorem FnInitialsBy : laws_FnInitialsBy.Pure := by
  intro s g hs hg
  apply Ev.rounds
  unfold laws_FnInitialsBy.f
  have key : ∀ b : Bool, Ev (fun k => laws_FnInitialsBy.j0 k s g b) true := by
    intro b
    cases b with
    | true => exact Ev.step (f := fun _ => some true) (fun k => by simp only [laws_FnInitialsBy.j0]; rfl) (Ev.now _)
    | false =>
      refine Ev.step (f := fun k => ((laws_plain9.f k (([s, g] : List ByteArray))).bind fun t153 => (if t153 = true then (if (g.size : Int) > 8 then (some true) else ((Giv.impl_InitialsBy.f s g).bind fun t154 => ((spec_InitialsBy.f k s g).bind fun t155 => (if t154.toList = t155.toList then ((Giv.impl_InitialsBy.f (⟨#[97, 98]⟩ : ByteArray) (⟨#[]⟩ : ByteArray)).bind fun t156 => (some (t156.toList == ([97] : List UInt8)))) else (some false))))) else (some true)))) (fun k => by simp only [laws_FnInitialsBy.j0]; rfl) ?_
      refine Ev.andThen (plain_ev [s, g] (by simp)) ?_
      cases htx : plainL [s, g] with
      | false => exact Ev.neg (by decide) (Ev.now _)
      | true =>
        refine Ev.pos rfl ?_
        simp only [plainL, List.all_cons, List.all_nil, Bool.and_true, Bool.and_eq_true, decide_eq_true_eq] at htx
        obtain ⟨⟨z1, u1⟩, ⟨z2, u2⟩⟩ := htx
        have ha := asciiB_of s u1
        by_cases h8 : (g.size : Int) > 8
        · exact Ev.pos h8 (Ev.now _)
        refine Ev.neg h8 ?_
        have f1 : Giv.impl_InitialsBy.f s g = some (Giv.initS s g) := by unfold Giv.impl_InitialsBy.f; rw [if_pos ⟨by omega, by omega, ha⟩]
        have f2 : Giv.impl_InitialsBy.f (⟨#[97, 98]⟩ : ByteArray) (⟨#[]⟩ : ByteArray) = some (Giv.initS (⟨#[97, 98]⟩ : ByteArray) (⟨#[]⟩ : ByteArray)) := by
          unfold Giv.impl_InitialsBy.f; rw [if_pos ⟨by decide, by decide, by decide +kernel⟩]
        refine Ev.thenC f1 (Ev.andThen (spec_ev s g (by omega) (by omega) ha) (Ev.pos rfl (Ev.thenC f2 (Ev.const ?_))))
        rw [init_ab]; rfl
  by_cases h1 : (s.size : Int) > 2147483647
  · exact Ev.pos h1 (key _)
  · exact Ev.neg h1 (key _)

end Go.Proofs.YtpkdoinofenahaaDoor.Pure
