/- FnSplitList, as a plain statement: the library's loop and the reference's take the same parts, and joined they are the text again. -/
import Derived.Test.YtkikkeegdooenaaGreatDoorPFnSplitListx1
import Derived.Test.YtkikkeegdooenaaGreatDoorTxt
import Derived.Lib.Join
namespace Go.Proofs.YtkikkeegdooenaaGreatDoor.Pure
open Go.RowKit Go.Proofs.YtkikkeegdooenaaGreatDoor.PFnSplitList Go.Proofs.YtkikkeegdooenaaGreatDoorW.PrintWords Go.Proofs.YtkikkeegdooenaaGreatDoorW.PrintLast Go.Proofs.YtkikkeegdooenaaGreatDoor.Txt Go.Proofs.YtkikkeegdooenaaGreatDoor

/-! ### texts of UTF-8 -/
/-- Are all of these looked at? -/
def textL (l : List ByteArray) : Bool := l.all fun s => s.size ≤ 500 && Giv.utf8 s
theorem textL_cons (s : ByteArray) (l : List ByteArray) : textL (s :: l) = ((decide (s.size ≤ 500) && Giv.utf8 s) && textL l) := rfl
theorem text_ev (l : List ByteArray) (hl : l.length ≤ 1000) : Ev (fun k => laws_text9.f k l) (textL l) := by
  have key : ∀ (d i : Nat), l.length - i = d → i ≤ l.length → Ev (fun k => laws_text9.l0 k l (l.length : Int) (i : Int)) (textL (l.drop i)) := by
    intro d
    induction d with
    | zero =>
      intro i hd hi
      rw [List.drop_eq_nil_of_le (by omega)]
      refine Ev.step (f := fun _ => some true) (fun k => ?_) (Ev.now _)
      simp only [laws_text9.l0]; rw [if_neg (by omega)]
    | succ d ih =>
      intro i hd hi
      have hlt : i < l.length := by omega
      have e : l.drop i = l[i] :: l.drop (i + 1) := List.drop_eq_getElem_cons hlt
      have hr : rdOf ByteArray.empty l (i : Int) = l[i] := by simp [rdOf, List.getElem?_eq_getElem hlt]
      by_cases h5 : l[i].size ≤ 500
      · have ha : Giv.spec_UTF8.f l[i] = some (Giv.utf8 l[i]) := by unfold Giv.spec_UTF8.f; rw [if_pos (by omega)]
        refine Ev.step (f := fun k => (Giv.spec_UTF8.f l[i]).bind fun t => if t = true then laws_text9.l0 k l (l.length : Int) ((i + 1 : Nat) : Int) else some false) (fun k => ?_) ?_
        · simp only [laws_text9.l0]; rw [if_pos (by omega), if_pos (by omega), if_pos (by omega), hr, if_neg (by omega), w64 (by omega) (by omega)]; rfl
        · refine Ev.thenC ha ?_
          cases hx : Giv.utf8 l[i] with
          | true =>
            have e2 : textL (l.drop i) = textL (l.drop (i + 1)) := by rw [e, textL_cons, hx, decide_eq_true h5]; rfl
            rw [e2]; exact Ev.pos rfl (ih (i + 1) (by omega) (by omega))
          | false =>
            have e2 : textL (l.drop i) = false := by rw [e, textL_cons, hx, Bool.and_false, Bool.false_and]
            rw [e2]; exact Ev.neg (by decide) (Ev.now _)
      · have e2 : textL (l.drop i) = false := by rw [e, textL_cons, decide_eq_false h5]; rfl
        rw [e2]
        refine Ev.step (f := fun _ => some false) (fun k => ?_) (Ev.now _)
        simp only [laws_text9.l0]; rw [if_pos (by omega), if_pos (by omega), if_pos (by omega), hr, if_pos (by omega)]
  have := key _ 0 rfl (Nat.zero_le _)
  simpa [laws_text9.f] using this
/-! ### the parts of a text -/
theorem place_ev (p s : ByteArray) (i : Nat) (hs : s.size ≤ 100000) (hp : p.size ≤ 100000) (hi : i ≤ s.toList.length ∨ p.toList ≠ []) (hi' : i ≤ 1000000) : Ev (fun k => spec_Place.f k p s (i : Int)) (at_ i (idx p.toList (s.toList.drop i))) := by
  have hl := len_eq s; have hl' := len_eq p
  exact search (fun k x => spec_Place.l0 k p s x) s.toList p.toList (by omega) (by omega) (fun k x => by
    simp only [spec_Place.l0, tl_extract, hl, hl']) i hi (by omega)
theorem split_ev (p s : ByteArray) (hs : s.size ≤ 100000) (hp : p.size ≤ 100000) (hp0 : p.toList ≠ []) :
    ∃ l : List ByteArray, Ev (fun k => spec_SplitList.f k p s) l ∧ l.map ByteArray.toList = splitL p.toList s.toList := by
  have hl := len_eq s; have hl' := len_eq p
  have hpp := List.length_pos_iff.2 hp0
  have key : ∀ (d i : Nat) (acc : List ByteArray), s.size - i ≤ d → i ≤ s.size → acc.length + d ≤ 200000 → ∃ l : List ByteArray, Ev (fun k => spec_SplitList.l0 k p s acc (i : Int)) l ∧ l.map ByteArray.toList = acc.map ByteArray.toList ++ splitL p.toList (s.toList.drop i) := by
    intro d
    induction d with
    | zero =>
      intro i acc hd hi ha
      have e : s.toList.drop i = [] := List.drop_eq_nil_of_le (by omega)
      have hx : idx p.toList (s.toList.drop i) = none := by rw [e, idx, if_neg hp0]
      refine ⟨acc ++ [s.extract i s.size], Ev.step (fun k => by simp only [spec_SplitList.l0]; rfl) ?_, ?_⟩
      · refine Ev.andThen (place_ev p s i hs hp (.inr hp0) (by omega)) ?_
        rw [hx, show at_ i none = -1 from rfl]
        refine Ev.congr (f := fun _ => some (acc ++ [s.extract i s.size])) (fun k => ?_) (Ev.now _)
        rw [if_pos (show (-1 : Int) < 0 by decide), if_pos (show 0 ≤ (i : Int) by omega), if_pos (show (i : Int) ≤ (s.size : Int) by omega), if_pos (show acc.length < 8796093022208 by omega), Int.toNat_natCast]
      · rw [splitL_none hp0 hx, List.map_append, List.map_singleton, extract_self]
    | succ d ih =>
      intro i acc hd hi ha
      cases hx : idx p.toList (s.toList.drop i) with
      | none =>
        refine ⟨acc ++ [s.extract i s.size], Ev.step (fun k => by simp only [spec_SplitList.l0]; rfl) ?_, ?_⟩
        · refine Ev.andThen (place_ev p s i hs hp (.inr hp0) (by omega)) ?_
          rw [hx, show at_ i none = -1 from rfl]
          refine Ev.congr (f := fun _ => some (acc ++ [s.extract i s.size])) (fun k => ?_) (Ev.now _)
          rw [if_pos (show (-1 : Int) < 0 by decide), if_pos (show 0 ≤ (i : Int) by omega), if_pos (show (i : Int) ≤ (s.size : Int) by omega), if_pos (show acc.length < 8796093022208 by omega), Int.toNat_natCast]
        · rw [splitL_none hp0 hx, List.map_append, List.map_singleton, extract_self]
      | some j =>
        have hj := (idx_some hx).1
        rw [List.length_drop] at hj
        have c1 : ¬ ((j + i : Nat) : Int) < 0 := Int.not_lt.2 (Int.natCast_nonneg _)
        have c2 : 0 ≤ (i : Int) := Int.natCast_nonneg _
        have c3 : (i : Int) ≤ ((j + i : Nat) : Int) := Int.ofNat_le.2 (Nat.le_add_left _ _)
        have c4 : ((j + i : Nat) : Int) ≤ (s.size : Int) := Int.ofNat_le.2 (by omega)
        have c5 : acc.length < 8796093022208 := by omega
        obtain ⟨l, hl1, hl2⟩ := ih (j + i + p.size) (acc ++ [s.extract i (j + i)]) (by omega) (by omega) (by simp; omega)
        refine ⟨l, Ev.step (fun k => by simp only [spec_SplitList.l0]; rfl) ?_, ?_⟩
        · refine Ev.andThen (place_ev p s i hs hp (.inr hp0) (by omega)) ?_
          rw [hx]
          rw [show at_ i (some j) = ((j + i : Nat) : Int) from rfl]
          rw [wadd _ _ (by omega), Int.toNat_natCast, Int.toNat_natCast]
          refine Ev.congr (fun k => ?_) hl1
          rw [if_neg c1, if_pos c2, if_pos c3, if_pos c4, if_pos c5]
        · rw [hl2, splitL_some hp0 hx, List.map_append, List.map_singleton, tl_extract, List.append_assoc, List.singleton_append]
          congr 2
          · congr 1; omega
          · rw [List.drop_drop]; congr 2; omega
  obtain ⟨l, h1, h2⟩ := key _ 0 [] (Nat.le_refl _) (Nat.zero_le _) (by simp; omega)
  exact ⟨l, by simpa [spec_SplitList.f] using h1, by simpa using h2⟩

theorem zz_ev (s p : ByteArray) (hs : s.size ≤ 1000) (hp : p.size ≤ 1000) : Ev (fun k => sprig_zzIndex.f k s p) (at_ 0 (idx p.toList s.toList)) := by
  have hl := len_eq s; have hl' := len_eq p
  have := search (fun k x => sprig_zzIndex.l0 k s p x) s.toList p.toList (by omega) (by omega) (fun k x => by
    simp only [sprig_zzIndex.l0, tl_extract, hl, hl']) 0 (.inl (Nat.zero_le _)) (by omega)
  simpa [sprig_zzIndex.f] using this
theorem zzsplit_ev (p : ByteArray) (hp : p.size ≤ 1000) (hp0 : p.toList ≠ []) : ∀ (d : Nat) (s : ByteArray) (acc : List ByteArray), s.size ≤ d → s.size ≤ 1000 → acc.length + d ≤ 200000 →
    ∃ l : List ByteArray, Ev (fun k => sprig_zzSplitN.l0 k s p (-1) acc) l ∧ l.map ByteArray.toList = acc.map ByteArray.toList ++ splitL p.toList s.toList := by
  have hl' := len_eq p
  have hpp := List.length_pos_iff.2 hp0
  have hz : ¬ (p.size : Int) = 0 := by omega
  intro d
  induction d with
  | zero =>
    intro s acc hd hs ha
    have hl := len_eq s
    have e : s.toList = [] := List.eq_nil_of_length_eq_zero (by omega)
    have hx : idx p.toList s.toList = none := by rw [e, idx, if_neg hp0]
    refine ⟨acc ++ [s], Ev.step (f := fun k => sprig_zzSplitN.j1 k s p (-1) acc true) (fun k => by simp only [sprig_zzSplitN.l0]; rw [if_pos (by decide)]) (Ev.step (fun k => by simp only [sprig_zzSplitN.j1, if_true]; rw [if_neg hz]) ?_), ?_⟩
    · refine Ev.andThen (zz_ev s p hs hp) ?_
      rw [hx, show at_ 0 none = -1 from rfl]
      exact Ev.pos (by decide) (Ev.pos (by omega) (Ev.now _))
    · rw [splitL_none hp0 hx, List.map_append, List.map_singleton]
  | succ d ih =>
    intro s acc hd hs ha
    have hl := len_eq s
    cases hx : idx p.toList s.toList with
    | none =>
      refine ⟨acc ++ [s], Ev.step (f := fun k => sprig_zzSplitN.j1 k s p (-1) acc true) (fun k => by simp only [sprig_zzSplitN.l0]; rw [if_pos (by decide)]) (Ev.step (fun k => by simp only [sprig_zzSplitN.j1, if_true]; rw [if_neg hz]) ?_), ?_⟩
      · refine Ev.andThen (zz_ev s p hs hp) ?_
        rw [hx, show at_ 0 none = -1 from rfl]
        exact Ev.pos (by decide) (Ev.pos (by omega) (Ev.now _))
      · rw [splitL_none hp0 hx, List.map_append, List.map_singleton]
    | some j =>
      have hj := (idx_some hx).1
      have z2 := size_extract s (j + p.size) s.size (by omega) (by omega)
      obtain ⟨l, hl1, hl2⟩ := ih (s.extract (j + p.size) s.size) (acc ++ [s.extract 0 j]) (by omega) (by omega) (by simp; omega)
      refine ⟨l, Ev.step (f := fun k => sprig_zzSplitN.j1 k s p (-1) acc true) (fun k => by simp only [sprig_zzSplitN.l0]; rw [if_pos (by decide)]) (Ev.step (fun k => by simp only [sprig_zzSplitN.j1, if_true]; rw [if_neg hz]) ?_), ?_⟩
      · refine Ev.andThen (zz_ev s p hs hp) ?_
        rw [hx, show at_ 0 (some j) = ((j + 0 : Nat) : Int) from rfl, Nat.add_zero, wadd _ _ (by omega), Int.toNat_natCast, Int.toNat_natCast]
        exact Ev.neg (by omega) (Ev.pos (by omega) (Ev.pos (by omega) (Ev.pos (by omega) (Ev.pos (by omega) (Ev.pos (by omega) hl1)))))
      · rw [hl2, splitL_some hp0 hx, List.map_append, List.map_singleton, tl_extract, List.append_assoc, List.singleton_append, extract_self]
        congr 2
        rw [hl']
theorem zsplit_ev (p s : ByteArray) (hp : p.size ≤ 1000) (hp0 : p.toList ≠ []) (hs : s.size ≤ 1000) : ∃ l : List ByteArray, Ev (fun k => impl_SplitList.f k p s) l ∧ l.map ByteArray.toList = splitL p.toList s.toList := by
  obtain ⟨l, h1, h2⟩ := zzsplit_ev p hp hp0 s.size s [] (Nat.le_refl _) hs (by simp; omega)
  refine ⟨l, ?_, by simpa using h2⟩
  unfold impl_SplitList.f sprig_SplitList.f sprig_splitList.f sprig_zzSplitN.f
  refine Ev.andThen (Ev.andThen (Ev.andThen (Ev.neg (by decide) h1) (Ev.now _)) (Ev.now _)) (Ev.now _)
theorem sameT_ev (l : List ByteArray) (hl : l.length ≤ 100000) : Ev (fun k => spec_SameTexts.f k l l) true := by
  have key : ∀ (d i : Nat), l.length - i = d → i ≤ l.length → Ev (fun k => spec_SameTexts.l0 k l l (l.length : Int) (i : Int)) true := by
    intro d
    induction d with
    | zero =>
      intro i hd hi
      refine Ev.step (f := fun _ => some true) (fun k => ?_) (Ev.now _)
      simp only [spec_SameTexts.l0]; rw [if_neg (by omega)]
    | succ d ih =>
      intro i hd hi
      refine Ev.step (f := fun k => spec_SameTexts.l0 k l l (l.length : Int) ((i + 1 : Nat) : Int)) (fun k => ?_) (ih (i + 1) (by omega) (by omega))
      simp only [spec_SameTexts.l0]; rw [if_pos (by omega), if_pos (by omega), if_pos (by omega), if_pos (by omega), if_pos trivial, w64 (by omega) (by omega)]; rfl
  have := key _ 0 rfl (Nat.zero_le _)
  unfold spec_SameTexts.f
  exact Ev.pos rfl (by simpa using this)

/-! ### the parts, joined again -/
theorem idx_cut {p s : List UInt8} {j : Nat} (h : idx p s = some j) : s = s.take j ++ p ++ s.drop (j + p.length) := by
  obtain ⟨h1, h2⟩ := idx_some h
  obtain ⟨t, ht⟩ := List.isPrefixOf_iff_prefix.1 h2
  have e : s.drop (j + p.length) = t := by rw [← List.drop_drop, ← ht, List.drop_left]
  rw [e, List.append_assoc, ht, List.take_append_drop]
theorem join_split (p : List UInt8) (hp : p ≠ []) : ∀ (n : Nat) (s : List UInt8), s.length ≤ n → Lib.join (splitL p s) p = s := by
  have hpp := List.length_pos_iff.2 hp
  intro n
  induction n with
  | zero =>
    intro s h
    have e : s = [] := List.eq_nil_of_length_eq_zero (by omega)
    subst e
    rw [splitL_none hp (by rw [idx, if_neg hp])]
    simp [Lib.join]
  | succ n ih =>
    intro s h
    cases hx : idx p s with
    | none => rw [splitL_none hp hx]; simp [Lib.join]
    | some j =>
      have hj := (idx_some hx).1
      have hi := ih (s.drop (j + p.length)) (by rw [List.length_drop]; omega)
      rw [splitL_some hp hx]
      cases hy : splitL p (s.drop (j + p.length)) with
      | nil => exact absurd hy (splitL_ne _ _)
      | cons a l =>
        rw [hy] at hi
        have e : Lib.join (s.take j :: a :: l) p = s.take j ++ p ++ Lib.join (a :: l) p := by
          unfold Lib.join
          simp [List.intercalate]
        rw [e, hi, ← idx_cut hx]
theorem split_small (p : List UInt8) (hp : p ≠ []) : ∀ (n : Nat) (s : List UInt8), s.length ≤ n → (splitL p s).length ≤ s.length + 1 ∧ ∀ x ∈ splitL p s, x.length ≤ s.length := by
  have hpp := List.length_pos_iff.2 hp
  intro n
  induction n with
  | zero =>
    intro s h
    have e : s = [] := List.eq_nil_of_length_eq_zero (by omega)
    subst e
    rw [splitL_none hp (by rw [idx, if_neg hp])]
    simp
  | succ n ih =>
    intro s h
    cases hx : idx p s with
    | none => rw [splitL_none hp hx]; simp
    | some j =>
      have hj := (idx_some hx).1
      obtain ⟨i1, i2⟩ := ih (s.drop (j + p.length)) (by rw [List.length_drop]; omega)
      rw [List.length_drop] at i1
      rw [splitL_some hp hx]
      refine ⟨by rw [List.length_cons]; omega, fun x hx => ?_⟩
      rcases List.mem_cons.1 hx with rfl | hx
      · rw [List.length_take]; omega
      · have := i2 x hx
        rw [List.length_drop] at this
        omega
theorem map_inj {l l' : List ByteArray} (h : l.map ByteArray.toList = l'.map ByteArray.toList) : l = l' := by
  induction l generalizing l' with
  | nil => cases l' with
    | nil => rfl
    | cons y l' => simp at h
  | cons x l ih => cases l' with
    | nil => simp at h
    | cons y l' =>
      simp only [List.map_cons, List.cons.injEq] at h
      rw [ext_eq h.1, ih h.2]
/-- The two functions take the same parts; these are few and short, and joined they are the text. -/
theorem parts (p s : ByteArray) (hp : p.size ≤ 500) (hs : s.size ≤ 500) (hp0 : p.toList ≠ []) :
    ∃ l : List ByteArray, Ev (fun k => impl_SplitList.f k p s) l ∧ Ev (fun k => spec_SplitList.f k p s) l ∧ l.length ≤ 100000 ∧ (∀ x ∈ l, x.size ≤ 500) ∧ (⟨(Lib.join (l.map (·.data.toList)) p.data.toList).toArray⟩ : ByteArray) = s := by
  have hl := len_eq s
  obtain ⟨l, h1, h2⟩ := zsplit_ev p s (by omega) hp0 (by omega)
  obtain ⟨l', h3, h4⟩ := split_ev p s (by omega) (by omega) hp0
  have e : l = l' := map_inj (h2.trans h4.symm)
  subst e
  obtain ⟨s1, s2⟩ := split_small p.toList hp0 _ s.toList (Nat.le_refl _)
  refine ⟨l, h1, h3, ?_, fun x hx => ?_, ?_⟩
  · have : l.length = (splitL p.toList s.toList).length := by rw [← h2, List.length_map]
    omega
  · have := s2 x.toList (by rw [← h2]; exact List.mem_map_of_mem hx)
    have := len_eq x
    omega
  · have e1 : (l.map fun x => x.data.toList) = l.map ByteArray.toList := List.map_congr_left fun x _ => (Lib.toList_data x).symm
    rw [e1, h2, ← Lib.toList_data p, join_split p.toList hp0 _ s.toList (Nat.le_refl _), Lib.toList_data]
end Go.Proofs.YtkikkeegdooenaaGreatDoor.Pure
