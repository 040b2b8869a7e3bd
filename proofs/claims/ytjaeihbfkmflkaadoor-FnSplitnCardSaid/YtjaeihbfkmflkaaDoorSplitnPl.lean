/- FnSplitn, plain: the parts of a text, at most so many; numbers as they are written. -/
import Derived.Test.YtjaeihbfkmflkaaDoorPFnSplitnx1
import Derived.Test.YtjaeihbfkmflkaaDoorTxt
import Derived.Lib.Join
import Derived.Lib.LazyBuf
import Derived.Lib.ItoaLen
namespace Go.Proofs.YtjaeihbfkmflkaaDoor.Pure
open Go.RowKit Go.Proofs.YtjaeihbfkmflkaaDoor.PFnSplitn Go.Proofs.YtjaeihbfkmflkaaDoorW.PrintWords Go.Proofs.YtjaeihbfkmflkaaDoorW.PrintLast Go.Proofs.YtjaeihbfkmflkaaDoor.Txt Go.Proofs.YtjaeihbfkmflkaaDoor

/-! ### texts of UTF-8 -/
/-- Are all of these looked at? -/
def textL (l : List ByteArray) : Bool := l.all fun s => s.size ≤ 500 && Giv.utf8 s
theorem textL_cons (s : ByteArray) (l : List ByteArray) : textL (s :: l) = ((decide (s.size ≤ 500) && Giv.utf8 s) && textL l) := rfl
theorem text_ev (l : List ByteArray) (hl : l.length ≤ 1000) : Ev (fun k => laws_text9.f k l) (textL l) := by
  have key : ∀ (d i : Nat), l.length - i = d → i ≤ l.length → Ev (fun k => laws_text9.l0 k l (l.length : Int) (i : Int)) (textL (l.drop i)) := by
    intro d
    induction d with
    | zero =>
      intro i hd hi
      rw [List.drop_eq_nil_of_le (by omega)]
      refine Ev.step (f := fun _ => some true) (fun k => ?_) (Ev.now _)
      simp only [laws_text9.l0]; rw [if_neg (by omega)]
    | succ d ih =>
      intro i hd hi
      have hlt : i < l.length := by omega
      have e : l.drop i = l[i] :: l.drop (i + 1) := List.drop_eq_getElem_cons hlt
      have hr : rdOf ByteArray.empty l (i : Int) = l[i] := by simp [rdOf, List.getElem?_eq_getElem hlt]
      by_cases h5 : l[i].size ≤ 500
      · have ha : Giv.spec_UTF8.f l[i] = some (Giv.utf8 l[i]) := by unfold Giv.spec_UTF8.f; rw [if_pos (by omega)]
        refine Ev.step (f := fun k => (Giv.spec_UTF8.f l[i]).bind fun t => if t = true then laws_text9.l0 k l (l.length : Int) ((i + 1 : Nat) : Int) else some false) (fun k => ?_) ?_
        · simp only [laws_text9.l0]; rw [if_pos (by omega), if_pos (by omega), if_pos (by omega), hr, if_neg (by omega), w64 (by omega) (by omega)]; rfl
        · refine Ev.thenC ha ?_
          cases hx : Giv.utf8 l[i] with
          | true =>
            have e2 : textL (l.drop i) = textL (l.drop (i + 1)) := by rw [e, textL_cons, hx, decide_eq_true h5]; rfl
            rw [e2]; exact Ev.pos rfl (ih (i + 1) (by omega) (by omega))
          | false =>
            have e2 : textL (l.drop i) = false := by rw [e, textL_cons, hx, Bool.and_false, Bool.false_and]
            rw [e2]; exact Ev.neg (by decide) (Ev.now _)
      · have e2 : textL (l.drop i) = false := by rw [e, textL_cons, decide_eq_false h5]; rfl
        rw [e2]
        refine Ev.step (f := fun _ => some false) (fun k => ?_) (Ev.now _)
        simp only [laws_text9.l0]; rw [if_pos (by omega), if_pos (by omega), if_pos (by omega), hr, if_pos (by omega)]
  have := key _ 0 rfl (Nat.zero_le _)
  simpa [laws_text9.f] using this
/-! ### the parts of a text -/
theorem place_ev (p s : ByteArray) (i : Nat) (hs : s.size ≤ 100000) (hp : p.size ≤ 100000) (hi : i ≤ s.toList.length ∨ p.toList ≠ []) (hi' : i ≤ 1000000) : Ev (fun k => spec_Place.f k p s (i : Int)) (at_ i (idx p.toList (s.toList.drop i))) := by
  have hl := len_eq s; have hl' := len_eq p
  exact search (fun k x => spec_Place.l0 k p s x) s.toList p.toList (by omega) (by omega) (fun k x => by
    simp only [spec_Place.l0, tl_extract, hl, hl']) i hi (by omega)
theorem split_ev (p s : ByteArray) (hs : s.size ≤ 100000) (hp : p.size ≤ 100000) (hp0 : p.toList ≠ []) :
    ∃ l : List ByteArray, Ev (fun k => spec_SplitList.f k p s) l ∧ l.map ByteArray.toList = splitL p.toList s.toList := by
  have hl := len_eq s; have hl' := len_eq p
  have hpp := List.length_pos_iff.2 hp0
  have key : ∀ (d i : Nat) (acc : List ByteArray), s.size - i ≤ d → i ≤ s.size → acc.length + d ≤ 200000 → ∃ l : List ByteArray, Ev (fun k => spec_SplitList.l0 k p s acc (i : Int)) l ∧ l.map ByteArray.toList = acc.map ByteArray.toList ++ splitL p.toList (s.toList.drop i) := by
    intro d
    induction d with
    | zero =>
      intro i acc hd hi ha
      have e : s.toList.drop i = [] := List.drop_eq_nil_of_le (by omega)
      have hx : idx p.toList (s.toList.drop i) = none := by rw [e, idx, if_neg hp0]
      refine ⟨acc ++ [s.extract i s.size], Ev.step (fun k => by simp only [spec_SplitList.l0]; rfl) ?_, ?_⟩
      · refine Ev.andThen (place_ev p s i hs hp (.inr hp0) (by omega)) ?_
        rw [hx, show at_ i none = -1 from rfl]
        refine Ev.congr (f := fun _ => some (acc ++ [s.extract i s.size])) (fun k => ?_) (Ev.now _)
        rw [if_pos (show (-1 : Int) < 0 by decide), if_pos (show 0 ≤ (i : Int) by omega), if_pos (show (i : Int) ≤ (s.size : Int) by omega), if_pos (show acc.length < 8796093022208 by omega), Int.toNat_natCast]
      · rw [splitL_none hp0 hx, List.map_append, List.map_singleton, extract_self]
    | succ d ih =>
      intro i acc hd hi ha
      cases hx : idx p.toList (s.toList.drop i) with
      | none =>
        refine ⟨acc ++ [s.extract i s.size], Ev.step (fun k => by simp only [spec_SplitList.l0]; rfl) ?_, ?_⟩
        · refine Ev.andThen (place_ev p s i hs hp (.inr hp0) (by omega)) ?_
          rw [hx, show at_ i none = -1 from rfl]
          refine Ev.congr (f := fun _ => some (acc ++ [s.extract i s.size])) (fun k => ?_) (Ev.now _)
          rw [if_pos (show (-1 : Int) < 0 by decide), if_pos (show 0 ≤ (i : Int) by omega), if_pos (show (i : Int) ≤ (s.size : Int) by omega), if_pos (show acc.length < 8796093022208 by omega), Int.toNat_natCast]
        · rw [splitL_none hp0 hx, List.map_append, List.map_singleton, extract_self]
      | some j =>
        have hj := (idx_some hx).1
        rw [List.length_drop] at hj
        have c1 : ¬ ((j + i : Nat) : Int) < 0 := Int.not_lt.2 (Int.natCast_nonneg _)
        have c2 : 0 ≤ (i : Int) := Int.natCast_nonneg _
        have c3 : (i : Int) ≤ ((j + i : Nat) : Int) := Int.ofNat_le.2 (Nat.le_add_left _ _)
        have c4 : ((j + i : Nat) : Int) ≤ (s.size : Int) := Int.ofNat_le.2 (by omega)
        have c5 : acc.length < 8796093022208 := by omega
        obtain ⟨l, hl1, hl2⟩ := ih (j + i + p.size) (acc ++ [s.extract i (j + i)]) (by omega) (by omega) (by simp; omega)
        refine ⟨l, Ev.step (fun k => by simp only [spec_SplitList.l0]; rfl) ?_, ?_⟩
        · refine Ev.andThen (place_ev p s i hs hp (.inr hp0) (by omega)) ?_
          rw [hx]
          rw [show at_ i (some j) = ((j + i : Nat) : Int) from rfl]
          rw [wadd _ _ (by omega), Int.toNat_natCast, Int.toNat_natCast]
          refine Ev.congr (fun k => ?_) hl1
          rw [if_neg c1, if_pos c2, if_pos c3, if_pos c4, if_pos c5]
        · rw [hl2, splitL_some hp0 hx, List.map_append, List.map_singleton, tl_extract, List.append_assoc, List.singleton_append]
          congr 2
          · congr 1; omega
          · rw [List.drop_drop]; congr 2; omega
  obtain ⟨l, h1, h2⟩ := key _ 0 [] (Nat.le_refl _) (Nat.zero_le _) (by simp; omega)
  exact ⟨l, by simpa [spec_SplitList.f] using h1, by simpa using h2⟩
/-! ### texts joined -/
/-- The bytes of texts with one between each two. -/
def joinL (p : List UInt8) : List (List UInt8) → List UInt8
  | [] => []
  | [x] => x
  | x :: y :: l => x ++ p ++ joinL p (y :: l)
/-- What stands behind the first part. -/
def tailL (p : List UInt8) (l : List (List UInt8)) : List UInt8 := l.flatMap fun x => p ++ x
theorem joinL_cons (p x : List UInt8) (l : List (List UInt8)) : joinL p (x :: l) = x ++ tailL p l := by
  induction l generalizing x with
  | nil => simp [joinL, tailL]
  | cons y l ih => rw [joinL, ih]; simp [tailL]
theorem joined_ev (p : ByteArray) (l : List ByteArray) (hp : p.size ≤ 100000) (hn : l.length ≤ 100000) (hl : ∀ x ∈ l, x.size ≤ 100000) :
    ∃ r : ByteArray, Ev (fun k => spec_Joined.f k p l) r ∧ r.toList = joinL p.toList (l.map ByteArray.toList) := by
  have key : ∀ (d i : Nat) (acc : ByteArray), l.length - i = d → 0 < i → i ≤ l.length → acc.size ≤ i * 200000 → ∃ r : ByteArray, Ev (fun k => spec_Joined.l0 k p l acc (l.length : Int) (i : Int)) r ∧ r.toList = acc.toList ++ tailL p.toList ((l.drop i).map ByteArray.toList) := by
    intro d
    induction d with
    | zero =>
      intro i acc hd h0 hi ha
      refine ⟨acc, Ev.step (f := fun _ => some acc) (fun k => by simp only [spec_Joined.l0]; rw [if_neg (by omega)]) (Ev.now _), ?_⟩
      rw [List.drop_eq_nil_of_le (by omega)]; simp [tailL]
    | succ d ih =>
      intro i acc hd h0 hi ha
      have hlt : i < l.length := by omega
      have e : l.drop i = l[i] :: l.drop (i + 1) := List.drop_eq_getElem_cons hlt
      have hr : rdOf ByteArray.empty l (i : Int) = l[i] := by simp [rdOf, List.getElem?_eq_getElem hlt]
      have hz := hl l[i] (List.getElem_mem hlt)
      have hs1 := size_append acc p; have hs2 := size_append (acc ++ p) l[i]
      obtain ⟨r, h1, h2⟩ := ih (i + 1) ((acc ++ p) ++ l[i]) (by omega) (by omega) (by omega) (by omega)
      refine ⟨r, Ev.step (f := fun k => spec_Joined.l0 k p l ((acc ++ p) ++ l[i]) (l.length : Int) ((i + 1 : Nat) : Int)) (fun k => ?_) h1, ?_⟩
      · simp only [spec_Joined.l0]
        rw [if_pos (by omega), if_pos (by omega), if_pos (by omega), if_pos (by omega), if_pos (by omega), hr, if_pos (by omega), w64 (by omega) (by omega)]; rfl
      · rw [h2, e, List.map_cons, tl_append, tl_append]; simp [tailL]
  cases l with
  | nil => exact ⟨⟨#[]⟩, Ev.step (f := fun _ => some _) (fun k => by show spec_Joined.l0 (k + 1) p [] ⟨#[]⟩ _ 0 = _; simp only [spec_Joined.l0]; rw [if_neg (by decide)]) (Ev.now _), tl_nil⟩
  | cons x l =>
    have hz := hl x (List.mem_cons_self ..)
    have he : (⟨#[]⟩ : ByteArray) ++ x = x := ext_eq (by rw [tl_append, tl_nil, List.nil_append])
    obtain ⟨r, h1, h2⟩ := key _ 1 x rfl (by omega) (by simp) (by omega)
    refine ⟨r, Ev.step (f := fun k => spec_Joined.l0 k p (x :: l) x ((x :: l).length : Int) ((1 : Nat) : Int)) (fun k => ?_) h1, ?_⟩
    · show spec_Joined.l0 (k + 1) p (x :: l) ⟨#[]⟩ _ 0 = _
      simp only [spec_Joined.l0]
      rw [if_pos (by simp only [List.length_cons]; omega), if_neg (by omega), if_pos (by omega), if_pos (by simp only [List.length_cons]; omega)]
      have hr : rdOf ByteArray.empty (x :: l) 0 = x := rfl
      rw [hr, he, if_pos (by show 0 + x.size ≤ _; omega), w64 (by decide) (by decide)]; rfl
    · rw [h2, List.map_cons, joinL_cons]; rfl
theorem zz_ev (s p : ByteArray) (hs : s.size ≤ 1000) (hp : p.size ≤ 1000) : Ev (fun k => sprig_zzIndex.f k s p) (at_ 0 (idx p.toList s.toList)) := by
  have hl := len_eq s; have hl' := len_eq p
  have := search (fun k x => sprig_zzIndex.l0 k s p x) s.toList p.toList (by omega) (by omega) (fun k x => by
    simp only [sprig_zzIndex.l0, tl_extract, hl, hl']) 0 (.inl (Nat.zero_le _)) (by omega)
  simpa [sprig_zzIndex.f] using this
theorem zzsplit_ev (p : ByteArray) (hp : p.size ≤ 1000) (hp0 : p.toList ≠ []) : ∀ (d : Nat) (s : ByteArray) (acc : List ByteArray), s.size ≤ d → s.size ≤ 1000 → acc.length + d ≤ 200000 →
    ∃ l : List ByteArray, Ev (fun k => sprig_zzSplitN.l0 k s p (-1) acc) l ∧ l.map ByteArray.toList = acc.map ByteArray.toList ++ splitL p.toList s.toList := by
  have hl' := len_eq p
  have hpp := List.length_pos_iff.2 hp0
  have hz : ¬ (p.size : Int) = 0 := by omega
  intro d
  induction d with
  | zero =>
    intro s acc hd hs ha
    have hl := len_eq s
    have e : s.toList = [] := List.eq_nil_of_length_eq_zero (by omega)
    have hx : idx p.toList s.toList = none := by rw [e, idx, if_neg hp0]
    refine ⟨acc ++ [s], Ev.step (f := fun k => sprig_zzSplitN.j1 k s p (-1) acc true) (fun k => by simp only [sprig_zzSplitN.l0]; rw [if_pos (by decide)]) (Ev.step (fun k => by simp only [sprig_zzSplitN.j1, if_true]; rw [if_neg hz]) ?_), ?_⟩
    · refine Ev.andThen (zz_ev s p hs hp) ?_
      rw [hx, show at_ 0 none = -1 from rfl]
      exact Ev.pos (by decide) (Ev.pos (by omega) (Ev.now _))
    · rw [splitL_none hp0 hx, List.map_append, List.map_singleton]
  | succ d ih =>
    intro s acc hd hs ha
    have hl := len_eq s
    cases hx : idx p.toList s.toList with
    | none =>
      refine ⟨acc ++ [s], Ev.step (f := fun k => sprig_zzSplitN.j1 k s p (-1) acc true) (fun k => by simp only [sprig_zzSplitN.l0]; rw [if_pos (by decide)]) (Ev.step (fun k => by simp only [sprig_zzSplitN.j1, if_true]; rw [if_neg hz]) ?_), ?_⟩
      · refine Ev.andThen (zz_ev s p hs hp) ?_
        rw [hx, show at_ 0 none = -1 from rfl]
        exact Ev.pos (by decide) (Ev.pos (by omega) (Ev.now _))
      · rw [splitL_none hp0 hx, List.map_append, List.map_singleton]
    | some j =>
      have hj := (idx_some hx).1
      have z2 := size_extract s (j + p.size) s.size (by omega) (by omega)
      obtain ⟨l, hl1, hl2⟩ := ih (s.extract (j + p.size) s.size) (acc ++ [s.extract 0 j]) (by omega) (by omega) (by simp; omega)
      refine ⟨l, Ev.step (f := fun k => sprig_zzSplitN.j1 k s p (-1) acc true) (fun k => by simp only [sprig_zzSplitN.l0]; rw [if_pos (by decide)]) (Ev.step (fun k => by simp only [sprig_zzSplitN.j1, if_true]; rw [if_neg hz]) ?_), ?_⟩
      · refine Ev.andThen (zz_ev s p hs hp) ?_
        rw [hx, show at_ 0 (some j) = ((j + 0 : Nat) : Int) from rfl, Nat.add_zero, wadd _ _ (by omega), Int.toNat_natCast, Int.toNat_natCast]
        exact Ev.neg (by omega) (Ev.pos (by omega) (Ev.pos (by omega) (Ev.pos (by omega) (Ev.pos (by omega) (Ev.pos (by omega) hl1)))))
      · rw [hl2, splitL_some hp0 hx, List.map_append, List.map_singleton, tl_extract, List.append_assoc, List.singleton_append, extract_self]
        congr 2
        rw [hl']
/-! ### the parts, joined again -/
theorem idx_cut {p s : List UInt8} {j : Nat} (h : idx p s = some j) : s = s.take j ++ p ++ s.drop (j + p.length) := by
  obtain ⟨h1, h2⟩ := idx_some h
  obtain ⟨t, ht⟩ := List.isPrefixOf_iff_prefix.1 h2
  have e : s.drop (j + p.length) = t := by rw [← List.drop_drop, ← ht, List.drop_left]
  rw [e, List.append_assoc, ht, List.take_append_drop]
theorem join_split (p : List UInt8) (hp : p ≠ []) : ∀ (n : Nat) (s : List UInt8), s.length ≤ n → Lib.join (splitL p s) p = s := by
  have hpp := List.length_pos_iff.2 hp
  intro n
  induction n with
  | zero =>
    intro s h
    have e : s = [] := List.eq_nil_of_length_eq_zero (by omega)
    subst e
    rw [splitL_none hp (by rw [idx, if_neg hp])]
    simp [Lib.join]
  | succ n ih =>
    intro s h
    cases hx : idx p s with
    | none => rw [splitL_none hp hx]; simp [Lib.join]
    | some j =>
      have hj := (idx_some hx).1
      have hi := ih (s.drop (j + p.length)) (by rw [List.length_drop]; omega)
      rw [splitL_some hp hx]
      cases hy : splitL p (s.drop (j + p.length)) with
      | nil => exact absurd hy (splitL_ne _ _)
      | cons a l =>
        rw [hy] at hi
        have e : Lib.join (s.take j :: a :: l) p = s.take j ++ p ++ Lib.join (a :: l) p := by
          unfold Lib.join
          simp [List.intercalate]
        rw [e, hi, ← idx_cut hx]
theorem split_small (p : List UInt8) (hp : p ≠ []) : ∀ (n : Nat) (s : List UInt8), s.length ≤ n → (splitL p s).length ≤ s.length + 1 ∧ ∀ x ∈ splitL p s, x.length ≤ s.length := by
  have hpp := List.length_pos_iff.2 hp
  intro n
  induction n with
  | zero =>
    intro s h
    have e : s = [] := List.eq_nil_of_length_eq_zero (by omega)
    subst e
    rw [splitL_none hp (by rw [idx, if_neg hp])]
    simp
  | succ n ih =>
    intro s h
    cases hx : idx p s with
    | none => rw [splitL_none hp hx]; simp
    | some j =>
      have hj := (idx_some hx).1
      obtain ⟨i1, i2⟩ := ih (s.drop (j + p.length)) (by rw [List.length_drop]; omega)
      rw [List.length_drop] at i1
      rw [splitL_some hp hx]
      refine ⟨by rw [List.length_cons]; omega, fun x hx => ?_⟩
      rcases List.mem_cons.1 hx with rfl | hx
      · rw [List.length_take]; omega
      · have := i2 x hx
        rw [List.length_drop] at this
        omega
theorem map_inj {l l' : List ByteArray} (h : l.map ByteArray.toList = l'.map ByteArray.toList) : l = l' := by
  induction l generalizing l' with
  | nil => cases l' with
    | nil => rfl
    | cons y l' => simp at h
  | cons x l ih => cases l' with
    | nil => simp at h
    | cons y l' =>
      simp only [List.map_cons, List.cons.injEq] at h
      rw [ext_eq h.1, ih h.2]
/-! ### at most so many parts -/
/-- So many cuts at most, then the rest. -/
def cutN (p : List UInt8) : Nat → List UInt8 → List (List UInt8)
  | 0, s => [s]
  | m + 1, s => match idx p s with
    | none => [s]
    | some j => s.take j :: cutN p m (s.drop (j + p.length))
theorem cutN_split (p : List UInt8) (hp : p ≠ []) : ∀ (m : Nat) (s : List UInt8), cutN p m s = if (splitL p s).length ≤ m + 1 then splitL p s else (splitL p s).take m ++ [Lib.join ((splitL p s).drop m) p] := by
  intro m
  induction m with
  | zero =>
    intro s
    have hj := join_split p hp _ s (Nat.le_refl _)
    by_cases h : (splitL p s).length ≤ 0 + 1
    · rw [if_pos h]
      cases hx : splitL p s with
      | nil => exact absurd hx (splitL_ne _ _)
      | cons a l =>
        rw [hx] at h hj
        have : l = [] := List.eq_nil_of_length_eq_zero (by have h1 : l.length + 1 ≤ 0 + 1 := h; omega)
        subst this
        simp [Lib.join] at hj
        rw [hj]; rfl
    · rw [if_neg h, List.take_zero, List.drop_zero, hj]; rfl
  | succ m ih =>
    intro s
    cases hx : idx p s with
    | none =>
      rw [splitL_none hp hx]
      simp [cutN, hx]
    | some j =>
      rw [splitL_some hp hx]
      simp only [cutN, hx, List.length_cons, ih, List.take_succ_cons, List.drop_succ_cons, Nat.add_le_add_iff_right]
      split
      · rfl
      · rfl
theorem zzcut_ev (p : ByteArray) (hp : p.size ≤ 1000) (hp0 : p.toList ≠ []) (n : Nat) (hn : n ≤ 1000) : ∀ (m : Nat) (s : ByteArray) (acc : List ByteArray), acc.length + m + 1 = n → s.size ≤ 1000 →
    ∃ l : List ByteArray, Ev (fun k => sprig_zzSplitN.l0 k s p (n : Int) acc) l ∧ l.map ByteArray.toList = acc.map ByteArray.toList ++ cutN p.toList m s.toList := by
  have hl' := len_eq p
  have hpp := List.length_pos_iff.2 hp0
  have hz : ¬ (p.size : Int) = 0 := by omega
  intro m
  induction m with
  | zero =>
    intro s acc ha hs
    have hw : wrap64 ((n : Int) - 1) = (n : Int) - 1 := w64 (by omega) (by omega)
    refine ⟨acc ++ [s], Ev.step (f := fun k => sprig_zzSplitN.j1 k s p (n : Int) acc false) (fun k => ?_) (Ev.step (f := fun _ => some (acc ++ [s])) (fun k => ?_) (Ev.now _)), ?_⟩
    · simp only [sprig_zzSplitN.l0]
      rw [if_neg (by omega), hw, decide_eq_false (by omega)]
    · simp only [sprig_zzSplitN.j1]
      rw [if_neg (by decide), if_neg hz, if_pos (by omega)]
    · rw [cutN, List.map_append, List.map_singleton]
  | succ m ih =>
    intro s acc ha hs
    have hl := len_eq s
    have hw : wrap64 ((n : Int) - 1) = (n : Int) - 1 := w64 (by omega) (by omega)
    have h1 : ∀ k, sprig_zzSplitN.l0 (k + 1) s p (n : Int) acc = sprig_zzSplitN.j1 k s p (n : Int) acc true := fun k => by
      simp only [sprig_zzSplitN.l0]
      rw [if_neg (by omega), hw, decide_eq_true (by omega)]
    cases hx : idx p.toList s.toList with
    | none =>
      refine ⟨acc ++ [s], Ev.step h1 (Ev.step (fun k => by simp only [sprig_zzSplitN.j1, if_true]; rw [if_neg hz]) ?_), ?_⟩
      · refine Ev.andThen (zz_ev s p hs hp) ?_
        rw [hx, show at_ 0 none = -1 from rfl]
        exact Ev.pos (by decide) (Ev.pos (by omega) (Ev.now _))
      · rw [cutN, hx, List.map_append, List.map_singleton]
    | some j =>
      have hj := (idx_some hx).1
      have z2 := size_extract s (j + p.size) s.size (by omega) (by omega)
      obtain ⟨l, hl1, hl2⟩ := ih (s.extract (j + p.size) s.size) (acc ++ [s.extract 0 j]) (by simp; omega) (by omega)
      refine ⟨l, Ev.step h1 (Ev.step (fun k => by simp only [sprig_zzSplitN.j1, if_true]; rw [if_neg hz]) ?_), ?_⟩
      · refine Ev.andThen (zz_ev s p hs hp) ?_
        rw [hx, show at_ 0 (some j) = ((j + 0 : Nat) : Int) from rfl, Nat.add_zero, wadd _ _ (by omega), Int.toNat_natCast, Int.toNat_natCast]
        exact Ev.neg (by omega) (Ev.pos (by omega) (Ev.pos (by omega) (Ev.pos (by omega) (Ev.pos (by omega) (Ev.pos (by omega) hl1)))))
      · rw [hl2, cutN, hx]
        simp only
        rw [List.map_append, List.map_singleton, tl_extract, List.append_assoc, List.singleton_append, extract_self]
        congr 2
        rw [hl']
/-! ### numbers as they are written -/
theorem str_one (e : Nat) (he : e ≤ 9) : (strOfNums [((48 + e : Nat) : Int)]) = ⟨#[UInt8.ofNat (48 + e)]⟩ := by
  have := Lib.Lz.strOfNums_map [UInt8.ofNat (48 + e)]
  have h2 : (UInt8.ofNat (48 + e)).toNat = 48 + e := by simp; omega
  simp only [List.map_cons, List.map_nil, h2] at this
  exact this
theorem bytes_one (c : UInt8) (acc : ByteArray) : ((⟨#[c]⟩ : ByteArray) ++ acc).toList = c :: acc.toList := by
  rw [tl_append, Lib.toList_data]; rfl
theorem decimal_key : ∀ (m : Nat) (acc : ByteArray), m ≤ 1000000 → acc.size + (Lib.decDigits m).length ≤ 1000 →
    ∃ r : ByteArray, Ev (fun k => spec_decimal.l0 k (m : Int) acc) r ∧ r.toList = Lib.decDigits m ++ acc.toList := by
  intro m
  induction m using Nat.strongRecOn with
  | _ m ih =>
    intro acc h0 hb
    by_cases hs : m < 10
    · have hd : ((48 + (m : Int)) % 4294967296) % 256 = ((48 + m : Nat) : Int) := by omega
      have e0 := str_one m (by omega)
      have hsz : (⟨#[UInt8.ofNat (48 + m)]⟩ : ByteArray).size = 1 := rfl
      have hdd : Lib.decDigits m = [UInt8.ofNat (48 + m)] := by rw [Lib.decDigits]; simp [hs]
      refine ⟨(⟨#[UInt8.ofNat (48 + m)]⟩ : ByteArray) ++ acc, Ev.step (f := fun _ => some ((⟨#[UInt8.ofNat (48 + m)]⟩ : ByteArray) ++ acc)) (fun k => ?_) (Ev.now _), ?_⟩
      · simp only [spec_decimal.l0, Option.bind_some]
        rw [if_neg (by omega), hd, e0, if_pos (by omega)]
      · rw [bytes_one, hdd]; rfl
    · have hmod : Int.tmod (m : Int) 10 = ((m % 10 : Nat) : Int) := by rw [Int.tmod_eq_emod_of_nonneg (by omega)]; omega
      have hdiv : (Int.tdiv (m : Int) 10) % 4294967296 = ((m / 10 : Nat) : Int) := by rw [Int.tdiv_eq_ediv_of_nonneg (by omega)]; omega
      have hd : ((48 + ((m % 10 : Nat) : Int)) % 4294967296) % 256 = ((48 + m % 10 : Nat) : Int) := by omega
      have e0 := str_one (m % 10) (by omega)
      have hdd : Lib.decDigits m = Lib.decDigits (m / 10) ++ [UInt8.ofNat (48 + m % 10)] := by rw [Lib.decDigits]; simp [hs]
      have hsz : (⟨#[UInt8.ofNat (48 + m % 10)]⟩ : ByteArray).size = 1 := rfl
      have z1 := size_append (⟨#[UInt8.ofNat (48 + m % 10)]⟩ : ByteArray) acc
      have hlen : (Lib.decDigits m).length = (Lib.decDigits (m / 10)).length + 1 := by rw [hdd]; simp
      obtain ⟨r, hr1, hr2⟩ := ih (m / 10) (by omega) ((⟨#[UInt8.ofNat (48 + m % 10)]⟩ : ByteArray) ++ acc) (by omega) (by omega)
      refine ⟨r, Ev.step (fun k => ?_) hr1, ?_⟩
      · simp only [spec_decimal.l0, Option.bind_some]
        rw [if_pos (by omega), hmod, hd, e0, hdiv, if_pos (by omega)]
      · rw [hr2, bytes_one, hdd]; simp
theorem number_ev (m : Nat) (h : m ≤ 1000000) : ∃ r : ByteArray, Ev (fun k => spec_Number.f k (m : Int)) r ∧ r.toList = Lib.itoa (m : Int) := by
  have hL := Lib.itoa_length_le (m : Int) (by omega) (by omega)
  have hi : Lib.itoa (m : Int) = Lib.decDigits m := by
    unfold Lib.itoa
    rw [if_neg (by omega)]
    rfl
  rw [hi] at hL
  obtain ⟨r, h1, h2⟩ := decimal_key m ⟨#[]⟩ h (by show 0 + _ ≤ 1000; omega)
  refine ⟨r, ?_, by rw [h2, hi, tl_nil, List.append_nil]⟩
  unfold spec_Number.f
  have e : (m : Int) % 4294967296 = (m : Int) := by omega
  rw [e]
  exact Ev.andThen h1 (Ev.now _)
end Go.Proofs.YtjaeihbfkmflkaaDoor.Pure
