/- FnReplaceAll, as a plain statement: the library's loop and the reference's put the same text together. -/
import Derived.Test.YtjpocldnibmopaaDoorPFnReplaceAllx2
import Derived.Test.YtjpocldnibmopaaDoorTxt
import Derived.Lib.LazyBuf
namespace Go.Proofs.YtjpocldnibmopaaDoor.Pure
open Go.RowKit Go.Proofs.YtjpocldnibmopaaDoor.PFnReplaceAll Go.Proofs.YtjpocldnibmopaaDoorW.PrintWords Go.Proofs.YtjpocldnibmopaaDoorW.PrintLast Go.Proofs.YtjpocldnibmopaaDoor.Txt Go.Proofs.YtjpocldnibmopaaDoor

/-! ### texts of UTF-8 -/
/-- Are all of these looked at? -/
def textL (l : List ByteArray) : Bool := l.all fun s => s.size ≤ 500 && Giv.utf8 s
theorem textL_cons (s : ByteArray) (l : List ByteArray) : textL (s :: l) = ((decide (s.size ≤ 500) && Giv.utf8 s) && textL l) := rfl
theorem text_ev (l : List ByteArray) (hl : l.length ≤ 1000) : Ev (fun k => laws_text9.f k l) (textL l) := by
  have key : ∀ (d i : Nat), l.length - i = d → i ≤ l.length → Ev (fun k => laws_text9.l0 k l (l.length : Int) (i : Int)) (textL (l.drop i)) := by
    intro d
    induction d with
    | zero =>
      intro i hd hi
      rw [List.drop_eq_nil_of_le (by omega)]
      refine Ev.step (f := fun _ => some true) (fun k => ?_) (Ev.now _)
      simp only [laws_text9.l0]; rw [if_neg (by omega)]
    | succ d ih =>
      intro i hd hi
      have hlt : i < l.length := by omega
      have e : l.drop i = l[i] :: l.drop (i + 1) := List.drop_eq_getElem_cons hlt
      have hr : rdOf ByteArray.empty l (i : Int) = l[i] := by simp [rdOf, List.getElem?_eq_getElem hlt]
      by_cases h5 : l[i].size ≤ 500
      · have ha : Giv.spec_UTF8.f l[i] = some (Giv.utf8 l[i]) := by unfold Giv.spec_UTF8.f; rw [if_pos (by omega)]
        refine Ev.step (f := fun k => (Giv.spec_UTF8.f l[i]).bind fun t => if t = true then laws_text9.l0 k l (l.length : Int) ((i + 1 : Nat) : Int) else some false) (fun k => ?_) ?_
        · simp only [laws_text9.l0]; rw [if_pos (by omega), if_pos (by omega), if_pos (by omega), hr, if_neg (by omega), w64 (by omega) (by omega)]; rfl
        · refine Ev.thenC ha ?_
          cases hx : Giv.utf8 l[i] with
          | true =>
            have e2 : textL (l.drop i) = textL (l.drop (i + 1)) := by rw [e, textL_cons, hx, decide_eq_true h5]; rfl
            rw [e2]; exact Ev.pos rfl (ih (i + 1) (by omega) (by omega))
          | false =>
            have e2 : textL (l.drop i) = false := by rw [e, textL_cons, hx, Bool.and_false, Bool.false_and]
            rw [e2]; exact Ev.neg (by decide) (Ev.now _)
      · have e2 : textL (l.drop i) = false := by rw [e, textL_cons, decide_eq_false h5]; rfl
        rw [e2]
        refine Ev.step (f := fun _ => some false) (fun k => ?_) (Ev.now _)
        simp only [laws_text9.l0]; rw [if_pos (by omega), if_pos (by omega), if_pos (by omega), hr, if_pos (by omega)]
  have := key _ 0 rfl (Nat.zero_le _)
  simpa [laws_text9.f] using this
def joinL' (p : List UInt8) : List (List UInt8) → List UInt8
  | [] => []
  | [x] => x
  | x :: y :: l => x ++ p ++ joinL' p (y :: l)
/-! ### a text with another one in the place of each part -/
/-- The parts of s without p, joined by w. -/
def replL (p w s : List UInt8) : List UInt8 := joinL' w (splitL p s)
theorem replL_none {p w s : List UInt8} (hp : p ≠ []) (h : idx p s = none) : replL p w s = s := by
  unfold replL; rw [splitL_none hp h]; rfl
theorem replL_some {p w s : List UInt8} {j : Nat} (hp : p ≠ []) (h : idx p s = some j) : replL p w s = s.take j ++ w ++ replL p w (s.drop (j + p.length)) := by
  unfold replL; rw [splitL_some hp h]
  cases hx : splitL p (s.drop (j + p.length)) with
  | nil => exact absurd hx (splitL_ne _ _)
  | cons a l => rfl
def numsU (l : List UInt8) : List Int := l.map fun b => (b.toNat : Int)
theorem numsU_bytes (l : List UInt8) (s : ByteArray) : numsU l ++ bytesOf s = numsU (l ++ s.toList) := by
  unfold numsU bytesOf; rw [List.map_append, Lib.toList_data]
theorem numsU_len (l : List UInt8) : (numsU l).length = l.length := by unfold numsU; rw [List.length_map]
theorem strOf_numsU (l : List UInt8) : (strOfNums (numsU l)).toList = l := by
  rw [show strOfNums (numsU l) = ⟨l.toArray⟩ from Lib.Lz.strOfNums_map l, tl_mk]

theorem zz_ev (s p : ByteArray) (hs : s.size ≤ 1000) (hp : p.size ≤ 1000) : Ev (fun k => sprig_zzIndex.f k s p) (at_ 0 (idx p.toList s.toList)) := by
  have hl := len_eq s; have hl' := len_eq p
  have := search (fun k x => sprig_zzIndex.l0 k s p x) s.toList p.toList (by omega) (by omega) (fun k x => by
    simp only [sprig_zzIndex.l0, tl_extract, hl, hl']) 0 (.inl (Nat.zero_le _)) (by omega)
  simpa [sprig_zzIndex.f] using this
theorem place_ev (p s : ByteArray) (i : Nat) (hs : s.size ≤ 100000) (hp : p.size ≤ 100000) (hi : i ≤ s.toList.length ∨ p.toList ≠ []) (hi' : i ≤ 1000000) : Ev (fun k => spec_Place.f k p s (i : Int)) (at_ i (idx p.toList (s.toList.drop i))) := by
  have hl := len_eq s; have hl' := len_eq p
  exact search (fun k x => spec_Place.l0 k p s x) s.toList p.toList (by omega) (by omega) (fun k x => by
    simp only [spec_Place.l0, tl_extract, hl, hl']) i hi (by omega)

theorem repl_ev (s p w : ByteArray) (hs : s.size ≤ 500) (hp : p.size ≤ 500) (hw : w.size ≤ 500) (hp0 : p.toList ≠ []) :
    ∃ r : ByteArray, Ev (fun k => impl_ReplaceAll.f k p w s) r ∧ r.toList = replL p.toList w.toList s.toList := by
  have hl := len_eq s; have hl' := len_eq p
  have hpp := List.length_pos_iff.2 hp0
  have hpz : ¬ (p.size : Int) = 0 := by omega
  have key : ∀ (d i c : Nat) (acc : List UInt8), s.size - i ≤ d → i ≤ s.size → acc.length + d * 1000 ≤ 1000000 → c + d ≤ 100000 → ∃ r : ByteArray, Ev (fun k => sprig_zzReplace.l0 k s p w (-1) (numsU acc) (i : Int) (c : Int)) r ∧ r.toList = acc ++ replL p.toList w.toList (s.toList.drop i) := by
    intro d
    induction d with
    | zero =>
      intro i c acc hd hi ha hc
      have e : s.toList.drop i = [] := List.drop_eq_nil_of_le (by omega)
      have hx : idx p.toList (s.toList.drop i) = none := by rw [e, idx, if_neg hp0]
      have z := size_extract s i s.size hi (Nat.le_refl _)
      refine ⟨strOfNums (numsU acc ++ bytesOf (s.extract i s.size)), Ev.step (fun k => by simp only [sprig_zzReplace.l0]; rw [if_pos (by decide)]) ?_, ?_⟩
      · refine Ev.step (fun k => by simp only [sprig_zzReplace.j1]; rw [if_pos True.intro, if_neg hpz, if_pos (Int.natCast_nonneg i), if_pos (Int.ofNat_le.2 hi)]) ?_
        rw [Int.toNat_natCast]
        refine Ev.andThen (zz_ev (s.extract i s.size) p (by omega) (by omega)) ?_
        rw [extract_self, hx, show at_ 0 none = -1 from rfl]
        refine Ev.pos (by decide) (Ev.pos ?_ (Ev.now _))
        rw [numsU_len]; omega
      · rw [numsU_bytes, strOf_numsU, extract_self, replL_none hp0 hx]
    | succ d ih =>
      intro i c acc hd hi ha hc
      have z := size_extract s i s.size hi (Nat.le_refl _)
      cases hx : idx p.toList (s.toList.drop i) with
      | none =>
        refine ⟨strOfNums (numsU acc ++ bytesOf (s.extract i s.size)), Ev.step (fun k => by simp only [sprig_zzReplace.l0]; rw [if_pos (by decide)]) ?_, ?_⟩
        · refine Ev.step (fun k => by simp only [sprig_zzReplace.j1]; rw [if_pos True.intro, if_neg hpz, if_pos (Int.natCast_nonneg i), if_pos (Int.ofNat_le.2 hi)]) ?_
          rw [Int.toNat_natCast]
          refine Ev.andThen (zz_ev (s.extract i s.size) p (by omega) (by omega)) ?_
          rw [extract_self, hx, show at_ 0 none = -1 from rfl]
          refine Ev.pos (by decide) (Ev.pos ?_ (Ev.now _))
          rw [numsU_len]; omega
        · rw [numsU_bytes, strOf_numsU, extract_self, replL_none hp0 hx]
      | some j =>
        have hj := (idx_some hx).1
        rw [List.length_drop] at hj
        have zj := size_extract s i (i + j) (by omega) (by omega)
        have zt : (s.extract i (i + j)).toList.length = j := by rw [← len_eq, zj]; omega
        obtain ⟨r, hr1, hr2⟩ := ih (i + j + p.size) (c + 1) (acc ++ (s.extract i (i + j)).toList ++ w.toList) (by omega) (by omega) (by
          have hlw := len_eq w
          rw [List.length_append, List.length_append, zt]; omega) (by omega)
        refine ⟨r, Ev.step (fun k => by simp only [sprig_zzReplace.l0]; rw [if_pos (by decide)]) ?_, ?_⟩
        · refine Ev.step (fun k => by simp only [sprig_zzReplace.j1]; rw [if_pos True.intro, if_neg hpz, if_pos (Int.natCast_nonneg i), if_pos (Int.ofNat_le.2 hi)]) ?_
          rw [Int.toNat_natCast]
          refine Ev.andThen (zz_ev (s.extract i s.size) p (by omega) (by omega)) ?_
          rw [extract_self, hx, show at_ 0 (some j) = ((j : Nat) : Int) from rfl]
          rw [wadd _ _ (by omega), wsucc _ (by omega), wadd _ _ (by omega)]
          refine Ev.neg (by omega) (Ev.pos (by omega) (Ev.pos (by omega) (Ev.pos (by rw [numsU_len, Int.toNat_natCast, zj]; omega) ?_)))
          rw [Int.toNat_natCast]
          refine Ev.thenC rfl ?_
          refine Ev.pos (by rw [numsU_bytes, numsU_len, List.length_append, zt]; omega) ?_
          rw [numsU_bytes, numsU_bytes]
          exact hr1
        · rw [hr2, replL_some hp0 hx, tl_extract, List.drop_drop, show i + j - i = j by omega, show i + (j + p.toList.length) = i + j + p.size by omega]
          simp only [List.append_assoc]
  obtain ⟨r, h1, h2⟩ := key s.size 0 0 [] (by omega) (Nat.zero_le _) (by simp; omega) (by omega)
  refine ⟨r, ?_, by simpa using h2⟩
  unfold impl_ReplaceAll.f sprig_Replace.f sprig_replace.f sprig_zzReplace.f
  exact Ev.andThen (Ev.andThen (Ev.andThen h1 (Ev.now _)) (Ev.now _)) (Ev.now _)

theorem srepl_ev (s p w : ByteArray) (hs : s.size ≤ 500) (hp : p.size ≤ 500) (hw : w.size ≤ 500) (hp0 : p.toList ≠ []) :
    ∃ r : ByteArray, Ev (fun k => spec_ReplaceAll.f k p w s) r ∧ r.toList = replL p.toList w.toList s.toList := by
  have hl := len_eq s; have hl' := len_eq p
  have hpp := List.length_pos_iff.2 hp0
  have key : ∀ (d i : Nat) (acc : ByteArray), s.size - i ≤ d → i ≤ s.size → acc.size + d * 1000 ≤ 1000000 → ∃ r : ByteArray, Ev (fun k => spec_ReplaceAll.l0 k p w s acc (i : Int)) r ∧ r.toList = acc.toList ++ replL p.toList w.toList (s.toList.drop i) := by
    intro d
    induction d with
    | zero =>
      intro i acc hd hi ha
      have e : s.toList.drop i = [] := List.drop_eq_nil_of_le (by omega)
      have hx : idx p.toList (s.toList.drop i) = none := by rw [e, idx, if_neg hp0]
      have z := size_extract s i s.size hi (Nat.le_refl _)
      have c4 : acc.size + (s.extract i s.size).size ≤ 9223372036854775807 := by
        clear hx
        have ha' : acc.size ≤ 1000000 := Nat.le_trans (Nat.le_add_right _ _) ha
        clear ha
        omega
      refine ⟨acc ++ s.extract i s.size, Ev.step (fun k => by simp only [spec_ReplaceAll.l0]; rfl) ?_, ?_⟩
      · refine Ev.andThen (place_ev p s i (by omega) (by omega) (.inr hp0) (by omega)) ?_
        rw [hx, show at_ i none = -1 from rfl]
        refine Ev.congr (f := fun _ => some (acc ++ s.extract i s.size)) (fun k => ?_) (Ev.now _)
        rw [if_pos (by decide), if_pos (Int.natCast_nonneg i), if_pos (Int.ofNat_le.2 hi), Int.toNat_natCast, if_pos c4]
      · rw [tl_append, extract_self, replL_none hp0 hx]
    | succ d ih =>
      intro i acc hd hi ha
      have z := size_extract s i s.size hi (Nat.le_refl _)
      have c4 : acc.size + (s.extract i s.size).size ≤ 9223372036854775807 := by
        have ha' : acc.size ≤ 1000000 := Nat.le_trans (Nat.le_add_right _ _) ha
        clear ha
        omega
      cases hx : idx p.toList (s.toList.drop i) with
      | none =>
        refine ⟨acc ++ s.extract i s.size, Ev.step (fun k => by simp only [spec_ReplaceAll.l0]; rfl) ?_, ?_⟩
        · refine Ev.andThen (place_ev p s i (by omega) (by omega) (.inr hp0) (by omega)) ?_
          rw [hx, show at_ i none = -1 from rfl]
          refine Ev.congr (f := fun _ => some (acc ++ s.extract i s.size)) (fun k => ?_) (Ev.now _)
          rw [if_pos (by decide), if_pos (Int.natCast_nonneg i), if_pos (Int.ofNat_le.2 hi), Int.toNat_natCast, if_pos c4]
        · rw [tl_append, extract_self, replL_none hp0 hx]
      | some j =>
        have hj := (idx_some hx).1
        rw [List.length_drop] at hj
        have zj := size_extract s i (j + i) (by omega) (by omega)
        have z1 := size_append (s.extract i (j + i)) w
        have z2 := size_append acc (s.extract i (j + i) ++ w)
        obtain ⟨r, hr1, hr2⟩ := ih (j + i + p.size) (acc ++ (s.extract i (j + i) ++ w)) (by omega) (by omega) (by omega)
        refine ⟨r, Ev.step (fun k => by simp only [spec_ReplaceAll.l0]; rfl) ?_, ?_⟩
        · refine Ev.andThen (place_ev p s i (by omega) (by omega) (.inr hp0) (by omega)) ?_
          rw [hx, show at_ i (some j) = ((j + i : Nat) : Int) from rfl, wadd _ _ (by omega), Int.toNat_natCast, Int.toNat_natCast]
          exact Ev.neg (by omega) (Ev.pos (by omega) (Ev.pos (by omega) (Ev.pos (by omega) (Ev.pos (by omega) (Ev.pos (by omega) hr1)))))
        · rw [hr2, replL_some hp0 hx, tl_append, tl_append, tl_extract, List.drop_drop, show j + i - i = j by omega, show i + (j + p.toList.length) = j + i + p.size by omega]
          simp only [List.append_assoc]
  obtain ⟨r, h1, h2⟩ := key s.size 0 ⟨#[]⟩ (by omega) (Nat.zero_le _) (by show 0 + s.size * 1000 ≤ 1000000; omega)
  exact ⟨r, h1, by simpa [tl_nil] using h2⟩

theorem FnReplaceAll : laws_FnReplaceAll.Pure := by
  intro p w s hp hw hs
  apply Ev.rounds
  have big : Ev (fun k => laws_FnReplaceAll.j0 k p w s true) true := Ev.step (f := fun _ => some true) (fun k => by simp only [laws_FnReplaceAll.j0, if_true]) (Ev.now _)
  have big1 : Ev (fun k => laws_FnReplaceAll.j1 k p w s true) true := Ev.step (f := fun _ => some true) (fun k => by simp only [laws_FnReplaceAll.j1, if_true]) (Ev.now _)
  unfold laws_FnReplaceAll.f
  by_cases h1 : (p.size : Int) > 2147483647
  · exact Ev.pos h1 big
  refine Ev.neg h1 ?_
  by_cases h2 : (w.size : Int) > 2147483647
  · exact Ev.pos h2 big
  refine Ev.neg h2 ?_
  by_cases h3 : (s.size : Int) > 2147483647
  · rw [decide_eq_true h3]; exact big
  rw [decide_eq_false h3]
  refine Ev.step (fun k => by simp only [laws_FnReplaceAll.j0]; rw [if_neg (by decide)]) ?_
  refine Ev.andThen (text_ev [p, w, s] (by simp)) ?_
  cases htx : textL [p, w, s] with
  | false => exact Ev.neg (by decide) big1
  | true =>
    refine Ev.pos rfl ?_
    simp only [textL, List.all_cons, List.all_nil, Bool.and_true, Bool.and_eq_true, decide_eq_true_eq] at htx
    obtain ⟨⟨z1, _⟩, ⟨z2, _⟩, ⟨z3, _⟩⟩ := htx
    by_cases hp0 : p.toList = []
    · exact Ev.pos hp0 big1
    refine Ev.neg hp0 ?_
    cases hb : decide (wrap64 ((s.size : Int) * (w.size : Int)) > 20000) with
    | true => exact big1
    | false =>
      refine Ev.step (fun k => by simp only [laws_FnReplaceAll.j1]; rw [if_neg (by decide)]) ?_
      obtain ⟨r, a1, a2⟩ := repl_ev s p w z3 z1 z2 hp0
      obtain ⟨r', b1, b2⟩ := srepl_ev s p w z3 z1 z2 hp0
      obtain ⟨q, c1, c2⟩ := repl_ev (⟨#[97]⟩ : ByteArray) (⟨#[97]⟩ : ByteArray) (⟨#[98]⟩ : ByteArray) (by decide) (by decide) (by decide) (by rw [Lib.toList_data]; simp)
      refine Ev.andThen a1 (Ev.andThen b1 (Ev.pos (a2.trans b2.symm) (Ev.andThen c1 (Ev.const ?_))))
      rw [c2]
      have e1 : (⟨#[97]⟩ : ByteArray).toList = [97] := by rw [Lib.toList_data]
      have e2 : (⟨#[98]⟩ : ByteArray).toList = [98] := by rw [Lib.toList_data]
      rw [e1, e2]; decide

end Go.Proofs.YtjpocldnibmopaaDoor.Pure
