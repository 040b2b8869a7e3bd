/- FnWrapLines, as a plain statement: no line is longer than asked for, and all but blanks stays. -/
import Derived.Test.YtpkdoinofenahaaDoorPFnWrapLinesx1
import Derived.Test.YtpkdoinofenahaaDoorLines
import Derived.Test.YtpkdoinofenahaaDoorTxt
namespace Go.Proofs.YtpkdoinofenahaaDoor.Pure
open Go.RowKit Go.Proofs.YtpkdoinofenahaaDoor.PFnWrapLines Go.Proofs.YtpkdoinofenahaaDoorW.PrintWords Go.Proofs.YtpkdoinofenahaaDoorW.PrintLast Go.Proofs.YtpkdoinofenahaaDoor.Txt Go.Proofs.YtpkdoinofenahaaDoor

/-! ### texts of ASCII -/
def asciiL (s : List UInt8) : Bool := s.all (· < 128)
theorem asciiL_cons (c : UInt8) (s : List UInt8) : asciiL (c :: s) = (decide (c < 128) && asciiL s) := rfl
theorem ascii_ev (s : ByteArray) (hs : s.size ≤ 140737488351232) : Ev (fun k => spec_ASCII.f k s) (asciiL s.toList) := by
  have hl := len_eq s
  have key : ∀ (d i : Nat), s.toList.length - i = d → i ≤ s.toList.length → Ev (fun k => spec_ASCII.l0 k s (i : Int)) (asciiL (s.toList.drop i)) := by
    intro d
    induction d with
    | zero =>
      intro i hd hi
      rw [List.drop_eq_nil_of_le (by omega)]
      refine Ev.step (f := fun _ => some true) (fun k => ?_) (Ev.now _)
      simp only [spec_ASCII.l0]; rw [if_neg (by omega)]
    | succ d ih =>
      intro i hd hi
      have hlt : i < s.toList.length := by omega
      have e : s.toList.drop i = s.toList[i] :: s.toList.drop (i + 1) := List.drop_eq_getElem_cons hlt
      have hb := bt_get s (i : Int) (by simpa using hlt)
      simp only [Int.toNat_natCast] at hb
      by_cases hc : s.toList[i] < 128
      · have hc' : ¬ (bt s (i : Int) ≥ 128) := by rw [hb]; have := UInt8.lt_iff_toNat_lt.1 hc; simp at this; omega
        have e2 : asciiL (s.toList.drop i) = asciiL (s.toList.drop (i + 1)) := by rw [e, asciiL_cons, decide_eq_true hc, Bool.true_and]
        rw [e2]
        refine Ev.step (f := fun k => spec_ASCII.l0 k s ((i + 1 : Nat) : Int)) (fun k => ?_) (ih (i + 1) (by omega) (by omega))
        simp only [spec_ASCII.l0]; rw [if_pos (by omega), if_pos (by omega), if_neg hc', w64 (by omega) (by omega)]; rfl
      · have hc' : bt s (i : Int) ≥ 128 := by rw [hb]; have := fun h => hc (UInt8.lt_iff_toNat_lt.2 h); simp at this; omega
        have e2 : asciiL (s.toList.drop i) = false := by rw [e, asciiL_cons, decide_eq_false hc, Bool.false_and]
        rw [e2]
        refine Ev.step (f := fun _ => some false) (fun k => ?_) (Ev.now _)
        simp only [spec_ASCII.l0]; rw [if_pos (by omega), if_pos (by omega), if_pos hc']
  have := key _ 0 rfl (Nat.zero_le _)
  simpa [spec_ASCII.f] using this
/-- Are all of these looked at? -/
def plainL (l : List ByteArray) : Bool := l.all fun s => s.size ≤ 500 && asciiL s.toList
theorem plainL_cons (s : ByteArray) (l : List ByteArray) : plainL (s :: l) = ((decide (s.size ≤ 500) && asciiL s.toList) && plainL l) := rfl
theorem plain_ev (l : List ByteArray) (hl : l.length ≤ 1000) : Ev (fun k => laws_plain9.f k l) (plainL l) := by
  have key : ∀ (d i : Nat), l.length - i = d → i ≤ l.length → Ev (fun k => laws_plain9.l0 k l (l.length : Int) (i : Int)) (plainL (l.drop i)) := by
    intro d
    induction d with
    | zero =>
      intro i hd hi
      rw [List.drop_eq_nil_of_le (by omega)]
      refine Ev.step (f := fun _ => some true) (fun k => ?_) (Ev.now _)
      simp only [laws_plain9.l0]; rw [if_neg (by omega)]
    | succ d ih =>
      intro i hd hi
      have hlt : i < l.length := by omega
      have e : l.drop i = l[i] :: l.drop (i + 1) := List.drop_eq_getElem_cons hlt
      have hr : rdOf ByteArray.empty l (i : Int) = l[i] := by simp [rdOf, List.getElem?_eq_getElem hlt]
      by_cases h5 : l[i].size ≤ 500
      · have ha := ascii_ev l[i] (by omega)
        refine Ev.step (f := fun k => (spec_ASCII.f k l[i]).bind fun t => if t = true then laws_plain9.l0 k l (l.length : Int) ((i + 1 : Nat) : Int) else some false) (fun k => ?_) ?_
        · simp only [laws_plain9.l0]; rw [if_pos (by omega), if_pos (by omega), if_pos (by omega), hr, if_neg (by omega), w64 (by omega) (by omega)]; rfl
        · refine Ev.andThen ha ?_
          cases hx : asciiL l[i].toList with
          | true =>
            have e2 : plainL (l.drop i) = plainL (l.drop (i + 1)) := by rw [e, plainL_cons, hx, decide_eq_true h5]; rfl
            rw [e2]; exact Ev.pos rfl (ih (i + 1) (by omega) (by omega))
          | false =>
            have e2 : plainL (l.drop i) = false := by rw [e, plainL_cons, hx, Bool.and_false, Bool.false_and]
            rw [e2]; exact Ev.neg (by decide) (Ev.now _)
      · have e2 : plainL (l.drop i) = false := by rw [e, plainL_cons, decide_eq_false h5]; rfl
        rw [e2]
        refine Ev.step (f := fun _ => some false) (fun k => ?_) (Ev.now _)
        simp only [laws_plain9.l0]; rw [if_pos (by omega), if_pos (by omega), if_pos (by omega), hr, if_pos (by omega)]
  have := key _ 0 rfl (Nat.zero_le _)
  simpa [laws_plain9.f] using this
def joinL' (p : List UInt8) : List (List UInt8) → List UInt8
  | [] => []
  | [x] => x
  | x :: y :: l => x ++ p ++ joinL' p (y :: l)
/-! ### a text with another one in the place of each part -/
/-- The parts of s without p, joined by w. -/
def replL (p w s : List UInt8) : List UInt8 := joinL' w (splitL p s)
theorem replL_none {p w s : List UInt8} (hp : p ≠ []) (h : idx p s = none) : replL p w s = s := by
  unfold replL; rw [splitL_none hp h]; rfl
theorem replL_some {p w s : List UInt8} {j : Nat} (hp : p ≠ []) (h : idx p s = some j) : replL p w s = s.take j ++ w ++ replL p w (s.drop (j + p.length)) := by
  unfold replL; rw [splitL_some hp h]
  cases hx : splitL p (s.drop (j + p.length)) with
  | nil => exact absurd hx (splitL_ne _ _)
  | cons a l => rfl
/-! ### the parts of a text -/
theorem place_ev (p s : ByteArray) (i : Nat) (hs : s.size ≤ 100000) (hp : p.size ≤ 100000) (hi : i ≤ s.toList.length ∨ p.toList ≠ []) (hi' : i ≤ 1000000) : Ev (fun k => spec_Place.f k p s (i : Int)) (at_ i (idx p.toList (s.toList.drop i))) := by
  have hl := len_eq s; have hl' := len_eq p
  exact search (fun k x => spec_Place.l0 k p s x) s.toList p.toList (by omega) (by omega) (fun k x => by
    simp only [spec_Place.l0, tl_extract, hl, hl']) i hi (by omega)
theorem split_ev (p s : ByteArray) (hs : s.size ≤ 100000) (hp : p.size ≤ 100000) (hp0 : p.toList ≠ []) :
    ∃ l : List ByteArray, Ev (fun k => spec_SplitList.f k p s) l ∧ l.map ByteArray.toList = splitL p.toList s.toList := by
  have hl := len_eq s; have hl' := len_eq p
  have hpp := List.length_pos_iff.2 hp0
  have key : ∀ (d i : Nat) (acc : List ByteArray), s.size - i ≤ d → i ≤ s.size → acc.length + d ≤ 200000 → ∃ l : List ByteArray, Ev (fun k => spec_SplitList.l0 k p s acc (i : Int)) l ∧ l.map ByteArray.toList = acc.map ByteArray.toList ++ splitL p.toList (s.toList.drop i) := by
    intro d
    induction d with
    | zero =>
      intro i acc hd hi ha
      have e : s.toList.drop i = [] := List.drop_eq_nil_of_le (by omega)
      have hx : idx p.toList (s.toList.drop i) = none := by rw [e, idx, if_neg hp0]
      refine ⟨acc ++ [s.extract i s.size], Ev.step (fun k => by simp only [spec_SplitList.l0]; rfl) ?_, ?_⟩
      · refine Ev.andThen (place_ev p s i hs hp (.inr hp0) (by omega)) ?_
        rw [hx, show at_ i none = -1 from rfl]
        refine Ev.congr (f := fun _ => some (acc ++ [s.extract i s.size])) (fun k => ?_) (Ev.now _)
        rw [if_pos (show (-1 : Int) < 0 by decide), if_pos (show 0 ≤ (i : Int) by omega), if_pos (show (i : Int) ≤ (s.size : Int) by omega), if_pos (show acc.length < 8796093022208 by omega), Int.toNat_natCast]
      · rw [splitL_none hp0 hx, List.map_append, List.map_singleton, extract_self]
    | succ d ih =>
      intro i acc hd hi ha
      cases hx : idx p.toList (s.toList.drop i) with
      | none =>
        refine ⟨acc ++ [s.extract i s.size], Ev.step (fun k => by simp only [spec_SplitList.l0]; rfl) ?_, ?_⟩
        · refine Ev.andThen (place_ev p s i hs hp (.inr hp0) (by omega)) ?_
          rw [hx, show at_ i none = -1 from rfl]
          refine Ev.congr (f := fun _ => some (acc ++ [s.extract i s.size])) (fun k => ?_) (Ev.now _)
          rw [if_pos (show (-1 : Int) < 0 by decide), if_pos (show 0 ≤ (i : Int) by omega), if_pos (show (i : Int) ≤ (s.size : Int) by omega), if_pos (show acc.length < 8796093022208 by omega), Int.toNat_natCast]
        · rw [splitL_none hp0 hx, List.map_append, List.map_singleton, extract_self]
      | some j =>
        have hj := (idx_some hx).1
        rw [List.length_drop] at hj
        have c1 : ¬ ((j + i : Nat) : Int) < 0 := Int.not_lt.2 (Int.natCast_nonneg _)
        have c2 : 0 ≤ (i : Int) := Int.natCast_nonneg _
        have c3 : (i : Int) ≤ ((j + i : Nat) : Int) := Int.ofNat_le.2 (Nat.le_add_left _ _)
        have c4 : ((j + i : Nat) : Int) ≤ (s.size : Int) := Int.ofNat_le.2 (by omega)
        have c5 : acc.length < 8796093022208 := by omega
        obtain ⟨l, hl1, hl2⟩ := ih (j + i + p.size) (acc ++ [s.extract i (j + i)]) (by omega) (by omega) (by simp; omega)
        refine ⟨l, Ev.step (fun k => by simp only [spec_SplitList.l0]; rfl) ?_, ?_⟩
        · refine Ev.andThen (place_ev p s i hs hp (.inr hp0) (by omega)) ?_
          rw [hx]
          rw [show at_ i (some j) = ((j + i : Nat) : Int) from rfl]
          rw [wadd _ _ (by omega), Int.toNat_natCast, Int.toNat_natCast]
          refine Ev.congr (fun k => ?_) hl1
          rw [if_neg c1, if_pos c2, if_pos c3, if_pos c4, if_pos c5]
        · rw [hl2, splitL_some hp0 hx, List.map_append, List.map_singleton, tl_extract, List.append_assoc, List.singleton_append]
          congr 2
          · congr 1; omega
          · rw [List.drop_drop]; congr 2; omega
  obtain ⟨l, h1, h2⟩ := key _ 0 [] (Nat.le_refl _) (Nat.zero_le _) (by simp; omega)
  exact ⟨l, by simpa [spec_SplitList.f] using h1, by simpa using h2⟩
theorem srepl_ev (s p w : ByteArray) (hs : s.size ≤ 500) (hp : p.size ≤ 500) (hw : w.size ≤ 500) (hp0 : p.toList ≠ []) :
    ∃ r : ByteArray, Ev (fun k => spec_ReplaceAll.f k p w s) r ∧ r.toList = replL p.toList w.toList s.toList := by
  have hl := len_eq s; have hl' := len_eq p
  have hpp := List.length_pos_iff.2 hp0
  have key : ∀ (d i : Nat) (acc : ByteArray), s.size - i ≤ d → i ≤ s.size → acc.size + d * 1000 ≤ 1000000 → ∃ r : ByteArray, Ev (fun k => spec_ReplaceAll.l0 k p w s acc (i : Int)) r ∧ r.toList = acc.toList ++ replL p.toList w.toList (s.toList.drop i) := by
    intro d
    induction d with
    | zero =>
      intro i acc hd hi ha
      have e : s.toList.drop i = [] := List.drop_eq_nil_of_le (by omega)
      have hx : idx p.toList (s.toList.drop i) = none := by rw [e, idx, if_neg hp0]
      have z := size_extract s i s.size hi (Nat.le_refl _)
      have c4 : acc.size + (s.extract i s.size).size ≤ 9223372036854775807 := by
        clear hx
        have ha' : acc.size ≤ 1000000 := Nat.le_trans (Nat.le_add_right _ _) ha
        clear ha
        omega
      refine ⟨acc ++ s.extract i s.size, Ev.step (fun k => by simp only [spec_ReplaceAll.l0]; rfl) ?_, ?_⟩
      · refine Ev.andThen (place_ev p s i (by omega) (by omega) (.inr hp0) (by omega)) ?_
        rw [hx, show at_ i none = -1 from rfl]
        refine Ev.congr (f := fun _ => some (acc ++ s.extract i s.size)) (fun k => ?_) (Ev.now _)
        rw [if_pos (by decide), if_pos (Int.natCast_nonneg i), if_pos (Int.ofNat_le.2 hi), Int.toNat_natCast, if_pos c4]
      · rw [tl_append, extract_self, replL_none hp0 hx]
    | succ d ih =>
      intro i acc hd hi ha
      have z := size_extract s i s.size hi (Nat.le_refl _)
      have c4 : acc.size + (s.extract i s.size).size ≤ 9223372036854775807 := by
        have ha' : acc.size ≤ 1000000 := Nat.le_trans (Nat.le_add_right _ _) ha
        clear ha
        omega
      cases hx : idx p.toList (s.toList.drop i) with
      | none =>
        refine ⟨acc ++ s.extract i s.size, Ev.step (fun k => by simp only [spec_ReplaceAll.l0]; rfl) ?_, ?_⟩
        · refine Ev.andThen (place_ev p s i (by omega) (by omega) (.inr hp0) (by omega)) ?_
          rw [hx, show at_ i none = -1 from rfl]
          refine Ev.congr (f := fun _ => some (acc ++ s.extract i s.size)) (fun k => ?_) (Ev.now _)
          rw [if_pos (by decide), if_pos (Int.natCast_nonneg i), if_pos (Int.ofNat_le.2 hi), Int.toNat_natCast, if_pos c4]
        · rw [tl_append, extract_self, replL_none hp0 hx]
      | some j =>
        have hj := (idx_some hx).1
        rw [List.length_drop] at hj
        have zj := size_extract s i (j + i) (by omega) (by omega)
        have z1 := size_append (s.extract i (j + i)) w
        have z2 := size_append acc (s.extract i (j + i) ++ w)
        obtain ⟨r, hr1, hr2⟩ := ih (j + i + p.size) (acc ++ (s.extract i (j + i) ++ w)) (by omega) (by omega) (by omega)
        refine ⟨r, Ev.step (fun k => by simp only [spec_ReplaceAll.l0]; rfl) ?_, ?_⟩
        · refine Ev.andThen (place_ev p s i (by omega) (by omega) (.inr hp0) (by omega)) ?_
          rw [hx, show at_ i (some j) = ((j + i : Nat) : Int) from rfl, wadd _ _ (by omega), Int.toNat_natCast, Int.toNat_natCast]
          exact Ev.neg (by omega) (Ev.pos (by omega) (Ev.pos (by omega) (Ev.pos (by omega) (Ev.pos (by omega) (Ev.pos (by omega) hr1)))))
        · rw [hr2, replL_some hp0 hx, tl_append, tl_append, tl_extract, List.drop_drop, show j + i - i = j by omega, show i + (j + p.toList.length) = j + i + p.size by omega]
          simp only [List.append_assoc]
  obtain ⟨r, h1, h2⟩ := key s.size 0 ⟨#[]⟩ (by omega) (Nat.zero_le _) (by show 0 + s.size * 1000 ≤ 1000000; omega)
  exact ⟨r, h1, by simpa [tl_nil] using h2⟩


theorem asciiB_of (s : ByteArray) (h : asciiL s.toList = true) : Giv.asciiB s := by
  intro c hc
  have := List.all_eq_true.1 h c hc
  have h2 := UInt8.lt_iff_toNat_lt.1 (by simpa using this : c < 128)
  simpa using h2
theorem repl_filter (l : List UInt8) : replL [32] [] l = l.filter Giv.nb := by
  induction l with
  | nil => exact replL_none (by simp) (Giv.idx_no 32 [] (by simp))
  | cons c t ih =>
    by_cases hc : c = 32
    · subst hc
      rw [replL_some (j := 0) (by simp) (idx_hit _ _ (by simp [List.isPrefixOf]))]
      show [] ++ [] ++ replL [32] [] t = _
      rw [List.filter_cons, ih]; rfl
    · have hm := idx_miss [32] c t (by simp [List.isPrefixOf, Ne.symm hc])
      have hn : Giv.nb c = true := by
        unfold Giv.nb
        have : ¬ c.toNat = 32 := fun e => hc (UInt8.toNat_inj.1 e)
        rw [beq_eq_false_iff_ne.2 this]; rfl
      rw [List.filter_cons, if_pos hn, ← ih]
      cases hx : idx [32] t with
      | none =>
        rw [hx] at hm
        rw [replL_none (by simp) hm, replL_none (by simp) hx]
      | some j =>
        rw [hx] at hm
        rw [replL_some (j := j + 1) (by simp) hm, replL_some (by simp) hx]
        simp
/-- How many bytes are no blanks. -/
def cntNb (l : List (List UInt8)) : Nat := (l.flatten.filter Giv.nb).length
theorem loop_ev (n : Nat) (s : ByteArray) (hs : s.size ≤ 500) (ls : List ByteArray) (hls : ls.length ≤ 100000) (hsz : ∀ x ∈ ls, x.size ≤ n ∧ x.size ≤ 500) (htot : cntNb (ls.map ByteArray.toList) = (s.toList.filter Giv.nb).length) :
    Ev (fun k => laws_FnWrapLines.l0 k (n : Int) s ls 0 (ls.length : Int) 0) true := by
  have hrp : ∀ x : ByteArray, x.size ≤ 500 → ∃ r : ByteArray, Ev (fun k => spec_ReplaceAll.f k (⟨#[32]⟩ : ByteArray) (⟨#[]⟩ : ByteArray) x) r ∧ r.size = (x.toList.filter Giv.nb).length := by
    intro x hx
    obtain ⟨r, h1, h2⟩ := srepl_ev x (⟨#[32]⟩ : ByteArray) (⟨#[]⟩ : ByteArray) hx (by decide) (by decide) (by rw [show (⟨#[32]⟩ : ByteArray).toList = [32] from tl_mk [32]]; simp)
    refine ⟨r, h1, ?_⟩
    rw [len_eq, h2, show (⟨#[32]⟩ : ByteArray).toList = [32] from tl_mk [32], tl_nil, repl_filter]
  have key : ∀ (d i : Nat) (a : Nat), ls.length - i = d → i ≤ ls.length → a ≤ 500 * i → a + cntNb ((ls.drop i).map ByteArray.toList) = (s.toList.filter Giv.nb).length → Ev (fun k => laws_FnWrapLines.l0 k (n : Int) s ls (a : Int) (ls.length : Int) (i : Int)) true := by
    intro d
    induction d with
    | zero =>
      intro i a hd hi ha ht
      rw [List.drop_eq_nil_of_le (by omega)] at ht
      have ht2 : a = (s.toList.filter Giv.nb).length := by simpa [cntNb] using ht
      obtain ⟨r, h1, h2⟩ := hrp s hs
      refine Ev.step (f := fun k => (spec_ReplaceAll.f k (⟨#[32]⟩ : ByteArray) (⟨#[]⟩ : ByteArray) s).bind fun t135 => (some ((a : Int) == (t135.size : Int)))) (fun k => ?_) (Ev.andThen h1 (Ev.const ?_))
      · simp only [laws_FnWrapLines.l0]; rw [if_neg (by omega)]
      · rw [h2, ← ht2]; simp
    | succ d ih =>
      intro i a hd hi ha ht
      have hlt : i < ls.length := by omega
      have e : ls.drop i = ls[i] :: ls.drop (i + 1) := List.drop_eq_getElem_cons hlt
      have hr : rdOf ByteArray.empty ls (i : Int) = ls[i] := by simp [rdOf, List.getElem?_eq_getElem hlt]
      obtain ⟨z1, z2⟩ := hsz ls[i] (List.getElem_mem hlt)
      obtain ⟨r, h1, h2⟩ := hrp ls[i] z2
      have hfl : (ls[i].toList.filter Giv.nb).length ≤ 500 := Nat.le_trans (List.length_filter_le _ _) (by rw [← len_eq]; exact z2)
      have ht2 : (a + r.size) + cntNb ((ls.drop (i + 1)).map ByteArray.toList) = (s.toList.filter Giv.nb).length := by
        rw [e] at ht
        unfold cntNb at ht ⊢
        rw [List.map_cons, List.flatten_cons, List.filter_append, List.length_append, ← h2] at ht
        omega
      have hrz : r.size ≤ 500 := by rw [h2]; exact hfl
      have hi2 := ih (i + 1) (a + r.size) (by omega) (by omega) (by omega) ht2
      refine Ev.step (f := fun k => (spec_ReplaceAll.f k (⟨#[32]⟩ : ByteArray) (⟨#[]⟩ : ByteArray) ls[i]).bind fun t134 => (laws_FnWrapLines.l0 k (n : Int) s ls (wrap64 ((a : Int) + (t134.size : Int))) (ls.length : Int) ((i + 1 : Nat) : Int))) (fun k => ?_) (Ev.andThen h1 ?_)
      · simp only [laws_FnWrapLines.l0]; rw [if_pos (by omega), if_pos (by omega), if_pos (by omega), hr, if_neg (by omega), wsucc _ (by omega)]
      · rw [wadd _ _ (by omega)]; exact hi2
  exact key _ 0 0 rfl (Nat.zero_le _) (Nat.zero_le _) (by simpa using htot)

theorem pieces_len (n : Nat) : ∀ f l, (Giv.pieces n f l).length ≤ f + 1 ∧ (Giv.joinN (Giv.pieces n f l)).length ≤ l.length + f := by
  intro f
  induction f with
  | zero => intro l; simp [Giv.pieces, Giv.joinN]
  | succ f ih =>
    intro l
    rw [Giv.pieces]
    by_cases h : n < l.length
    · rw [if_pos h]
      by_cases h32 : (l.getD 0 0).toNat = 32
      · rw [if_pos h32]
        obtain ⟨a, b⟩ := ih (l.drop 1)
        rw [List.length_drop] at b
        exact ⟨by omega, by omega⟩
      · rw [if_neg h32]
        cases hk : Giv.lastK l (n + 1) with
        | some k =>
          obtain ⟨a, b⟩ := ih (l.drop (k + 1))
          rw [List.length_drop] at b
          show (l.take k :: Giv.pieces n f (l.drop (k + 1))).length ≤ f + 1 + 1 ∧ (Giv.joinN (l.take k :: Giv.pieces n f (l.drop (k + 1)))).length ≤ l.length + (f + 1)
          rw [Giv.joinN_cons _ _ (Giv.pieces_ne n f _), List.length_cons, List.length_append, List.length_cons, List.length_take]
          exact ⟨by omega, by omega⟩
        | none =>
          obtain ⟨a, b⟩ := ih (l.drop n)
          rw [List.length_drop] at b
          show (l.take n :: Giv.pieces n f (l.drop n)).length ≤ f + 1 + 1 ∧ (Giv.joinN (l.take n :: Giv.pieces n f (l.drop n))).length ≤ l.length + (f + 1)
          rw [Giv.joinN_cons _ _ (Giv.pieces_ne n f _), List.length_cons, List.length_append, List.length_cons, List.length_take]
          exact ⟨by omega, by omega⟩
    · rw [if_neg h]
      exact ⟨by simp, by show l.length ≤ _; omega⟩

theorem FnWrapLines : laws_FnWrapLines.Pure := by
  intro wide s hw hs
  apply Ev.rounds
  unfold laws_FnWrapLines.f
  have jtrue : Ev (fun k => laws_FnWrapLines.j0 k wide s true) true := Ev.step (f := fun _ => some true) (fun k => by simp only [laws_FnWrapLines.j0]; rfl) (Ev.now _)
  by_cases h1 : (s.size : Int) > 2147483647
  · exact Ev.pos h1 (Ev.now _)
  refine Ev.neg h1 (Ev.andThen (plain_ev [s] (by simp)) ?_)
  cases htx : plainL [s] with
  | false => exact Ev.neg (by decide) jtrue
  | true =>
    refine Ev.pos rfl ?_
    simp only [plainL, List.all_cons, List.all_nil, Bool.and_true, Bool.and_eq_true, decide_eq_true_eq] at htx
    obtain ⟨z1, u1⟩ := htx
    have ha := asciiB_of s u1
    by_cases hw1 : wide < 1
    · exact Ev.pos hw1 jtrue
    refine Ev.neg hw1 ?_
    by_cases hw2 : wide > 200
    · exact Ev.pos hw2 jtrue
    refine Ev.neg hw2 ?_
    obtain ⟨n, rfl⟩ : ∃ n : Nat, wide = (n : Int) := ⟨wide.toNat, by omega⟩
    have h10 : (⟨#[10]⟩ : ByteArray).toList = [10] := tl_mk [10]
    have hl := len_eq s
    have hh : Ev (fun k => spec_Holds.f k (⟨#[10]⟩ : ByteArray) s) (decide (at_ 0 (idx [10] s.toList) ≥ 0)) := by
      unfold spec_Holds.f
      have := place_ev (⟨#[10]⟩ : ByteArray) s 0 (by omega) (by decide) (.inl (Nat.zero_le _)) (by omega)
      rw [h10, List.drop_zero] at this
      exact Ev.andThen this (Ev.now _)
    refine Ev.andThen hh ?_
    cases hx : idx [10] s.toList with
    | some j =>
      have : decide (at_ 0 (some j) ≥ 0) = true := by simp [at_]
      rw [this]; exact jtrue
    | none =>
      have : decide (at_ 0 none ≥ 0) = false := by simp [at_]
      rw [this]
      have hno : ∀ c ∈ s.toList, c ≠ 10 := by
        intro c hc e
        subst e
        obtain ⟨i, hi, hci⟩ := List.getElem_of_mem hc
        refine idx_none hx i (by omega) ?_
        rw [pre_iff, List.drop_eq_getElem_cons hi, hci]; rfl
      have f1 : impl_WrapWith.f (n : Int) (⟨#[10]⟩ : ByteArray) s = some (Giv.wrapS s (n : Int) (⟨#[10]⟩ : ByteArray) true) := by
        unfold impl_WrapWith.f sprig_WrapWith.f sprig_wrapWith.f Giv.goutils_WrapCustom.f
        rw [if_pos ⟨by omega, by decide, by omega, ha⟩]; rfl
      have hwn : Giv.wideN (n : Int) = n := by unfold Giv.wideN; rw [if_neg hw1, Int.toNat_natCast]
      have hW : (Giv.wrapS s (n : Int) (⟨#[10]⟩ : ByteArray) true).toList = Giv.joinN (Giv.pieces n s.size s.toList) := by
        unfold Giv.wrapS Giv.endB
        rw [tl_mk, hwn, if_neg (by decide), h10, Giv.wrap_pieces]
      obtain ⟨p1, p2⟩ := Giv.pieces_ok n (by omega) s.size s.toList (by omega)
      obtain ⟨q1, q2⟩ := pieces_len n s.size s.toList
      have hWl : (Giv.joinN (Giv.pieces n s.size s.toList)).length ≤ 100000 := by omega
      obtain ⟨ls, g1, g2⟩ := split_ev (⟨#[10]⟩ : ByteArray) (Giv.wrapS s (n : Int) (⟨#[10]⟩ : ByteArray) true) (by rw [len_eq, hW]; exact hWl) (by decide) (by rw [h10]; simp)
      rw [h10, hW, Giv.split_join _ (Giv.pieces_ne _ _ _) (fun x hx c hc => hno c ((p1 x hx).2 c hc))] at g2
      refine Ev.step (f := fun k => ((impl_WrapWith.f (n : Int) (⟨#[10]⟩ : ByteArray) s).bind fun t128 => ((spec_SplitList.f k (⟨#[10]⟩ : ByteArray) t128).bind fun t129 => (laws_FnWrapLines.l0 k (n : Int) s t129 0 (t129.length : Int) 0)))) (fun k => by simp only [laws_FnWrapLines.j0]; rfl) ?_
      refine Ev.thenC f1 (Ev.andThen g1 (loop_ev n s z1 ls ?_ ?_ ?_))
      · have := congrArg List.length g2
        rw [List.length_map] at this
        omega
      · intro x hx
        have hm : x.toList ∈ Giv.pieces n s.size s.toList := by rw [← g2]; exact List.mem_map_of_mem hx
        have := (p1 _ hm).1
        rw [← len_eq] at this
        exact ⟨this, by omega⟩
      · rw [g2]; unfold cntNb; rw [p2]

end Go.Proofs.YtpkdoinofenahaaDoor.Pure
