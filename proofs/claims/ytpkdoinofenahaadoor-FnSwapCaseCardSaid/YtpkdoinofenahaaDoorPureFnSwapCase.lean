/- FnSwapCase, as a plain statement: capital letters for small ones, and small ones for capital ones; twice it is the text. -/
import Derived.Test.YtpkdoinofenahaaDoorPFnSwapCasex1
import Derived.Test.YtpkdoinofenahaaDoorTxt
namespace Go.Proofs.YtpkdoinofenahaaDoor.Pure
open Go.RowKit Go.Proofs.YtpkdoinofenahaaDoor.PFnSwapCase Go.Proofs.YtpkdoinofenahaaDoorW.PrintWords Go.Proofs.YtpkdoinofenahaaDoorW.PrintLast Go.Proofs.YtpkdoinofenahaaDoor.Txt Go.Proofs.YtpkdoinofenahaaDoor

/-! ### texts of ASCII -/
def asciiL (s : List UInt8) : Bool := s.all (· < 128)
theorem asciiL_cons (c : UInt8) (s : List UInt8) : asciiL (c :: s) = (decide (c < 128) && asciiL s) := rfl
theorem ascii_ev (s : ByteArray) (hs : s.size ≤ 140737488351232) : Ev (fun k => spec_ASCII.f k s) (asciiL s.toList) := by
  have hl := len_eq s
  have key : ∀ (d i : Nat), s.toList.length - i = d → i ≤ s.toList.length → Ev (fun k => spec_ASCII.l0 k s (i : Int)) (asciiL (s.toList.drop i)) := by
    intro d
    induction d with
    | zero =>
      intro i hd hi
      rw [List.drop_eq_nil_of_le (by omega)]
      refine Ev.step (f := fun _ => some true) (fun k => ?_) (Ev.now _)
      simp only [spec_ASCII.l0]; rw [if_neg (by omega)]
    | succ d ih =>
      intro i hd hi
      have hlt : i < s.toList.length := by omega
      have e : s.toList.drop i = s.toList[i] :: s.toList.drop (i + 1) := List.drop_eq_getElem_cons hlt
      have hb := bt_get s (i : Int) (by simpa using hlt)
      simp only [Int.toNat_natCast] at hb
      by_cases hc : s.toList[i] < 128
      · have hc' : ¬ (bt s (i : Int) ≥ 128) := by rw [hb]; have := UInt8.lt_iff_toNat_lt.1 hc; simp at this; omega
        have e2 : asciiL (s.toList.drop i) = asciiL (s.toList.drop (i + 1)) := by rw [e, asciiL_cons, decide_eq_true hc, Bool.true_and]
        rw [e2]
        refine Ev.step (f := fun k => spec_ASCII.l0 k s ((i + 1 : Nat) : Int)) (fun k => ?_) (ih (i + 1) (by omega) (by omega))
        simp only [spec_ASCII.l0]; rw [if_pos (by omega), if_pos (by omega), if_neg hc', w64 (by omega) (by omega)]; rfl
      · have hc' : bt s (i : Int) ≥ 128 := by rw [hb]; have := fun h => hc (UInt8.lt_iff_toNat_lt.2 h); simp at this; omega
        have e2 : asciiL (s.toList.drop i) = false := by rw [e, asciiL_cons, decide_eq_false hc, Bool.false_and]
        rw [e2]
        refine Ev.step (f := fun _ => some false) (fun k => ?_) (Ev.now _)
        simp only [spec_ASCII.l0]; rw [if_pos (by omega), if_pos (by omega), if_pos hc']
  have := key _ 0 rfl (Nat.zero_le _)
  simpa [spec_ASCII.f] using this
/-- Are all of these looked at? -/
def plainL (l : List ByteArray) : Bool := l.all fun s => s.size ≤ 500 && asciiL s.toList
theorem plainL_cons (s : ByteArray) (l : List ByteArray) : plainL (s :: l) = ((decide (s.size ≤ 500) && asciiL s.toList) && plainL l) := rfl
theorem plain_ev (l : List ByteArray) (hl : l.length ≤ 1000) : Ev (fun k => laws_plain9.f k l) (plainL l) := by
  have key : ∀ (d i : Nat), l.length - i = d → i ≤ l.length → Ev (fun k => laws_plain9.l0 k l (l.length : Int) (i : Int)) (plainL (l.drop i)) := by
    intro d
    induction d with
    | zero =>
      intro i hd hi
      rw [List.drop_eq_nil_of_le (by omega)]
      refine Ev.step (f := fun _ => some true) (fun k => ?_) (Ev.now _)
      simp only [laws_plain9.l0]; rw [if_neg (by omega)]
    | succ d ih =>
      intro i hd hi
      have hlt : i < l.length := by omega
      have e : l.drop i = l[i] :: l.drop (i + 1) := List.drop_eq_getElem_cons hlt
      have hr : rdOf ByteArray.empty l (i : Int) = l[i] := by simp [rdOf, List.getElem?_eq_getElem hlt]
      by_cases h5 : l[i].size ≤ 500
      · have ha := ascii_ev l[i] (by omega)
        refine Ev.step (f := fun k => (spec_ASCII.f k l[i]).bind fun t => if t = true then laws_plain9.l0 k l (l.length : Int) ((i + 1 : Nat) : Int) else some false) (fun k => ?_) ?_
        · simp only [laws_plain9.l0]; rw [if_pos (by omega), if_pos (by omega), if_pos (by omega), hr, if_neg (by omega), w64 (by omega) (by omega)]; rfl
        · refine Ev.andThen ha ?_
          cases hx : asciiL l[i].toList with
          | true =>
            have e2 : plainL (l.drop i) = plainL (l.drop (i + 1)) := by rw [e, plainL_cons, hx, decide_eq_true h5]; rfl
            rw [e2]; exact Ev.pos rfl (ih (i + 1) (by omega) (by omega))
          | false =>
            have e2 : plainL (l.drop i) = false := by rw [e, plainL_cons, hx, Bool.and_false, Bool.false_and]
            rw [e2]; exact Ev.neg (by decide) (Ev.now _)
      · have e2 : plainL (l.drop i) = false := by rw [e, plainL_cons, decide_eq_false h5]; rfl
        rw [e2]
        refine Ev.step (f := fun _ => some false) (fun k => ?_) (Ev.now _)
        simp only [laws_plain9.l0]; rw [if_pos (by omega), if_pos (by omega), if_pos (by omega), hr, if_pos (by omega)]
  have := key _ 0 rfl (Nat.zero_le _)
  simpa [laws_plain9.f] using this
/-! ### the reference's letters turned -/
theorem swapB_eq (c : UInt8) : (if Giv.highB c = c then Giv.lowB c else Giv.highB c) = Giv.swapB c := by
  unfold Giv.swapB
  by_cases h : 65 ≤ c.toNat ∧ c.toNat ≤ 90
  · rw [if_pos h]
    have : Giv.highB c = c := by unfold Giv.highB; rw [if_neg (by omega)]
    rw [if_pos this]
  · rw [if_neg h]
    split
    · rename_i e
      rw [e]; unfold Giv.lowB; rw [if_neg h]
    · rfl
theorem spec_swap_ev (s : ByteArray) (hs : s.size ≤ 1000) : ∃ r : ByteArray, Ev (fun k => spec_SwapCase.f k s) r ∧ r.toList = s.toList.map Giv.swapB := by
  have hl := len_eq s
  have key : ∀ (d i : Nat) (acc : ByteArray), s.size - i = d → i ≤ s.size → acc.size = i → ∃ r : ByteArray, Ev (fun k => spec_SwapCase.l0 k s acc (s.size : Int) (i : Int)) r ∧ r.toList = acc.toList ++ (s.toList.drop i).map Giv.swapB := by
    intro d
    induction d with
    | zero =>
      intro i acc hd hi ha
      refine ⟨acc, Ev.step (f := fun _ => some acc) (fun k => by simp only [spec_SwapCase.l0]; rw [if_neg (by omega)]) (Ev.now _), ?_⟩
      rw [List.drop_eq_nil_of_le (by omega)]; simp
    | succ d ih =>
      intro i acc hd hi ha
      have hlt : i < s.toList.length := by omega
      have e : s.toList.drop i = s.toList[i] :: s.toList.drop (i + 1) := List.drop_eq_getElem_cons hlt
      obtain ⟨c, hc⟩ : ∃ c, c = s.toList[i] := ⟨_, rfl⟩
      rw [← hc] at e
      have x1 : (s.extract i (i + 1)).toList = [c] := by rw [tl_extract, e, show i + 1 - i = 1 by omega]; rfl
      have z1 : (s.extract i (i + 1)).size = 1 := by rw [len_eq, x1]; rfl
      have f1 : Giv.spec_Upper.f (s.extract i (i + 1)) = some ⟨([c].map Giv.highB).toArray⟩ := by unfold Giv.spec_Upper.f; rw [if_pos (by omega), x1]
      have f2 : Giv.spec_Lower.f (s.extract i (i + 1)) = some ⟨([c].map Giv.lowB).toArray⟩ := by unfold Giv.spec_Lower.f; rw [if_pos (by omega), x1]
      have t1 : (⟨([c].map Giv.highB).toArray⟩ : ByteArray).toList = [Giv.highB c] := tl_mk _
      have t2 : (⟨([c].map Giv.lowB).toArray⟩ : ByteArray).toList = [Giv.lowB c] := tl_mk _
      have y1 : (⟨([c].map Giv.highB).toArray⟩ : ByteArray).size = 1 := rfl
      have y2 : (⟨([c].map Giv.lowB).toArray⟩ : ByteArray).size = 1 := rfl
      have hsw := swapB_eq c
      have fin : ∀ b : ByteArray, b.toList = [Giv.swapB c] → b.size = 1 → ∃ r : ByteArray, Ev (fun k => spec_SwapCase.l0 k s (acc ++ b) (s.size : Int) ((i + 1 : Nat) : Int)) r ∧ r.toList = acc.toList ++ (s.toList.drop i).map Giv.swapB := by
        intro b hb hb1
        obtain ⟨r, h1, h2⟩ := ih (i + 1) (acc ++ b) (by omega) (by omega) (by rw [size_append]; omega)
        refine ⟨r, h1, ?_⟩
        rw [h2, e, tl_append, hb, List.map_cons, List.append_assoc]; rfl
      have st : ∀ r, Ev (fun k => if ([Giv.highB c] : List UInt8) = [c] then (if acc.size + 1 ≤ 9223372036854775807 then spec_SwapCase.l0 k s (acc ++ ⟨([c].map Giv.lowB).toArray⟩) (s.size : Int) ((i + 1 : Nat) : Int) else none) else (if acc.size + 1 ≤ 9223372036854775807 then spec_SwapCase.l0 k s (acc ++ ⟨([c].map Giv.highB).toArray⟩) (s.size : Int) ((i + 1 : Nat) : Int) else none)) r → Ev (fun k => spec_SwapCase.l0 k s acc (s.size : Int) (i : Int)) r := by
        intro r h
        refine Ev.step (fun k => by simp only [spec_SwapCase.l0]; rw [wsucc _ (by omega), if_pos (by omega), if_pos (by omega), if_pos (by omega), if_pos (by omega), Int.toNat_natCast, Int.toNat_natCast, f1, f2]) ?_
        simp only [Option.bind_some, t1, x1, y1, y2]
        exact h
      by_cases hh : Giv.highB c = c
      · rw [if_pos hh] at hsw
        obtain ⟨r, h1, h2⟩ := fin ⟨([c].map Giv.lowB).toArray⟩ (by rw [t2, hsw]) y2
        exact ⟨r, st r (Ev.pos (by rw [hh]) (Ev.pos (by omega) h1)), h2⟩
      · rw [if_neg hh] at hsw
        obtain ⟨r, h1, h2⟩ := fin ⟨([c].map Giv.highB).toArray⟩ (by rw [t1, hsw]) y1
        exact ⟨r, st r (Ev.neg (fun e => hh (by injection e)) (Ev.pos (by omega) h1)), h2⟩
  obtain ⟨r, h1, h2⟩ := key _ 0 ⟨#[]⟩ rfl (Nat.zero_le _) rfl
  exact ⟨r, h1, by simpa [tl_nil] using h2⟩
theorem asciiB_of (s : ByteArray) (h : asciiL s.toList = true) : Giv.asciiB s := by
  intro c hc
  have := List.all_eq_true.1 h c hc
  have h2 := UInt8.lt_iff_toNat_lt.1 (by simpa using this : c < 128)
  simpa using h2
theorem swap_f (s : ByteArray) (hs : s.size ≤ 1000) (h : Giv.asciiB s) : impl_SwapCase.f s = some ⟨(s.toList.map Giv.swapB).toArray⟩ := by
  unfold impl_SwapCase.f sprig_SwapCase.f sprig_swapcase.f Giv.goutils_SwapCase.f; rw [if_pos ⟨hs, h⟩]; rfl
theorem swap_both (c : UInt8) (h : c.toNat < 128) : (Giv.swapB c).toNat < 128 ∧ Giv.swapB (Giv.swapB c) = c := by
  have : ∀ n : Fin 128, (Giv.swapB (UInt8.ofNat n.val)).toNat < 128 ∧ Giv.swapB (Giv.swapB (UInt8.ofNat n.val)) = UInt8.ofNat n.val := by decide +kernel
  have h2 := this ⟨c.toNat, h⟩
  simpa using h2
theorem FnSwapCase : laws_FnSwapCase.Pure := by
  intro s hs
  apply Ev.rounds
  unfold laws_FnSwapCase.f
  by_cases h1 : (s.size : Int) > 2147483647
  · exact Ev.pos h1 (Ev.now _)
  refine Ev.neg h1 ?_
  refine Ev.andThen (plain_ev [s] (by simp)) ?_
  cases htx : plainL [s] with
  | false => exact Ev.neg (by decide) (Ev.now _)
  | true =>
    refine Ev.pos rfl ?_
    simp only [plainL, List.all_cons, List.all_nil, Bool.and_true, Bool.and_eq_true, decide_eq_true_eq] at htx
    have z := htx.1
    have ha := asciiB_of s htx.2
    obtain ⟨r, h1, h2⟩ := spec_swap_ev s (by omega)
    have hA := swap_f (⟨#[97, 66]⟩ : ByteArray) (by decide) (by decide +kernel)
    have hf := swap_f s (by omega) ha
    have hs2 : (⟨(s.toList.map Giv.swapB).toArray⟩ : ByteArray).size ≤ 1000 := by rw [len_eq, tl_mk, List.length_map, ← len_eq]; omega
    have ha2 : Giv.asciiB (⟨(s.toList.map Giv.swapB).toArray⟩ : ByteArray) := by
      intro c hc
      rw [tl_mk] at hc
      obtain ⟨d, hd, rfl⟩ := List.mem_map.1 hc
      exact (swap_both d (ha d hd)).1
    have hf2 := swap_f _ hs2 ha2
    have hback : (⟨((⟨(s.toList.map Giv.swapB).toArray⟩ : ByteArray).toList.map Giv.swapB).toArray⟩ : ByteArray).toList = s.toList := by
      rw [tl_mk, tl_mk, List.map_map]
      conv => rhs; rw [← List.map_id s.toList]
      exact List.map_congr_left fun c hc => (swap_both c (ha c hc)).2
    refine Ev.thenC hf (Ev.andThen h1 (Ev.pos (by rw [tl_mk, h2]) (Ev.thenC hf (Ev.thenC hf2 (Ev.pos hback (Ev.thenC hA (Ev.const ?_)))))))
    have : (⟨((⟨#[97, 66]⟩ : ByteArray).toList.map Giv.swapB).toArray⟩ : ByteArray).toList = [65, 98] := by decide +kernel
    rw [this]; rfl

end Go.Proofs.YtpkdoinofenahaaDoor.Pure
