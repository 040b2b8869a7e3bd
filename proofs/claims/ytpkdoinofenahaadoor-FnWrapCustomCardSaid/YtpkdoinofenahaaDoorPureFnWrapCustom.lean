/- FnWrapCustom, as a plain statement: a text in lines, as the reference tells it. -/
import Derived.Test.YtpkdoinofenahaaDoorPFnWrapCustomx1
import Derived.Test.YtpkdoinofenahaaDoorTxt
namespace Go.Proofs.YtpkdoinofenahaaDoor.Pure
open Go.RowKit Go.Proofs.YtpkdoinofenahaaDoor.PFnWrapCustom Go.Proofs.YtpkdoinofenahaaDoorW.PrintWords Go.Proofs.YtpkdoinofenahaaDoorW.PrintLast Go.Proofs.YtpkdoinofenahaaDoor.Txt Go.Proofs.YtpkdoinofenahaaDoor

/-! ### texts of ASCII -/
def asciiL (s : List UInt8) : Bool := s.all (· < 128)
theorem asciiL_cons (c : UInt8) (s : List UInt8) : asciiL (c :: s) = (decide (c < 128) && asciiL s) := rfl
theorem ascii_ev (s : ByteArray) (hs : s.size ≤ 140737488351232) : Ev (fun k => spec_ASCII.f k s) (asciiL s.toList) := by
  have hl := len_eq s
  have key : ∀ (d i : Nat), s.toList.length - i = d → i ≤ s.toList.length → Ev (fun k => spec_ASCII.l0 k s (i : Int)) (asciiL (s.toList.drop i)) := by
    intro d
    induction d with
    | zero =>
      intro i hd hi
      rw [List.drop_eq_nil_of_le (by omega)]
      refine Ev.step (f := fun _ => some true) (fun k => ?_) (Ev.now _)
      simp only [spec_ASCII.l0]; rw [if_neg (by omega)]
    | succ d ih =>
      intro i hd hi
      have hlt : i < s.toList.length := by omega
      have e : s.toList.drop i = s.toList[i] :: s.toList.drop (i + 1) := List.drop_eq_getElem_cons hlt
      have hb := bt_get s (i : Int) (by simpa using hlt)
      simp only [Int.toNat_natCast] at hb
      by_cases hc : s.toList[i] < 128
      · have hc' : ¬ (bt s (i : Int) ≥ 128) := by rw [hb]; have := UInt8.lt_iff_toNat_lt.1 hc; simp at this; omega
        have e2 : asciiL (s.toList.drop i) = asciiL (s.toList.drop (i + 1)) := by rw [e, asciiL_cons, decide_eq_true hc, Bool.true_and]
        rw [e2]
        refine Ev.step (f := fun k => spec_ASCII.l0 k s ((i + 1 : Nat) : Int)) (fun k => ?_) (ih (i + 1) (by omega) (by omega))
        simp only [spec_ASCII.l0]; rw [if_pos (by omega), if_pos (by omega), if_neg hc', w64 (by omega) (by omega)]; rfl
      · have hc' : bt s (i : Int) ≥ 128 := by rw [hb]; have := fun h => hc (UInt8.lt_iff_toNat_lt.2 h); simp at this; omega
        have e2 : asciiL (s.toList.drop i) = false := by rw [e, asciiL_cons, decide_eq_false hc, Bool.false_and]
        rw [e2]
        refine Ev.step (f := fun _ => some false) (fun k => ?_) (Ev.now _)
        simp only [spec_ASCII.l0]; rw [if_pos (by omega), if_pos (by omega), if_pos hc']
  have := key _ 0 rfl (Nat.zero_le _)
  simpa [spec_ASCII.f] using this
/-- Are all of these looked at? -/
def plainL (l : List ByteArray) : Bool := l.all fun s => s.size ≤ 500 && asciiL s.toList
theorem plainL_cons (s : ByteArray) (l : List ByteArray) : plainL (s :: l) = ((decide (s.size ≤ 500) && asciiL s.toList) && plainL l) := rfl
theorem plain_ev (l : List ByteArray) (hl : l.length ≤ 1000) : Ev (fun k => laws_plain9.f k l) (plainL l) := by
  have key : ∀ (d i : Nat), l.length - i = d → i ≤ l.length → Ev (fun k => laws_plain9.l0 k l (l.length : Int) (i : Int)) (plainL (l.drop i)) := by
    intro d
    induction d with
    | zero =>
      intro i hd hi
      rw [List.drop_eq_nil_of_le (by omega)]
      refine Ev.step (f := fun _ => some true) (fun k => ?_) (Ev.now _)
      simp only [laws_plain9.l0]; rw [if_neg (by omega)]
    | succ d ih =>
      intro i hd hi
      have hlt : i < l.length := by omega
      have e : l.drop i = l[i] :: l.drop (i + 1) := List.drop_eq_getElem_cons hlt
      have hr : rdOf ByteArray.empty l (i : Int) = l[i] := by simp [rdOf, List.getElem?_eq_getElem hlt]
      by_cases h5 : l[i].size ≤ 500
      · have ha := ascii_ev l[i] (by omega)
        refine Ev.step (f := fun k => (spec_ASCII.f k l[i]).bind fun t => if t = true then laws_plain9.l0 k l (l.length : Int) ((i + 1 : Nat) : Int) else some false) (fun k => ?_) ?_
        · simp only [laws_plain9.l0]; rw [if_pos (by omega), if_pos (by omega), if_pos (by omega), hr, if_neg (by omega), w64 (by omega) (by omega)]; rfl
        · refine Ev.andThen ha ?_
          cases hx : asciiL l[i].toList with
          | true =>
            have e2 : plainL (l.drop i) = plainL (l.drop (i + 1)) := by rw [e, plainL_cons, hx, decide_eq_true h5]; rfl
            rw [e2]; exact Ev.pos rfl (ih (i + 1) (by omega) (by omega))
          | false =>
            have e2 : plainL (l.drop i) = false := by rw [e, plainL_cons, hx, Bool.and_false, Bool.false_and]
            rw [e2]; exact Ev.neg (by decide) (Ev.now _)
      · have e2 : plainL (l.drop i) = false := by rw [e, plainL_cons, decide_eq_false h5]; rfl
        rw [e2]
        refine Ev.step (f := fun _ => some false) (fun k => ?_) (Ev.now _)
        simp only [laws_plain9.l0]; rw [if_pos (by omega), if_pos (by omega), if_pos (by omega), hr, if_pos (by omega)]
  have := key _ 0 rfl (Nat.zero_le _)
  simpa [laws_plain9.f] using this
theorem asciiB_of (s : ByteArray) (h : asciiL s.toList = true) : Giv.asciiB s := by
  intro c hc
  have := List.all_eq_true.1 h c hc
  have h2 := UInt8.lt_iff_toNat_lt.1 (by simpa using this : c < 128)
  simpa using h2
theorem last_ev (s : ByteArray) (n : Nat) (hs : s.size ≤ 1000) (hn : n < s.size) : Ev (fun k => spec_lastBlank.f k s 0 ((n + 1 : Nat) : Int)) (Giv.resAt 0 (Giv.lastK s.toList (n + 1))) := by
  have hl := len_eq s
  have key : ∀ m, m ≤ s.size → Ev (fun k => spec_lastBlank.l0 k s 0 ((m : Int) - 1)) (Giv.resAt 0 (Giv.lastK s.toList m)) := by
    intro m
    induction m with
    | zero =>
      intro _
      refine Ev.step (f := fun _ => some (-1)) (fun k => ?_) (Ev.now _)
      simp only [spec_lastBlank.l0]; rw [if_neg (by omega)]
    | succ m ih =>
      intro hm
      have hb := bt_getD s (m : Int)
      rw [Int.toNat_natCast] at hb
      have e1 : (((m + 1 : Nat) : Int) - 1) = (m : Int) := by omega
      rw [e1, Giv.lastK]
      by_cases h : (s.toList.getD m 0).toNat = 32
      · rw [if_pos h]
        refine Ev.step (f := fun _ => some (m : Int)) (fun k => ?_) (by simpa [Giv.resAt] using Ev.now (m : Int))
        simp only [spec_lastBlank.l0]; rw [if_pos (by omega), if_pos (by omega), if_pos (by omega), if_pos (by rw [hb]; omega)]
      · rw [if_neg h]
        refine Ev.step (f := fun k => spec_lastBlank.l0 k s 0 ((m : Int) - 1)) (fun k => ?_) (ih (by omega))
        simp only [spec_lastBlank.l0]; rw [if_pos (by omega), if_pos (by omega), if_pos (by omega), if_neg (by rw [hb]; omega), w64 (by omega) (by omega)]
  unfold spec_lastBlank.f
  have em : mn ((n + 1 : Nat) : Int) (s.size : Int) = ((n + 1 : Nat) : Int) := by unfold mn; split <;> omega
  rw [em, w64 (by omega) (by omega)]
  exact key (n + 1) (by omega)
theorem next_ev (s : ByteArray) (n : Nat) (hs : s.size ≤ 1000) (hn : n ≤ s.size) : Ev (fun k => spec_nextBlank.f k s (n : Int)) (Giv.resAt n (Giv.blankB (s.toList.drop n))) := by
  have hl := len_eq s
  have key : ∀ (d i : Nat), s.toList.length - i = d → i ≤ s.toList.length → Ev (fun k => spec_nextBlank.l0 k s (i : Int)) (Giv.resAt i (Giv.blankB (s.toList.drop i))) := by
    intro d
    induction d with
    | zero =>
      intro i hd hi
      rw [List.drop_eq_nil_of_le (by omega)]
      refine Ev.step (f := fun _ => some (-1)) (fun k => ?_) (Ev.now _)
      simp only [spec_nextBlank.l0]; rw [if_neg (by omega)]
    | succ d ih =>
      intro i hd hi
      have hlt : i < s.toList.length := by omega
      have e : s.toList.drop i = s.toList[i] :: s.toList.drop (i + 1) := List.drop_eq_getElem_cons hlt
      have hb := bt_get s (i : Int) (by simpa using hlt)
      simp only [Int.toNat_natCast] at hb
      rw [e, Giv.blankB]
      by_cases h : s.toList[i].toNat = 32
      · rw [if_pos h]
        refine Ev.step (f := fun _ => some (i : Int)) (fun k => ?_) (by simpa [Giv.resAt] using Ev.now (i : Int))
        simp only [spec_nextBlank.l0]; rw [if_pos (by omega), if_pos (by omega), if_pos (by rw [hb]; omega)]
      · rw [if_neg h, Giv.resAt_map]
        refine Ev.step (f := fun k => spec_nextBlank.l0 k s ((i + 1 : Nat) : Int)) (fun k => ?_) (ih (i + 1) (by omega) (by omega))
        simp only [spec_nextBlank.l0]; rw [if_pos (by omega), if_pos (by omega), if_neg (by rw [hb]; omega), w64 (by omega) (by omega)]; rfl
  exact key _ n rfl (by omega)
set_option maxHeartbeats 400000 in
theorem wrapped_ev (E : ByteArray) (cut : Bool) (n : Nat) (hE : E.size ≤ 20) (hn1 : 1 ≤ n) (hn2 : n ≤ 1000000) : ∀ (f : Nat) (s acc : ByteArray), s.size ≤ f → s.size ≤ 500 → acc.size + 2000 * s.size ≤ 100000000 →
    ∃ r : ByteArray, Ev (fun k => spec_Wrapped.l0 k s (n : Int) E cut acc) r ∧ r.toList = acc.toList ++ Giv.wrapL n E.toList cut f s.toList := by
  intro f
  have done_ : ∀ (f : Nat) (s acc : ByteArray), s.size ≤ 500 → acc.size ≤ 100000000 → ¬ n < s.size → ∃ r : ByteArray, Ev (fun k => spec_Wrapped.l0 k s (n : Int) E cut acc) r ∧ r.toList = acc.toList ++ Giv.wrapL n E.toList cut f s.toList := by
    intro f s acc hs ha h
    refine ⟨acc ++ s, Ev.step (f := fun _ => some (acc ++ s)) (fun k => ?_) (Ev.now _), ?_⟩
    · simp only [spec_Wrapped.l0]; rw [if_neg (by omega), if_pos (by omega)]
    · rw [tl_append, Giv.wrapL_end _ _ _ _ _ (by rw [← len_eq]; exact h)]
  induction f with
  | zero => intro s acc hf hs ha; exact done_ 0 s acc hs (by omega) (by omega)
  | succ f ih =>
    intro s acc hf hs ha
    by_cases hns : n < s.size
    · have hl := len_eq s
      have hb := bt_getD s 0
      have hb0 : bt s 0 = ((s.toList.getD 0 0).toNat : Int) := hb
      have hz1 : (s.extract 1 s.size).size = s.size - 1 := size_extract _ _ _ (by omega) (Nat.le_refl _)
      rw [Giv.wrapL, if_pos (by omega)]
      by_cases h32 : (s.toList.getD 0 0).toNat = 32
      · rw [if_pos h32]
        obtain ⟨r, h1, h2⟩ := ih (s.extract 1 s.size) acc (by omega) (by omega) (by omega)
        refine ⟨r, Ev.step (f := fun k => spec_Wrapped.l0 k (s.extract 1 s.size) (n : Int) E cut acc) (fun k => ?_) h1, by rw [h2, extract_self]⟩
        simp only [spec_Wrapped.l0]; rw [if_pos (by omega), if_pos (by omega), if_pos (by rw [hb0]; omega), if_pos (by omega)]
      · rw [if_neg h32]
        have hstep : ∀ r, Ev (fun k => (spec_lastBlank.f k s 0 ((n + 1 : Nat) : Int)).bind fun t112 => (if t112 ≥ 0 then (if 0 ≤ t112 then (if t112 ≤ (s.size : Int) then (if acc.size + (s.extract 0 (t112 : Int).toNat).size ≤ 9223372036854775807 then (if (acc ++ (s.extract 0 (t112 : Int).toNat)).size + E.size ≤ 9223372036854775807 then (if 0 ≤ (wrap64 (t112 + 1)) then (if (wrap64 (t112 + 1)) ≤ (s.size : Int) then (spec_Wrapped.l0 k (s.extract ((wrap64 (t112 + 1)) : Int).toNat s.size) (n : Int) E cut ((acc ++ (s.extract 0 (t112 : Int).toNat)) ++ E)) else (none)) else (none)) else (none)) else (none)) else (none)) else (none)) else (if cut = true then (if 0 ≤ (n : Int) then (if (n : Int) ≤ (s.size : Int) then (if acc.size + (s.extract 0 ((n : Int)).toNat).size ≤ 9223372036854775807 then (if (acc ++ (s.extract 0 ((n : Int)).toNat)).size + E.size ≤ 9223372036854775807 then (spec_Wrapped.l0 k (s.extract ((n : Int)).toNat s.size) (n : Int) E cut ((acc ++ (s.extract 0 ((n : Int)).toNat)) ++ E)) else (none)) else (none)) else (none)) else (none)) else ((spec_nextBlank.f k s (n : Int)).bind fun t113 => (if t113 < 0 then (if acc.size + s.size ≤ 9223372036854775807 then (some (acc ++ s)) else (none)) else (if 0 ≤ t113 then (if t113 ≤ (s.size : Int) then (if acc.size + (s.extract 0 (t113 : Int).toNat).size ≤ 9223372036854775807 then (if (acc ++ (s.extract 0 (t113 : Int).toNat)).size + E.size ≤ 9223372036854775807 then (if 0 ≤ (wrap64 (t113 + 1)) then (if (wrap64 (t113 + 1)) ≤ (s.size : Int) then (spec_Wrapped.l0 k (s.extract ((wrap64 (t113 + 1)) : Int).toNat s.size) (n : Int) E cut ((acc ++ (s.extract 0 (t113 : Int).toNat)) ++ E)) else (none)) else (none)) else (none)) else (none)) else (none)) else (none))))))) r → Ev (fun k => spec_Wrapped.l0 k s (n : Int) E cut acc) r := by
          intro r h
          refine Ev.step (f := fun k => (spec_lastBlank.f k s 0 ((n + 1 : Nat) : Int)).bind fun t112 => (if t112 ≥ 0 then (if 0 ≤ t112 then (if t112 ≤ (s.size : Int) then (if acc.size + (s.extract 0 (t112 : Int).toNat).size ≤ 9223372036854775807 then (if (acc ++ (s.extract 0 (t112 : Int).toNat)).size + E.size ≤ 9223372036854775807 then (if 0 ≤ (wrap64 (t112 + 1)) then (if (wrap64 (t112 + 1)) ≤ (s.size : Int) then (spec_Wrapped.l0 k (s.extract ((wrap64 (t112 + 1)) : Int).toNat s.size) (n : Int) E cut ((acc ++ (s.extract 0 (t112 : Int).toNat)) ++ E)) else (none)) else (none)) else (none)) else (none)) else (none)) else (none)) else (if cut = true then (if 0 ≤ (n : Int) then (if (n : Int) ≤ (s.size : Int) then (if acc.size + (s.extract 0 ((n : Int)).toNat).size ≤ 9223372036854775807 then (if (acc ++ (s.extract 0 ((n : Int)).toNat)).size + E.size ≤ 9223372036854775807 then (spec_Wrapped.l0 k (s.extract ((n : Int)).toNat s.size) (n : Int) E cut ((acc ++ (s.extract 0 ((n : Int)).toNat)) ++ E)) else (none)) else (none)) else (none)) else (none)) else ((spec_nextBlank.f k s (n : Int)).bind fun t113 => (if t113 < 0 then (if acc.size + s.size ≤ 9223372036854775807 then (some (acc ++ s)) else (none)) else (if 0 ≤ t113 then (if t113 ≤ (s.size : Int) then (if acc.size + (s.extract 0 (t113 : Int).toNat).size ≤ 9223372036854775807 then (if (acc ++ (s.extract 0 (t113 : Int).toNat)).size + E.size ≤ 9223372036854775807 then (if 0 ≤ (wrap64 (t113 + 1)) then (if (wrap64 (t113 + 1)) ≤ (s.size : Int) then (spec_Wrapped.l0 k (s.extract ((wrap64 (t113 + 1)) : Int).toNat s.size) (n : Int) E cut ((acc ++ (s.extract 0 (t113 : Int).toNat)) ++ E)) else (none)) else (none)) else (none)) else (none)) else (none)) else (none))))))) (fun k => ?_) h
          simp only [spec_Wrapped.l0]; rw [if_pos (by omega), if_pos (by omega), if_neg (by rw [hb0]; omega), w64 (show -9223372036854775808 ≤ (n : Int) + 1 by omega) (by omega)]; rfl
        have HSTEP := Lib.hid hstep
        clear hstep hb hb0
        have hle := last_ev s n (by omega) hns
        cases hk : Giv.lastK s.toList (n + 1) with
        | some j =>
          have hj := Giv.lastK_lt _ _ _ hk
          rw [hk] at hle
          have er : Giv.resAt 0 (some j) = (j : Int) := by simp [Giv.resAt]
          rw [er] at hle
          have HLE := Lib.hid hle
          clear hk er hle h32
          have hw : wrap64 ((j : Int) + 1) = ((j + 1 : Nat) : Int) := by rw [w64 (by omega) (by omega)]; rfl
          have HW := Lib.hid hw
          clear hw
          have hzj : (s.extract 0 (j)).size = j := by rw [size_extract _ _ _ (Nat.zero_le _) (by omega)]; exact Nat.sub_zero _
          have HZJ := Lib.hid hzj
          clear hzj
          have hzr : (s.extract (j + 1) s.size).size = s.size - (j + 1) := size_extract _ _ _ (by omega) (Nat.le_refl _)
          have HZR := Lib.hid hzr
          clear hzr
          have c1 : acc.size + (s.extract 0 (j)).size ≤ 9223372036854775807 := by rw [HZJ.out]; omega
          have C1 := Lib.hid c1
          clear c1
          have c2 : (acc ++ s.extract 0 (j)).size + E.size ≤ 9223372036854775807 := by rw [size_append, HZJ.out]; omega
          have C2 := Lib.hid c2
          clear c2
          obtain ⟨r, h1, h2⟩ := ih (s.extract (j + 1) s.size) ((acc ++ s.extract 0 (j)) ++ E) (by rw [HZR.out]; omega) (by rw [HZR.out]; omega) (by rw [size_append, size_append, HZJ.out, HZR.out]; omega)
          refine ⟨r, HSTEP.out r (Ev.andThen HLE.out ?_), ?_⟩
          · rw [HW.out]
            simp only [Int.toNat_natCast]
            exact Ev.pos (by omega) (Ev.pos (by omega) (Ev.pos (by omega) (Ev.pos C1.out (Ev.pos C2.out (Ev.pos (by omega) (Ev.pos (by omega) h1))))))
          · rw [h2, tl_append, tl_append, extract_upto, extract_self]; simp only [List.append_assoc]
        | none =>
          rw [hk] at hle
          have er : Giv.resAt 0 none = -1 := rfl
          rw [er] at hle
          have HLE := Lib.hid hle
          clear hk er hle h32
          cases cut with
          | true =>
            have hzj : (s.extract 0 (n)).size = n := by rw [size_extract _ _ _ (Nat.zero_le _) (by omega)]; exact Nat.sub_zero _
            have HZJ := Lib.hid hzj
            clear hzj
            have hzr : (s.extract (n) s.size).size = s.size - (n) := size_extract _ _ _ (by omega) (Nat.le_refl _)
            have HZR := Lib.hid hzr
            clear hzr
            have c1 : acc.size + (s.extract 0 (n)).size ≤ 9223372036854775807 := by rw [HZJ.out]; omega
            have C1 := Lib.hid c1
            clear c1
            have c2 : (acc ++ s.extract 0 (n)).size + E.size ≤ 9223372036854775807 := by rw [size_append, HZJ.out]; omega
            have C2 := Lib.hid c2
            clear c2
            obtain ⟨r, h1, h2⟩ := ih (s.extract (n) s.size) ((acc ++ s.extract 0 (n)) ++ E) (by rw [HZR.out]; omega) (by rw [HZR.out]; omega) (by rw [size_append, size_append, HZJ.out, HZR.out]; omega)
            refine ⟨r, HSTEP.out r (Ev.andThen HLE.out ?_), ?_⟩
            · simp only [Int.toNat_natCast]
              exact Ev.neg (by omega) (Ev.pos trivial (Ev.pos (by omega) (Ev.pos (by omega) (Ev.pos C1.out (Ev.pos C2.out h1)))))
            · rw [h2, tl_append, tl_append, extract_upto, extract_self]; simp
          | false =>
            have hnx := next_ev s n (by omega) (by omega)
            cases hj : Giv.blankB (s.toList.drop n) with
            | none =>
              rw [hj] at hnx
              have er2 : Giv.resAt n none = -1 := rfl
              rw [er2] at hnx
              refine ⟨acc ++ s, HSTEP.out _ (Ev.andThen HLE.out ?_), ?_⟩
              · exact Ev.neg (by omega) (Ev.neg (by decide) (Ev.andThen hnx (Ev.pos (by omega) (Ev.pos (by omega) (Ev.now _)))))
              · rw [tl_append]; simp
            | some i =>
              have hi := Giv.blankB_lt _ _ hj
              rw [List.length_drop] at hi
              rw [hj] at hnx
              have er2 : Giv.resAt n (some i) = ((n + i : Nat) : Int) := rfl
              rw [er2] at hnx
              have HNX := Lib.hid hnx
              have HJ := Lib.hid hj
              clear hj er2 hnx
              have hw : wrap64 (((n + i : Nat) : Int) + 1) = ((n + i + 1 : Nat) : Int) := by rw [w64 (by omega) (by omega)]; rfl
              have HW := Lib.hid hw
              clear hw
              have hzj : (s.extract 0 (n + i)).size = n + i := by rw [size_extract _ _ _ (Nat.zero_le _) (by omega)]; exact Nat.sub_zero _
              have HZJ := Lib.hid hzj
              clear hzj
              have hzr : (s.extract (n + i + 1) s.size).size = s.size - (n + i + 1) := size_extract _ _ _ (by omega) (Nat.le_refl _)
              have HZR := Lib.hid hzr
              clear hzr
              have c1 : acc.size + (s.extract 0 (n + i)).size ≤ 9223372036854775807 := by rw [HZJ.out]; omega
              have C1 := Lib.hid c1
              clear c1
              have c2 : (acc ++ s.extract 0 (n + i)).size + E.size ≤ 9223372036854775807 := by rw [size_append, HZJ.out]; omega
              have C2 := Lib.hid c2
              clear c2
              obtain ⟨r, h1, h2⟩ := ih (s.extract (n + i + 1) s.size) ((acc ++ s.extract 0 (n + i)) ++ E) (by rw [HZR.out]; omega) (by rw [HZR.out]; omega) (by rw [size_append, size_append, HZJ.out, HZR.out]; omega)
              refine ⟨r, HSTEP.out r (Ev.andThen HLE.out ?_), ?_⟩
              · refine Ev.neg (by omega) (Ev.neg (by decide) (Ev.andThen HNX.out ?_))
                rw [HW.out]
                simp only [Int.toNat_natCast]
                exact Ev.neg (by omega) (Ev.pos (by omega) (Ev.pos (by omega) (Ev.pos C1.out (Ev.pos C2.out (Ev.pos (by omega) (Ev.pos (by omega) h1))))))
              · rw [h2, tl_append, tl_append, extract_upto, extract_self]
                show acc.toList ++ s.toList.take (n + i) ++ E.toList ++ Giv.wrapL n E.toList false f (s.toList.drop (n + i + 1)) = acc.toList ++ (s.toList.take (n + i) ++ E.toList ++ Giv.wrapL n E.toList false f (s.toList.drop (n + i + 1)))
                simp only [List.append_assoc]
    · exact done_ (f + 1) s acc hs (by omega) hns
theorem spec_ev (s E : ByteArray) (wide : Int) (cut : Bool) (hs : s.size ≤ 500) (hE : E.size ≤ 20) (h0 : -1000000 ≤ wide) (h1 : wide ≤ 1000000) : Ev (fun k => spec_Wrapped.f k s wide E cut) (Giv.wrapS s wide E cut) := by
  have em : mx wide 1 = ((Giv.wideN wide : Nat) : Int) := by
    unfold mx Giv.wideN
    split <;> omega
  have hn : 1 ≤ Giv.wideN wide ∧ Giv.wideN wide ≤ 1000000 := by unfold Giv.wideN; split <;> omega
  have key : ∀ B : ByteArray, B.size ≤ 20 → Ev (fun k => spec_Wrapped.j0 k s (mx wide 1) B cut) (⟨(Giv.wrapL (Giv.wideN wide) B.toList cut s.size s.toList).toArray⟩ : ByteArray) := by
    intro B hB
    rw [em]
    obtain ⟨r, g1, g2⟩ := wrapped_ev B cut (Giv.wideN wide) hB hn.1 hn.2 s.size s (⟨#[]⟩ : ByteArray) (Nat.le_refl _) hs (by show 0 + _ ≤ _; omega)
    have er : r = ⟨(Giv.wrapL (Giv.wideN wide) B.toList cut s.size s.toList).toArray⟩ := ext_eq (by rw [g2, tl_nil, List.nil_append]; exact (tl_mk _).symm)
    rw [← er]
    exact Ev.step (f := fun k => spec_Wrapped.l0 k s ((Giv.wideN wide : Nat) : Int) B cut (⟨#[]⟩ : ByteArray)) (fun k => by simp only [spec_Wrapped.j0]) g1
  unfold spec_Wrapped.f Giv.wrapS Giv.endB
  have hl := len_eq E
  by_cases he : E.toList = []
  · have hz : E.size = 0 := by rw [hl, he]; rfl
    rw [if_pos hz]
    exact Ev.pos he (key _ (by decide))
  · have hz : ¬ E.size = 0 := fun h => he (List.length_eq_zero_iff.1 (by omega))
    rw [if_neg hz]
    exact Ev.neg he (key _ hE)
theorem wrap_ab : (Giv.wrapS (⟨#[97, 32, 98]⟩ : ByteArray) 1 (⟨#[]⟩ : ByteArray) false).toList = [97, 10, 98] := by
  unfold Giv.wrapS
  rw [tl_mk]
  decide +kernel

theorem FnWrapCustom : laws_FnWrapCustom.Pure := by
  intro s wide E cut hs hw hE
  apply Ev.rounds
  unfold laws_FnWrapCustom.f
  have jtrue : Ev (fun k => laws_FnWrapCustom.j1 k s wide E cut true) true := Ev.step (f := fun _ => some true) (fun k => by simp only [laws_FnWrapCustom.j1]; rfl) (Ev.now _)
  have key : ∀ b : Bool, Ev (fun k => laws_FnWrapCustom.j0 k s wide E cut b) true := by
    intro b
    cases b with
    | true => exact Ev.step (f := fun _ => some true) (fun k => by simp only [laws_FnWrapCustom.j0]; rfl) (Ev.now _)
    | false =>
      refine Ev.step (f := fun k => ((laws_plain9.f k (([s] : List ByteArray))).bind fun t117 => (if t117 = true then (if (E.size : Int) > 20 then (laws_FnWrapCustom.j1 k s wide E cut true) else ((laws_far9.f wide).bind fun t118 => (laws_FnWrapCustom.j1 k s wide E cut t118))) else (laws_FnWrapCustom.j1 k s wide E cut true)))) (fun k => by simp only [laws_FnWrapCustom.j0]; rfl) ?_
      refine Ev.andThen (plain_ev [s] (by simp)) ?_
      cases htx : plainL [s] with
      | false => exact Ev.neg (by decide) jtrue
      | true =>
        refine Ev.pos rfl ?_
        simp only [plainL, List.all_cons, List.all_nil, Bool.and_true, Bool.and_eq_true, decide_eq_true_eq] at htx
        obtain ⟨z1, u1⟩ := htx
        have ha := asciiB_of s u1
        by_cases hE2 : (E.size : Int) > 20
        · exact Ev.pos hE2 jtrue
        refine Ev.neg hE2 ?_
        have hf : laws_far9.f wide = some (decide (wide < -1000000) || decide (wide > 1000000)) := by
          unfold laws_far9.f
          by_cases h : wide < -1000000
          · rw [if_pos h, decide_eq_true h]; rfl
          · rw [if_neg h, decide_eq_false h]; rfl
        refine Ev.thenC hf ?_
        cases hfar : (decide (wide < -1000000) || decide (wide > 1000000)) with
        | true => exact jtrue
        | false =>
          simp only [Bool.or_eq_false_iff, decide_eq_false_iff_not] at hfar
          have f1 : impl_WrapCustom.f s wide E cut = some (Giv.wrapS s wide E cut) := by unfold impl_WrapCustom.f Giv.goutils_WrapCustom.f; rw [if_pos ⟨by omega, by omega, by omega, ha⟩]; rfl
          have f2 : impl_WrapCustom.f (⟨#[97, 32, 98]⟩ : ByteArray) 1 (⟨#[]⟩ : ByteArray) false = some (Giv.wrapS (⟨#[97, 32, 98]⟩ : ByteArray) 1 (⟨#[]⟩ : ByteArray) false) := by
            unfold impl_WrapCustom.f Giv.goutils_WrapCustom.f; rw [if_pos ⟨by decide, by decide, by decide, by decide +kernel⟩]; rfl
          refine Ev.step (f := fun k => (impl_WrapCustom.f s wide E cut).bind fun t119 => ((spec_Wrapped.f k s wide E cut).bind fun t120 => (if t119.toList = t120.toList then ((impl_WrapCustom.f (⟨#[97, 32, 98]⟩ : ByteArray) 1 (⟨#[]⟩ : ByteArray) false).bind fun t121 => (some (t121.toList == ([97, 10, 98] : List UInt8)))) else (some false)))) (fun k => by simp only [laws_FnWrapCustom.j1]; rfl) ?_
          refine Ev.thenC f1 (Ev.andThen (spec_ev s E wide cut z1 (by omega) (by omega) (by omega)) (Ev.pos rfl (Ev.thenC f2 (Ev.const ?_))))
          rw [wrap_ab]; rfl
  by_cases h1 : (s.size : Int) > 2147483647
  · exact Ev.pos h1 (key _)
  · exact Ev.neg h1 (key _)

end Go.Proofs.YtpkdoinofenahaaDoor.Pure
