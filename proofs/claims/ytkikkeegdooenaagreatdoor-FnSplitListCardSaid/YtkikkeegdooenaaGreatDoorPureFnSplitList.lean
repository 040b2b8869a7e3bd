/- FnSplitList: the law's walk. -/
import Derived.Test.YtkikkeegdooenaaGreatDoorSplitPl
import Derived.Test.YtkikkeegdooenaaGreatDoorValSp
namespace Go.Proofs.YtkikkeegdooenaaGreatDoor.Pure
/-- Nothing more is asked. -/
theorem FnSplitList : True := trivial
end Go.Proofs.YtkikkeegdooenaaGreatDoor.Pure
namespace Go.Proofs.YtkikkeegdooenaaGreatDoor.PFnSplitList
open Go.RowKit Go.ChangeMaps Go.Proofs.YtkikkeegdooenaaGreatDoorW.PrintWords Go.Proofs.YtkikkeegdooenaaGreatDoor.Txt Go.Proofs.YtkikkeegdooenaaGreatDoor.Vals
set_option linter.unusedVariables false
set_option maxRecDepth 20000
theorem cell2 (w : World) (a b : Value) (t : TypeId) (j : Nat) (u : Value) (hj : [a, b][j]? = some u) : (w.alloc (.cells #[a, b] t)).cell? ((⟨w.heap.size, 0, none⟩ : Addr).add j) = some u :=
  news_cells w #[a, b] t j u (by simpa using hj)
theorem lit2 (w : World) (a b : ByteArray) (t : TypeId) : Kd.C Kd.string (w.alloc (.cells #[.string a, .string b] t)) (some ⟨w.heap.size, 0, none⟩) 2 [a, b] := by
  refine ⟨rfl, by decide, fun _ => ⟨_, rfl, fun j p hj => ⟨[.string p], rfl, rfl, fun i u hu => ?_⟩⟩⟩
  have h1 : Kd.string.sz = 1 := rfl
  rw [h1]
  have hi : i = 0 := by
    rcases i with _ | i
    · rfl
    · simp at hu
  subst hi
  have hup : u = .string p := by simpa using hu.symm
  subst hup
  have hj2 : [Value.string a, Value.string b][j]? = some (.string p) := by
    have : ([a, b].map Value.string)[j]? = some (.string p) := by rw [List.getElem?_map, hj]; rfl
    simpa using this
  have := cell2 w (.string a) (.string b) t j (.string p) hj2
  simpa using this
/-- What the law's text-check answers, at any world. -/
theorem text_call (a b : ByteArray) (W : World) : Calls Tryz.prog 5 #[.slice (some ⟨W.heap.size, 0, none⟩) 2 2] (W.alloc (.cells #[.string a, .string b] 9)) fun e w' => e = .returned (.bool (Pure.textL [a, b])) ∧ Below (W.alloc (.cells #[.string a, .string b] 9)).heap.size (W.alloc (.cells #[.string a, .string b] 9)) w' := by
  obtain ⟨k, hk⟩ := Ev.rounds (Pure.text_ev [a, b] (by simp))
  exact laws_text9.calls k _ 2 [a, b] _ _ (lit2 W a b _) (Nat.le_refl _) hk
set_option maxHeartbeats 4000000 in
theorem laws_FnSplitList.walk (_P : True) (a0 a1 : ByteArray) (w : World) (w0 : a0.size ≤ 140737488351232) (w1 : a1.size ≤ 140737488351232) :
    Calls Tryz.prog 3 #[.string a0, .string a1] w fun e w' => e = .returned (.bool true) ∧ Below w.heap.size w w' := by
  have HBX : Hid (∀ o, Below w.heap.size w (w.alloc o)) := Lib.hid fun o => (Below.refl _ _).alloc (Nat.le_refl _) o
  have HB0 := Lib.hid (Below.refl w.heap.size w)
  go_enter Tryz.func3, Tryz.ntmps3
  by_cases h1 : (2147483647 : Int) < (a0.size : Int)
  · go_wp2_with fail
    go_ret
    exact ⟨rfl, HB0.out⟩
  by_cases h2 : (2147483647 : Int) < (a1.size : Int)
  · go_wp2_with fail
    go_ret
    exact ⟨rfl, HB0.out⟩
  have HT := Lib.hid (text_call a0 a1 w)
  obtain ⟨B, hB⟩ : ∃ B, B = Pure.textL [a0, a1] := ⟨_, rfl⟩
  rw [← hB] at HT
  have HBB := Lib.hid hB
  clear hB
  go_wp2_with fail
  refine HT.out.mono ?_
  rintro e w1 ⟨rfl, hb1⟩
  have HB1 := Lib.hid ((HBX.out _).trans (hb1.mono (HBX.out _).size))
  clear hb1
  cases B with
  | false =>
    go_wp2_with fail
    go_ret
    exact ⟨rfl, HB1.out⟩
  | true =>
    by_cases hp0 : a0.toList = []
    · have hpe : (a0.toList == []) = true := by rw [hp0]; rfl
      go_wp2_with fail
      go_ret
      exact ⟨rfl, HB1.out⟩
    have hpe : (a0.toList == []) = false := beq_eq_false_iff_ne.mpr hp0
    have htx := HBB.out.symm
    simp only [Pure.textL, List.all_cons, List.all_nil, Bool.and_true, Bool.and_eq_true, decide_eq_true_eq] at htx
    obtain ⟨⟨z0, _⟩, ⟨z1, _⟩⟩ := htx
    have HF := Lib.hid (Pure.parts a0 a1 z0 z1 hp0)
    clear hp0
    obtain ⟨l, hf⟩ := HF.out
    have HP := Lib.hid hf
    clear hf
    have HI : Hid (∀ W, Calls Tryz.prog 6 #[.string a0, .string a1] W fun e w' => ∃ v0_ : Value, e = .returned (v0_) ∧ Kd.R Kd.string 9 w' W.heap.size (fun _ => True) v0_ l ∧ Below W.heap.size W w') := Lib.hid fun W => by
      obtain ⟨k, hk⟩ := Ev.rounds HP.out.1
      exact impl_SplitList.calls k a0 a1 l W hk
    have HS : Hid (∀ W, Calls Tryz.prog 8 #[.string a0, .string a1] W fun e w' => ∃ v0_ : Value, e = .returned (v0_) ∧ Kd.R Kd.string 9 w' W.heap.size (fun _ => True) v0_ l ∧ Below W.heap.size W w') := Lib.hid fun W => by
      obtain ⟨k, hk⟩ := Ev.rounds HP.out.2.1
      exact spec_SplitList.calls k a0 a1 l W hk
    have hls : l.length ≤ 100000 := HP.out.2.2.1
    go_wp2_with fail
    refine (HI.out _).mono ?_
    rintro e w2 ⟨v0, rfl, HR, hb2⟩
    have HB2 := Lib.hid (HB1.out.trans (hb2.mono HB1.out.size))
    obtain ⟨A, c, rfl⟩ := Kd.R_slice HR
    have HR2 := Lib.hid (Kd.R_reads' HR).2
    clear HR hb2
    go_wp2_with fail
    refine (HS.out _).mono ?_
    rintro e w3 ⟨v1, rfl, HR, hb3⟩
    have HC3 := Lib.hid (Kd.C_below HR2.out.2 hb3)
    have HB3 := Lib.hid (HB2.out.trans (hb3.mono HB2.out.size))
    obtain ⟨A', c', rfl⟩ := Kd.R_slice HR
    have HR3 := Lib.hid (Kd.R_reads' HR).2
    clear HR hb3
    have HST : Hid (Calls Tryz.prog 7 #[.slice A l.length c, .slice A' l.length c'] w3 fun e w' => e = .returned (.bool true) ∧ Drawn0 w3 w') := Lib.hid (by
      obtain ⟨k, hk⟩ := Ev.rounds (Pure.sameT_ev l hls)
      exact spec_SameTexts.calls k A c l A' c' l true w3 HC3.out HR2.out.1 HR3.out.2 HR3.out.1 hk)
    go_wp2_with fail
    refine HST.out.mono ?_
    rintro e w4 ⟨rfl, hd4⟩
    have hb4 : Below w3.heap.size w3 w4 := hd4.below
    have HB4 := Lib.hid (HB3.out.trans (hb4.mono HB3.out.size))
    have HC4 := Lib.hid (Kd.C_below HC3.out hb4)
    clear hd4 hb4
    have HV := Lib.hid (values9_walk l hls (fun x hx => by have := HP.out.2.2.2.1 x hx; unfold maxLen; omega) A c w4 HC4.out)
    go_wp2_with fail
    refine HV.out.mono ?_
    rintro e w5 ⟨A5, c5, ys, rfl, HY, hb5⟩
    have HB5 := Lib.hid (HB4.out.trans (hb5.out.mono HB4.out.size))
    clear hb5
    have hjt : joinT l a0 = a1 := HP.out.2.2.2.2
    have HJ := Lib.hid (implJoin_walk l a0 hls (by rw [hjt]; omega) A5 c5 ys _ w5 HY.out.1 HY.out.2)
    rw [hjt] at HJ
    clear hjt
    go_wp2_with fail
    refine HJ.out.mono ?_
    rintro e w6 ⟨rfl, hb6⟩
    have HB6 := Lib.hid (HB5.out.trans (hb6.mono HB5.out.size))
    clear hb6
    go_wp2_with fail
    go_ret
    refine ⟨?_, HB6.out⟩
    simp
end Go.Proofs.YtkikkeegdooenaaGreatDoor.PFnSplitList
