/- Semantic versions: comparePrerelease answers cls. Printed by gen_svcl.py. -/
import Derived.Test.YtmoilbhkjmhoaaaDoorSvCmp
namespace Go.Proofs.YtmoilbhkjmhoaaaDoor.Sv
open Go.RowKit Go.Proofs.YtmoilbhkjmhoaaaDoor.PFnSemverOrderThree Go.Proofs.YtmoilbhkjmhoaaaDoorW.PrintWords Go.Proofs.YtmoilbhkjmhoaaaDoor.Txt Go.Proofs.YtmoilbhkjmhoaaaDoor
set_option linter.unusedVariables false
set_option linter.unusedSimpArgs false
set_option maxRecDepth 20000

theorem cls_step (ps os : List (List UInt8)) (i : Nat) (h : i < ps.length ∨ i < os.length) :
    cls (ps.drop i) (os.drop i) = if cid (ps.getD i []) (os.getD i []) ≠ 0 then cid (ps.getD i []) (os.getD i []) else cls (ps.drop (i + 1)) (os.drop (i + 1)) := by
  by_cases h1 : i < ps.length
  · have g1 : ps.getD i [] = ps[i] := by rw [List.getD_eq_getElem?_getD, List.getElem?_eq_getElem h1]; rfl
    by_cases h2 : i < os.length
    · have g2 : os.getD i [] = os[i] := by rw [List.getD_eq_getElem?_getD, List.getElem?_eq_getElem h2]; rfl
      rw [g1, g2, List.drop_eq_getElem_cons h1, List.drop_eq_getElem_cons h2, cls]
    · have g2 : os.getD i [] = [] := by rw [List.getD_eq_getElem?_getD, List.getElem?_eq_none (by omega)]; rfl
      rw [g1, g2, List.drop_eq_getElem_cons h1, List.drop_eq_nil_of_le (show os.length ≤ i by omega), List.drop_eq_nil_of_le (show os.length ≤ i + 1 by omega), cls]
  · have h2 : i < os.length := by omega
    have g1 : ps.getD i [] = [] := by rw [List.getD_eq_getElem?_getD, List.getElem?_eq_none (by omega)]; rfl
    have g2 : os.getD i [] = os[i] := by rw [List.getD_eq_getElem?_getD, List.getElem?_eq_getElem h2]; rfl
    rw [g1, g2, List.drop_eq_getElem_cons h2, List.drop_eq_nil_of_le (show ps.length ≤ i by omega), List.drop_eq_nil_of_le (show ps.length ≤ i + 1 by omega), cls]
theorem cls_end (ps os : List (List UInt8)) (i : Nat) (h1 : ps.length ≤ i) (h2 : os.length ≤ i) : cls (ps.drop i) (os.drop i) = 0 := by
  rw [List.drop_eq_nil_of_le h1, List.drop_eq_nil_of_le h2, cls]
theorem ba_nil : ba [] = ⟨#[]⟩ := rfl
theorem getD_ba (ps : List (List UInt8)) (i : Nat) (h : i < ps.length) : (ps.map ba).getD i ⟨#[]⟩ = ba (ps.getD i []) := by
  rw [List.getD_eq_getElem?_getD, List.getD_eq_getElem?_getD, List.getElem?_map, List.getElem?_eq_getElem h]; rfl
theorem dots_count : ∀ {qs : List (List UInt8)}, (∀ p ∈ qs, p ≠ []) → qs.length ≤ (dots qs).length := by
  intro qs
  induction qs with
  | nil => simp
  | cons a r ih =>
    intro hq
    have ha := List.length_pos_iff.2 (hq a (by simp))
    have := ih fun p hp => hq p (by simp [hp])
    cases r with
    | nil => simp [dots]; omega
    | cons b r => simp only [dots, List.length_append, List.length_cons] at this ⊢; omega

set_option maxHeartbeats 8000000 in
theorem comparePrerelease_walk {ps os : List (List UInt8)} (hp : PartsOk ps) (ho : PartsOk os) (hz : (dots ps).length ≤ 1000) (hy : (dots os).length ≤ 1000) (w : World)
    (U : ∀ i W, Below w.heap.size w W → Calls Tryd.prog 49 #[.string (ba (ps.getD i [])), .string (ba (os.getD i []))] W fun e w' => e = .returned (.int .i64 (cid (ps.getD i []) (os.getD i []))) ∧ Below W.heap.size W w') :
    Calls Tryd.prog 39 #[.string (ba (dots ps)), .string (ba (dots os))] w fun e w' => e = .returned (.int .i64 (cls ps os)) ∧ Below w.heap.size w w' := by
  have HZ : Hid (∀ w, Calls Tryd.prog 48 #[.string (ba (dots ps)), .string ⟨#[46]⟩] w fun e w' => ∃ v0_ : Value, e = .returned (v0_) ∧ Kd.R Kd.string 9 w' w.heap.size (fun _ => True) v0_ (ps.map ba) ∧ Below w.heap.size w w') := Lib.hid (fun w => by
    obtain ⟨k, hk⟩ := split_dots hp hz
    exact semver_zzSplit.calls k _ _ _ w (hk k (Nat.le_refl _)))
  have HY : Hid (∀ w, Calls Tryd.prog 48 #[.string (ba (dots os)), .string ⟨#[46]⟩] w fun e w' => ∃ v0_ : Value, e = .returned (v0_) ∧ Kd.R Kd.string 9 w' w.heap.size (fun _ => True) v0_ (os.map ba) ∧ Below w.heap.size w w') := Lib.hid (fun w => by
    obtain ⟨k, hk⟩ := split_dots ho hy
    exact semver_zzSplit.calls k _ _ _ w (hk k (Nat.le_refl _)))
  obtain ⟨s, hs⟩ : ∃ s, s = ba (dots ps) := ⟨_, rfl⟩
  obtain ⟨o, hoo⟩ : ∃ o, o = ba (dots os) := ⟨_, rfl⟩
  rw [← hs] at HZ ⊢
  rw [← hoo] at HY ⊢
  have hN0 : ps.length ≤ 1000 := by have := dots_count fun p h => (hp.2 p h).1; omega
  have hM0 : os.length ≤ 1000 := by have := dots_count fun p h => (ho.2 p h).1; omega
  obtain ⟨N, hN⟩ : ∃ N, N = ps.length := ⟨_, rfl⟩
  obtain ⟨M, hM⟩ : ∃ M, M = os.length := ⟨_, rfl⟩
  rw [← hN] at hN0
  rw [← hM] at hM0
  have hmN : (ps.map ba).length = N := by rw [List.length_map, hN]
  have hmM : (os.map ba).length = M := by rw [List.length_map, hM]
  have HN := Lib.hid hN
  have HM := Lib.hid hM
  obtain ⟨R, hR⟩ : ∃ R, R = cls ps os := ⟨_, rfl⟩
  rw [← hR]
  have HR := Lib.hid hR
  have HU := Lib.hid U
  clear hp ho hz hy hs hoo hN hM hR U
  have H1 := Lib.hid (HZ.out w)
  go_enter Tryd.func39, Tryd.ntmps39
  go_wp2_with fail
  refine H1.out.mono ?_
  rintro e w1 ⟨v0, rfl, HRR, hb1⟩
  obtain ⟨A, c, rfl⟩ := Kd.R_slice HRR
  have HC0 := Lib.hid (Kd.R_reads' HRR).2.2
  have HB1 := Lib.hid hb1
  clear HRR hb1
  rw [hmN] at HC0 ⊢
  have H2 := Lib.hid (HY.out w1)
  go_wp2_with fail
  refine H2.out.mono ?_
  rintro e w2 ⟨v0, rfl, HRR, hb2⟩
  obtain ⟨A2, c2, rfl⟩ := Kd.R_slice HRR
  have HD := Lib.hid (Kd.R_reads' HRR).2.2
  have HC := Lib.hid (Kd.C_below HC0.out hb2)
  have HB2 := Lib.hid (HB1.out.trans (hb2.mono HB1.out.size))
  clear HRR hb2 H1 H2 HZ HY HC0 HB1
  rw [hmM] at HD ⊢
  clear hmN hmM
  by_cases hNM : N < M
  · go_wp2_with fail
    go_loopg [10, 11, 12, 13] M (fun kq v10 v11 v12 v13 wr => ∃ (i : Nat), v10 = .int .i64 (i : Int) ∧ i + kq = M ∧ Hid (Below w2.heap.size w2 wr) ∧ Hid (cls (ps.drop i) (os.drop i) = R))
    case atStart =>
      exact ⟨0, rfl, by omega, Lib.hid (Below.refl _ _), Lib.hid HR.out.symm⟩
    case round =>
      obtain ⟨i, rfl, hik, HB, HI⟩ := hrel
      have HBW := Lib.hid (HB2.out.trans (HB.out.mono HB2.out.size))
      cases gk with
      | zero =>
        have hin : i = M := by omega
        have hni : ¬ (i : Int) < (M : Int) := by omega
        have h0 : R = 0 := by rw [← HI.out]; exact cls_end ps os i (by rw [← HN.out]; omega) (by rw [← HM.out]; omega)
        clear hin hik
        subst h0
        go_wp2_with fail
        go_ret
        exact ⟨rfl, HBW.out⟩
      | succ m =>
        have hi : i < M := by omega
        have HIK := Lib.hid hik
        have hst := cls_step ps os i (by rw [← HN.out, ← HM.out]; omega)
        rw [HI.out] at hst
        have HS := Lib.hid hst
        have HP := Lib.hid (HU.out i wr HBW.out)
        have hw : wrap64 ((i : Int) + 1) = ((i + 1 : Nat) : Int) := by unfold wrap64; omega
        obtain ⟨su, hsu⟩ : ∃ su, su = ba (ps.getD i []) := ⟨_, rfl⟩
        obtain ⟨ou, hou⟩ : ∃ ou, ou = ba (os.getD i []) := ⟨_, rfl⟩
        obtain ⟨d, hd⟩ : ∃ d, d = cid (ps.getD i []) (os.getD i []) := ⟨_, rfl⟩
        rw [← hsu, ← hou, ← hd] at HP
        rw [← hd] at HS
        have HSU := Lib.hid hsu
        have HOU := Lib.hid hou
        clear hik hst hsu hou hd
        by_cases hiN : (i : Int) < (N : Int)
        · obtain ⟨ad, rfl, hc⟩ := getD_str (Kd.C_below HC.out HB.out) i (by omega)
          rw [getD_ba ps i (by rw [← HN.out]; omega), ← HSU.out] at hc
          by_cases hiM : (i : Int) < (M : Int)
          · obtain ⟨ad2, rfl, hc2⟩ := getD_str (Kd.C_below HD.out HB.out) i (by omega)
            rw [getD_ba os i (by rw [← HM.out]; omega), ← HOU.out] at hc2
            go_wp2_with fail
            refine HP.out.mono ?_
            rintro e w3 ⟨rfl, hb3⟩
            have HB3 := Lib.hid (HB.out.trans (hb3.mono HB.out.size))
            have HB4 := Lib.hid (HBW.out.trans (hb3.mono HBW.out.size))
            clear hb3
            by_cases hd0 : d = 0
            · have hs := HS.out
              rw [hd0, if_neg (by simp)] at hs
              have HS2 := Lib.hid hs.symm
              clear hs HS
              subst hd0
              go_wp2_with fail
              go_roundg m
              case measure => exact Nat.lt_succ_self m
              case rel => exact ⟨i + 1, by first | rfl | (simp only [hw]) | (congr 1; omega), by have := HIK.out; omega, HB3, HS2⟩
            · have hs := HS.out
              rw [if_pos hd0] at hs
              subst hs
              go_wp2_with fail
              go_ret
              exact ⟨rfl, HB4.out⟩
          · exact absurd hi (by omega)
        · have hsu : su = ⟨#[]⟩ := by rw [HSU.out, List.getD_eq_getElem?_getD, List.getElem?_eq_none (by rw [← HN.out]; omega)]; rfl
          subst hsu
          by_cases hiM : (i : Int) < (M : Int)
          · obtain ⟨ad2, rfl, hc2⟩ := getD_str (Kd.C_below HD.out HB.out) i (by omega)
            rw [getD_ba os i (by rw [← HM.out]; omega), ← HOU.out] at hc2
            go_wp2_with fail
            refine HP.out.mono ?_
            rintro e w3 ⟨rfl, hb3⟩
            have HB3 := Lib.hid (HB.out.trans (hb3.mono HB.out.size))
            have HB4 := Lib.hid (HBW.out.trans (hb3.mono HBW.out.size))
            clear hb3
            by_cases hd0 : d = 0
            · have hs := HS.out
              rw [hd0, if_neg (by simp)] at hs
              have HS2 := Lib.hid hs.symm
              clear hs HS
              subst hd0
              go_wp2_with fail
              go_roundg m
              case measure => exact Nat.lt_succ_self m
              case rel => exact ⟨i + 1, by first | rfl | (simp only [hw]) | (congr 1; omega), by have := HIK.out; omega, HB3, HS2⟩
            · have hs := HS.out
              rw [if_pos hd0] at hs
              subst hs
              go_wp2_with fail
              go_ret
              exact ⟨rfl, HB4.out⟩
          · exact absurd hi (by omega)
  · go_wp2_with fail
    go_loopg [10, 11, 12, 13] N (fun kq v10 v11 v12 v13 wr => ∃ (i : Nat), v10 = .int .i64 (i : Int) ∧ i + kq = N ∧ Hid (Below w2.heap.size w2 wr) ∧ Hid (cls (ps.drop i) (os.drop i) = R))
    case atStart =>
      exact ⟨0, rfl, by omega, Lib.hid (Below.refl _ _), Lib.hid HR.out.symm⟩
    case round =>
      obtain ⟨i, rfl, hik, HB, HI⟩ := hrel
      have HBW := Lib.hid (HB2.out.trans (HB.out.mono HB2.out.size))
      cases gk with
      | zero =>
        have hin : i = N := by omega
        have hni : ¬ (i : Int) < (N : Int) := by omega
        have h0 : R = 0 := by rw [← HI.out]; exact cls_end ps os i (by rw [← HN.out]; omega) (by rw [← HM.out]; omega)
        clear hin hik
        subst h0
        go_wp2_with fail
        go_ret
        exact ⟨rfl, HBW.out⟩
      | succ m =>
        have hi : i < N := by omega
        have HIK := Lib.hid hik
        have hst := cls_step ps os i (by rw [← HN.out, ← HM.out]; omega)
        rw [HI.out] at hst
        have HS := Lib.hid hst
        have HP := Lib.hid (HU.out i wr HBW.out)
        have hw : wrap64 ((i : Int) + 1) = ((i + 1 : Nat) : Int) := by unfold wrap64; omega
        obtain ⟨su, hsu⟩ : ∃ su, su = ba (ps.getD i []) := ⟨_, rfl⟩
        obtain ⟨ou, hou⟩ : ∃ ou, ou = ba (os.getD i []) := ⟨_, rfl⟩
        obtain ⟨d, hd⟩ : ∃ d, d = cid (ps.getD i []) (os.getD i []) := ⟨_, rfl⟩
        rw [← hsu, ← hou, ← hd] at HP
        rw [← hd] at HS
        have HSU := Lib.hid hsu
        have HOU := Lib.hid hou
        clear hik hst hsu hou hd
        by_cases hiN : (i : Int) < (N : Int)
        · obtain ⟨ad, rfl, hc⟩ := getD_str (Kd.C_below HC.out HB.out) i (by omega)
          rw [getD_ba ps i (by rw [← HN.out]; omega), ← HSU.out] at hc
          by_cases hiM : (i : Int) < (M : Int)
          · obtain ⟨ad2, rfl, hc2⟩ := getD_str (Kd.C_below HD.out HB.out) i (by omega)
            rw [getD_ba os i (by rw [← HM.out]; omega), ← HOU.out] at hc2
            go_wp2_with fail
            refine HP.out.mono ?_
            rintro e w3 ⟨rfl, hb3⟩
            have HB3 := Lib.hid (HB.out.trans (hb3.mono HB.out.size))
            have HB4 := Lib.hid (HBW.out.trans (hb3.mono HBW.out.size))
            clear hb3
            by_cases hd0 : d = 0
            · have hs := HS.out
              rw [hd0, if_neg (by simp)] at hs
              have HS2 := Lib.hid hs.symm
              clear hs HS
              subst hd0
              go_wp2_with fail
              go_roundg m
              case measure => exact Nat.lt_succ_self m
              case rel => exact ⟨i + 1, by first | rfl | (simp only [hw]) | (congr 1; omega), by have := HIK.out; omega, HB3, HS2⟩
            · have hs := HS.out
              rw [if_pos hd0] at hs
              subst hs
              go_wp2_with fail
              go_ret
              exact ⟨rfl, HB4.out⟩
          · have hou : ou = ⟨#[]⟩ := by rw [HOU.out, List.getD_eq_getElem?_getD, List.getElem?_eq_none (by rw [← HM.out]; omega)]; rfl
            subst hou
            go_wp2_with fail
            refine HP.out.mono ?_
            rintro e w3 ⟨rfl, hb3⟩
            have HB3 := Lib.hid (HB.out.trans (hb3.mono HB.out.size))
            have HB4 := Lib.hid (HBW.out.trans (hb3.mono HBW.out.size))
            clear hb3
            by_cases hd0 : d = 0
            · have hs := HS.out
              rw [hd0, if_neg (by simp)] at hs
              have HS2 := Lib.hid hs.symm
              clear hs HS
              subst hd0
              go_wp2_with fail
              go_roundg m
              case measure => exact Nat.lt_succ_self m
              case rel => exact ⟨i + 1, by first | rfl | (simp only [hw]) | (congr 1; omega), by have := HIK.out; omega, HB3, HS2⟩
            · have hs := HS.out
              rw [if_pos hd0] at hs
              subst hs
              go_wp2_with fail
              go_ret
              exact ⟨rfl, HB4.out⟩
        · have hsu : su = ⟨#[]⟩ := by rw [HSU.out, List.getD_eq_getElem?_getD, List.getElem?_eq_none (by rw [← HN.out]; omega)]; rfl
          subst hsu
          by_cases hiM : (i : Int) < (M : Int)
          · exact absurd hi (by omega)
          · exact absurd hi (by omega)
end Go.Proofs.YtmoilbhkjmhoaaaDoor.Sv
