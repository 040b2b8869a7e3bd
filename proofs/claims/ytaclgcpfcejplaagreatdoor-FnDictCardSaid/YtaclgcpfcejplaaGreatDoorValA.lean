/- Walk of spec.AllRight. -/
import Derived.Test.YtaclgcpfcejplaaGreatDoorValR
namespace Go.Proofs.YtaclgcpfcejplaaGreatDoor.Vals
open Go.RowKit Go.Proofs.YtaclgcpfcejplaaGreatDoorW.PrintWords
set_option linter.unusedVariables false
set_option maxRecDepth 20000

set_option maxHeartbeats 4000000 in
theorem allRight_walk (l : List V) (A : Option Addr) (c : Nat) (xs : List Value) (P : Nat → Prop) (w : World) (hl : RowIs w P 6 (.slice A l.length c) l.length xs) (hv : IsVs w P l xs) :
    Calls Tryz.prog 5 #[.slice A l.length c] w (SomeBool fun b w' => Hid (b = true → Rights l 8 ∧ l.length ≤ 60) ∧ Below w.heap.size w w') := by
  have HEL := Lib.hid (IsVs.elem hl hv)
  obtain ⟨hnc, hcm⟩ := hl.sizes
  unfold maxLen at hcm
  clear hl hv
  obtain ⟨n, hn⟩ : ∃ n, n = l.length := ⟨_, rfl⟩
  rw [← hn] at hnc ⊢
  have HN := Lib.hid hn
  clear hn
  go_enter Tryz.func5, Tryz.ntmps5
  go_wp2_with fail
  go_loopg [3, 4] n (fun kq v3 v4 wr => ∃ (i : Nat) (left : Int), v3 = .int .i64 left ∧ v4 = .int .i64 (i : Int) ∧ i + kq = n ∧ Hid (0 ≤ left ∧ left ≤ 300) ∧ Hid (∀ j (h : j < l.length), j < i → Right l[j] 8) ∧ Hid (Below w.heap.size w wr))
  case atStart => exact ⟨0, 300, rfl, rfl, by omega, Lib.hid (by omega), Lib.hid (fun j h hj => absurd hj (by omega)), Lib.hid (Below.refl _ _)⟩
  case round =>
    obtain ⟨i, left, rfl, rfl, hik, HLF, HR, HB⟩ := hrel
    cases gk with
    | zero =>
      have hi : ¬ i < n := by omega
      have HIN := Lib.hid hik
      clear hik
      go_wp2_with fail
      go_ret
      refine ⟨_, rfl, Lib.hid (fun h => ?_), HB.out⟩
      have := HIN.out
      have hnn := HN.out
      refine ⟨Rights.mk fun j hj => HR.out j hj (by omega), ?_⟩
      have h' := of_decide_eq_true h
      omega
    | succ m =>
      have hi : i < n := by omega
      have hil : i < l.length := by have := HN.out; omega
      by_cases h60 : n ≤ 60
      · obtain ⟨b, o, kv, lv, hA, hbs, _, hI, e0, e1, e2, e3, e4, e5⟩ := HEL.out i hil
        subst hA
        obtain ⟨u, hu⟩ : ∃ u, u = l[i] := ⟨_, rfl⟩
        rw [← hu] at hI e0 e1 e2 e3
        have hcw : ∀ j, wr.cell? ⟨b, j, none⟩ = w.cell? ⟨b, j, none⟩ := fun j => HB.out.cell (p := ⟨b, j, none⟩) hbs
        have g0 := (hcw (o + i * 6)).trans e0
        have g1 := (hcw (o + i * 6 + 1)).trans e1
        have g2 := (hcw (o + i * 6 + 2)).trans e2
        have g3 := (hcw (o + i * 6 + 3)).trans e3
        have g4 := (hcw (o + i * 6 + 4)).trans e4
        have g5 := (hcw (o + i * 6 + 5)).trans e5
        have HCALL := Lib.hid (weigh_walk _ u (Nat.lt_succ_self _) kv lv P wr left 8 (IsV.keep (Kept.below HB.out) u hI) HLF.out.1 HLF.out.2 (by omega) (by omega))
        have HI := Lib.hid hI
        have HU := Lib.hid hu
        have HIK := Lib.hid hik
        have HBS := Lib.hid hbs
        clear hcw e0 e1 e2 e3 e4 e5 hI hu hik hbs
        go_wp2_with fail
        refine (HCALL.out).mono ?_
        rintro e w1 ⟨r, rfl, hr, hb1⟩
        have HB1 := Lib.hid (HB.out.trans (hb1.mono HB.out.size))
        have HRR := Lib.hid hr
        clear hr hb1
        by_cases hr0 : r < 0
        · go_wp2_with fail
          go_ret
          exact ⟨false, rfl, Lib.hid (fun h => by cases h), HB1.out⟩
        · have hcw : ∀ j, w1.cell? ⟨b, j, none⟩ = w.cell? ⟨b, j, none⟩ := fun j => HB1.out.cell (p := ⟨b, j, none⟩) HBS.out
          have hcw2 : ∀ j, wr.cell? ⟨b, j, none⟩ = w.cell? ⟨b, j, none⟩ := fun j => HB.out.cell (p := ⟨b, j, none⟩) HBS.out
          have k0 := (hcw (o + i * 6)).trans ((hcw2 _).symm.trans g0)
          have k1 := (hcw (o + i * 6 + 1)).trans ((hcw2 _).symm.trans g1)
          have k2 := (hcw (o + i * 6 + 2)).trans ((hcw2 _).symm.trans g2)
          have k3 := (hcw (o + i * 6 + 3)).trans ((hcw2 _).symm.trans g3)
          have k4 := (hcw (o + i * 6 + 4)).trans ((hcw2 _).symm.trans g4)
          have k5 := (hcw (o + i * 6 + 5)).trans ((hcw2 _).symm.trans g5)
          have HCALL2 := Lib.hid (right_walk _ u (Nat.lt_succ_self _) kv lv P w1 8 (IsV.keep (Kept.below HB1.out) u HI.out) (by omega) (by omega))
          clear hcw hcw2 g0 g1 g2 g3 g4 g5
          go_wp2_with fail
          refine (HCALL2.out).mono ?_
          rintro e w2 ⟨b2, rfl, hb, hb2⟩
          have HB2 := Lib.hid (HB1.out.trans (hb2.mono HB1.out.size))
          clear hb2
          cases b2 with
          | false =>
            go_wp2_with fail
            go_ret
            exact ⟨false, rfl, Lib.hid (fun h => by cases h), HB2.out⟩
          | true =>
            have HRT := Lib.hid (rightB_iff.1 hb.out)
            go_wp2_with fail
            go_roundg m
            case measure => exact Nat.lt_succ_self m
            case rel =>
              refine ⟨i + 1, r, rfl, by simp, by have := HIK.out; omega, Lib.hid (by have := HRR.out; omega), Lib.hid (fun j hj hji => ?_), HB2⟩
              rcases Nat.lt_succ_iff_lt_or_eq.1 hji with h | rfl
              · exact HR.out j hj h
              · rw [← HU.out]; exact HRT.out
      · have HIK := Lib.hid hik
        clear hik
        go_wp2_with fail
        go_ret
        refine ⟨_, rfl, Lib.hid (fun h => ?_), HB.out⟩
        exact absurd (by have h' := of_decide_eq_true h; omega) h60
end Go.Proofs.YtaclgcpfcejplaaGreatDoor.Vals
