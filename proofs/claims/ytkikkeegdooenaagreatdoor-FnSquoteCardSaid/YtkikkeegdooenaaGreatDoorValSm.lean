/- Walk of spec.Simple. -/
import Derived.Test.YtkikkeegdooenaaGreatDoorValSq
import Derived.Test.YtkikkeegdooenaaGreatDoorUtf
import Derived.Test.YtkikkeegdooenaaGreatDoorBox6
namespace Go.Proofs.YtkikkeegdooenaaGreatDoor.Vals
open Go.RowKit Go.ChangeMaps Go.Proofs.YtkikkeegdooenaaGreatDoorW.PrintWords Go.Proofs.YtkikkeegdooenaaGreatDoor.Txt Go.Proofs.YtkikkeegdooenaaGreatDoor.Giv
set_option linter.unusedVariables false
set_option maxRecDepth 20000

set_option maxHeartbeats 4000000 in
theorem simple_walk (l : List V) (A : Option Addr) (c : Nat) (xs : List Value) (P : Nat → Prop) (w : World) (hl : RowIs w P 6 (.slice A l.length c) l.length xs) (hv : IsVs w P l xs) :
    Calls Tryz.prog 11 #[.slice A l.length c] w (SomeBool fun b w' => Hid (b = true → (∀ v ∈ l, Simp v) ∧ l.length ≤ 20) ∧ Below w.heap.size w w') := by
  have HEL := Lib.hid (IsVs.elem hl hv)
  obtain ⟨hnc, hcm⟩ := hl.sizes
  unfold maxLen at hcm
  clear hl hv
  obtain ⟨n, hn⟩ : ∃ n, n = l.length := ⟨_, rfl⟩
  rw [← hn] at hnc ⊢
  have HN := Lib.hid hn
  clear hn
  go_enter Tryz.func11, Tryz.ntmps11
  go_wp2_with fail
  go_loopg [4, 7] n (fun kq v4 v7 wr => ∃ (i : Nat) (z : Value), v4 = z ∧ v7 = .int .i64 (i : Int) ∧ i + kq = n ∧ Hid (∀ j (h : j < l.length), j < i → Simp l[j]) ∧ Hid (Below w.heap.size w wr))
  case atStart => exact ⟨0, _, rfl, rfl, by omega, Lib.hid (fun j h hj => absurd hj (by omega)), Lib.hid (Below.refl _ _)⟩
  case round =>
    obtain ⟨i, z, rfl, rfl, hik, HR, HB⟩ := hrel
    cases gk with
    | zero =>
      have hi : ¬ i < n := by omega
      have HIN := Lib.hid hik
      clear hik
      go_wp2_with fail
      go_ret
      refine ⟨_, rfl, Lib.hid (fun h => ?_), HB.out⟩
      have := HIN.out
      have hnn := HN.out
      refine ⟨fun v hv => ?_, ?_⟩
      · obtain ⟨j, hj, e⟩ := List.mem_iff_getElem.1 hv
        rw [← e]
        exact HR.out j hj (by omega)
      · have h' := of_decide_eq_true h
        omega
    | succ m =>
      have hi : i < n := by omega
      have hil : i < l.length := by have := HN.out; omega
      obtain ⟨b, o, kv, lv, hA, hbs, _, hI, e0, e1, e2, e3, e4, e5⟩ := HEL.out i hil
      subst hA
      obtain ⟨u, hu⟩ : ∃ u, u = l[i] := ⟨_, rfl⟩
      rw [← hu] at hI e0 e1 e2 e3
      have hcw : ∀ j, wr.cell? ⟨b, j, none⟩ = w.cell? ⟨b, j, none⟩ := fun j => HB.out.cell (p := ⟨b, j, none⟩) hbs
      have g0 := (hcw (o + i * 6)).trans e0
      have g1 := (hcw (o + i * 6 + 1)).trans e1
      have g2 := (hcw (o + i * 6 + 2)).trans e2
      have g3 := (hcw (o + i * 6 + 3)).trans e3
      have g4 := (hcw (o + i * 6 + 4)).trans e4
      have g5 := (hcw (o + i * 6 + 5)).trans e5
      obtain ⟨xs', hk, hlv, _, h64k, h64n, ht, _⟩ := hI.parts
      obtain ⟨Ak, ck, rfl, hkc, hkm, _⟩ := hk.form
      obtain ⟨Al, cl, rfl, hlc, hlm, _⟩ := hlv.form
      obtain ⟨k, n', r, t, ks, ls⟩ := u
      simp only [V.k, V.n, V.r, V.t, V.ks, V.l] at *
      have HU := Lib.hid hu
      have HIK := Lib.hid hik
      have H64 := Lib.hid (And.intro h64k h64n)
      have HBX := HB
      unfold maxLen at hkm hlm ht
      clear hcw e0 e1 e2 e3 e4 e5 hI hu hik hbs hk hlv h64k h64n
      have hsf := store_float
      have HBA : Hid (∀ o, Below w.heap.size w (wr.alloc o)) := Lib.hid fun o => HBX.out.alloc HBX.out.size _
      by_cases c0 : k < 0
      · go_wp2_with fail
        go_ret
        exact ⟨false, rfl, Lib.hid (fun h => by cases h), HBA.out _⟩
      by_cases c1 : 5 < k
      · go_wp2_with fail
        go_ret
        exact ⟨false, rfl, Lib.hid (fun h => by cases h), HBA.out _⟩
      by_cases c2 : k = 4
      · subst c2
        go_wp2_with fail
        go_ret
        exact ⟨false, rfl, Lib.hid (fun h => by cases h), HBA.out _⟩
      have c2b : (k == 4) = false := by simp [c2]
      cases c3 : FloatKind.f64.format.order r 0 == some .eq with
      | false =>
        have c3b : (FloatKind.f64.format.order r 0 != some .eq) = true := by unfold bne; rw [c3]; rfl
        go_wp2_with fail
        go_ret
        exact ⟨false, rfl, Lib.hid (fun h => by cases h), HBA.out _⟩
      | true =>
      have c3b : (FloatKind.f64.format.order r 0 != some .eq) = false := by unfold bne; rw [c3]; rfl
      clear c3
      by_cases c4 : 0 < ks.length
      · go_wp2_with fail
        go_ret
        exact ⟨false, rfl, Lib.hid (fun h => by cases h), HBA.out _⟩
      by_cases c5 : 0 < ls.length
      · go_wp2_with fail
        go_ret
        exact ⟨false, rfl, Lib.hid (fun h => by cases h), HBA.out _⟩
      by_cases c6 : 500 < t.size
      · have c6i : (500 : Int) < (t.size : Int) := by omega
        go_wp2_with fail
        go_ret
        exact ⟨false, rfl, Lib.hid (fun h => by cases h), HBA.out _⟩
      have c6i : ¬ (500 : Int) < (t.size : Int) := by omega
      have HUT : Hid (∀ W, Calls Tryz.prog 15 #[.string t] W fun e w' => e = .returned (.bool (Giv.utf8 t)) ∧ Below W.heap.size W w') := Lib.hid fun W => Giv.spec_UTF8.calls t (Giv.utf8 t) W (by unfold Giv.spec_UTF8.f; rw [if_pos (by omega)])
      obtain ⟨ub, hub⟩ : ∃ ub, ub = Giv.utf8 t := ⟨_, rfl⟩
      rw [← hub] at HUT
      clear hub
      obtain ⟨wB, hwB⟩ : ∃ wB, wB = wr.alloc (.cells #[.int .i64 k, .int .i64 n', .float .f64 r, .string t, .slice Ak ks.length ck, .slice Al ls.length cl] 42) := ⟨_, rfl⟩
      have HX := Lib.hid (show Box6 wB wr.heap.size _ _ _ _ _ _ from by rw [hwB]; exact Box6.new wr _ _ _ _ _ _)
      have HBW : Hid (Below w.heap.size w wB) := Lib.hid (by rw [hwB]; exact HBA.out _)
      go_wp2_with fail
      rw [← hwB]
      refine (HUT.out _).mono ?_
      rintro e w1 ⟨rfl, hb1⟩
      have HX1 := Lib.hid (HX.out.below hb1)
      have HB1 := Lib.hid (HBW.out.trans (hb1.mono HBW.out.size))
      clear hb1 hwB
      obtain ⟨q0, q1, q2, q3, q4, q5⟩ := HX1.out.cells
      cases ub with
      | false =>
        go_wp2_with fail
        go_ret
        exact ⟨false, rfl, Lib.hid (fun h => by cases h), HB1.out⟩
      | true =>
      have hacc : (k = 0 ∨ (k = 1 ∧ (n' = 0 ∨ n' = 1)) ∨ k = 2 ∨ k = 3 ∨ k = 5) → ∀ j (h : j < l.length), j < i + 1 → Simp l[j] := fun hd j hj hji => by
        by_cases e : j = i
        · subst e
          rw [← HU.out]
          exact ⟨H64.out.2, by show t.size ≤ 500; omega, hd⟩
        · exact HR.out j hj (by omega)
      have hkd : k = 0 ∨ k = 1 ∨ k = 2 ∨ k = 3 ∨ k = 5 := by omega
      clear c0 c1 c2 c2b c3b c4 c5 c6 c6i g0 g1 g2 g3 g4 g5 HUT
      rcases hkd with rfl | rfl | rfl | rfl | rfl
      · cases ht0 : t.toList == [] with
        | false =>
          go_wp2_with fail
          go_ret
          exact ⟨false, rfl, Lib.hid (fun h => by cases h), HB1.out⟩
        | true =>
          by_cases hn0 : n' = 0
          · subst hn0
            go_wp2_with fail
            go_roundg m
            case measure => exact Nat.lt_succ_self m
            case rel => exact ⟨i + 1, _, rfl, by simp, by have := HIK.out; omega, Lib.hid (hacc (by simp)), HB1⟩
          have hn0b : (n' == 0) = false := by simp [hn0]
          go_wp2_with fail
          go_ret
          exact ⟨false, rfl, Lib.hid (fun h => by cases h), HB1.out⟩
      · cases ht0 : t.toList == [] with
        | false =>
          go_wp2_with fail
          go_ret
          exact ⟨false, rfl, Lib.hid (fun h => by cases h), HB1.out⟩
        | true =>
          by_cases hn0 : n' = 0
          · subst hn0
            go_wp2_with fail
            go_roundg m
            case measure => exact Nat.lt_succ_self m
            case rel => exact ⟨i + 1, _, rfl, by simp, by have := HIK.out; omega, Lib.hid (hacc (by simp)), HB1⟩
          by_cases hn1 : n' = 1
          · subst hn1
            go_wp2_with fail
            go_roundg m
            case measure => exact Nat.lt_succ_self m
            case rel => exact ⟨i + 1, _, rfl, by simp, by have := HIK.out; omega, Lib.hid (hacc (by simp)), HB1⟩
          have hn0b : (n' == 0) = false := by simp [hn0]
          have hn1b : (n' == 1) = false := by simp [hn1]
          have hn0c : (n' != 0) = true := by simp [hn0]
          have hn1c : (n' != 1) = true := by simp [hn1]
          go_wp2_with fail
          · go_ret
            exact ⟨false, rfl, Lib.hid (fun h => by cases h), HB1.out⟩
          all_goals (exfalso; simp_all)
      · cases ht0 : t.toList == [] with
        | false =>
          go_wp2_with fail
          go_ret
          exact ⟨false, rfl, Lib.hid (fun h => by cases h), HB1.out⟩
        | true =>
          go_wp2_with fail
          go_roundg m
          case measure => exact Nat.lt_succ_self m
          case rel => exact ⟨i + 1, _, rfl, by simp, by have := HIK.out; omega, Lib.hid (hacc (by simp)), HB1⟩
      · cases ht0 : t.toList == [] with
        | false =>
          go_wp2_with fail
          go_ret
          exact ⟨false, rfl, Lib.hid (fun h => by cases h), HB1.out⟩
        | true =>
          go_wp2_with fail
          go_roundg m
          case measure => exact Nat.lt_succ_self m
          case rel => exact ⟨i + 1, _, rfl, by simp, by have := HIK.out; omega, Lib.hid (hacc (by simp)), HB1⟩
      · by_cases hn0 : n' = 0
        · subst hn0
          go_wp2_with fail
          go_roundg m
          case measure => exact Nat.lt_succ_self m
          case rel => exact ⟨i + 1, _, rfl, by simp, by have := HIK.out; omega, Lib.hid (hacc (by simp)), HB1⟩
        have hn0b : (n' == 0) = false := by simp [hn0]
        go_wp2_with fail
        go_ret
        exact ⟨false, rfl, Lib.hid (fun h => by cases h), HB1.out⟩
end Go.Proofs.YtkikkeegdooenaaGreatDoor.Vals
