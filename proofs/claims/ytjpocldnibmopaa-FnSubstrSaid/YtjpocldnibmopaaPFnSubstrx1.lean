-- Written by gprint.py (a program of this session, over the kit's print) out of Lean's own print of the program.
import Derived.Test.YtjpocldnibmopaaPFnSubstrx0
namespace Go.Proofs.Ytjpocldnibmopaa.PFnSubstr
open Go.Proofs.Ytjpocldnibmopaa.Giv
open Go.RowKit Go.Proofs.YtjpocldnibmopaaW.PrintWords Go.Proofs.YtjpocldnibmopaaW.PrintLast Go.Proofs.YtjpocldnibmopaaW.PrintMore
attribute [local go_sem] max2_int min2_int max_two min_two max_three min_three max_four min_four   -- for this text's walks alone
set_option linter.unusedVariables false
set_option linter.unusedSimpArgs false

/-! ### spec_Substr: function 16 -/
mutual
def spec_Substr.j0 : Nat → Int → Int → ByteArray → Bool → Option (ByteArray × Bool)
  | 0, _, _, _, _ => none
  | k + 1, x0, x1, x2, x18 => if x18 = true then (some ((⟨#[]⟩ : ByteArray), false)) else (if x0 > x1 then (some ((⟨#[]⟩ : ByteArray), false)) else (if 0 ≤ x0 then (if x0 ≤ x1 then (if x1 ≤ (x2.size : Int) then (some (x2.extract (x0 : Int).toNat (x1 : Int).toNat, true)) else (none)) else (none)) else (none)))
def spec_Substr.j1 : Nat → Int → Int → ByteArray → Bool → Option (ByteArray × Bool)
  | 0, _, _, _, _ => none
  | k + 1, x0, x1, x2, x19 => if x19 = true then (if x0 > (x2.size : Int) then (some ((⟨#[]⟩ : ByteArray), false)) else (if 0 ≤ x0 then (if x0 ≤ (x2.size : Int) then (if (x2.size : Int) ≤ (x2.size : Int) then (some (x2.extract (x0 : Int).toNat ((x2.size : Int) : Int).toNat, true)) else (none)) else (none)) else (none))) else (if x0 > x1 then (some ((⟨#[]⟩ : ByteArray), false)) else (if 0 ≤ x0 then (if x0 ≤ x1 then (if x1 ≤ (x2.size : Int) then (some (x2.extract (x0 : Int).toNat (x1 : Int).toNat, true)) else (none)) else (none)) else (none)))
end
def spec_Substr.f (k : Nat) (a0 : Int) (a1 : Int) (a2 : ByteArray) : Option (ByteArray × Bool) := if a0 < 0 then (if a1 < 0 then (spec_Substr.j0 k 0 a1 a2 true) else (spec_Substr.j0 k 0 a1 a2 (decide (a1 > (a2.size : Int))))) else (if a1 < 0 then (spec_Substr.j1 k a0 a1 a2 true) else (spec_Substr.j1 k a0 a1 a2 (decide (a1 > (a2.size : Int)))))
theorem spec_Substr.mono_l : ∀ k, (∀ y0 y1 y2 y3, LeO (spec_Substr.j0 k y0 y1 y2 y3) (spec_Substr.j0 (k + 1) y0 y1 y2 y3)) ∧ (∀ y0 y1 y2 y3, LeO (spec_Substr.j1 k y0 y1 y2 y3) (spec_Substr.j1 (k + 1) y0 y1 y2 y3))
  | 0 => ⟨fun _ _ _ _ r h => by simp [spec_Substr.j0] at h, fun _ _ _ _ r h => by simp [spec_Substr.j1] at h⟩
  | k + 1 => by
    obtain ⟨ih0, ih1⟩ := spec_Substr.mono_l k
    refine ⟨?_, ?_⟩
    · intro y0 y1 y2 y3
      unfold spec_Substr.j0
      repeat' first
      | (with_reducible exact ih0 _ _ _ _)
      | (with_reducible exact ih1 _ _ _ _)
      | (with_reducible exact LeO.refl _)
      | (with_reducible exact LeO.none _)
      | (with_reducible refine LeO.ite ?_ ?_)
      | (with_reducible refine LeO.bind ?_ (fun _ => ?_))
      | exact ih0 _ _ _ _
      | exact ih1 _ _ _ _
      | exact LeO.none _
      | refine LeO.ite ?_ ?_
      | refine LeO.bind ?_ (fun _ => ?_)
    · intro y0 y1 y2 y3
      unfold spec_Substr.j1
      repeat' first
      | (with_reducible exact ih0 _ _ _ _)
      | (with_reducible exact ih1 _ _ _ _)
      | (with_reducible exact LeO.refl _)
      | (with_reducible exact LeO.none _)
      | (with_reducible refine LeO.ite ?_ ?_)
      | (with_reducible refine LeO.bind ?_ (fun _ => ?_))
      | exact ih0 _ _ _ _
      | exact ih1 _ _ _ _
      | exact LeO.none _
      | refine LeO.ite ?_ ?_
      | refine LeO.bind ?_ (fun _ => ?_)
theorem spec_Substr.mono : ∀ a0 a1 a2 k, LeO (spec_Substr.f k a0 a1 a2) (spec_Substr.f (k + 1) a0 a1 a2) := by
  intro a0 a1 a2 k
  obtain ⟨ih0, ih1⟩ := spec_Substr.mono_l k
  unfold spec_Substr.f
  repeat' first
      | (with_reducible exact ih0 _ _ _ _)
      | (with_reducible exact ih1 _ _ _ _)
      | (with_reducible exact LeO.refl _)
      | (with_reducible exact LeO.none _)
      | (with_reducible refine LeO.ite ?_ ?_)
      | (with_reducible refine LeO.bind ?_ (fun _ => ?_))
      | exact ih0 _ _ _ _
      | exact ih1 _ _ _ _
      | exact LeO.none _
      | refine LeO.ite ?_ ?_
      | refine LeO.bind ?_ (fun _ => ?_)
set_option maxHeartbeats 8000000 in
set_option maxRecDepth 100000 in
theorem spec_Substr.calls (k : Nat) (a0 : Int) (a1 : Int) (a2 : ByteArray) (r1 : ByteArray) (r2 : Bool) (w : World) (h : spec_Substr.f k a0 a1 a2 = some (r1, r2)) :
    Calls Try.prog 16 #[.int .i64 a0, .int .i64 a1, .string a2] w fun e w' => e = .returned (.tuple #[.string r1, .bool r2]) ∧ Drawn0 w w' := by
  have H : (if a0 < 0 then (if a1 < 0 then (spec_Substr.j0 k 0 a1 a2 true) else (spec_Substr.j0 k 0 a1 a2 (decide (a1 > (a2.size : Int))))) else (if a1 < 0 then (spec_Substr.j1 k a0 a1 a2 true) else (spec_Substr.j1 k a0 a1 a2 (decide (a1 > (a2.size : Int)))))) = some (r1, r2) := h
  clear h
  by_cases c4 : a0 < 0
  · rw [if_pos c4] at H
    have c4b0 : decide (a0 < 0) = true := decide_eq_true c4
    clear c4
    have HC5 := Aside0.mk H
    clear H
    go_enter Try.func16, Try.ntmps16
    go_upto_region 3 with (fail)
    go_cut [18] (fun v18 wc => ∃ (kq : Nat) (x18_4 : Bool), v18 = .bool x18_4 ∧ Aside0 (spec_Substr.j0 kq 0 a1 a2 x18_4 = some (r1, r2)) ∧ Aside0 (kq ≤ k) ∧ Drawn0 w wc)
    case first =>
      have H := HC5.out
      clear HC5
      by_cases c6 : a1 < 0
      · rw [if_pos c6] at H
        have c6b0 : decide (a1 < 0) = true := decide_eq_true c6
        clear c6
        (first | rw [c6b0] | (simp only [i64_w, i32_w]; rw [c6b0]) | skip)
        have H' := Aside0.mk H
        clear H
        go_wp2
        go_meet
        case rel => exact ⟨_, (true), (by first | rfl | (simp; done) | (simp [*]; done)), H', ⟨by first | omega | exact Nat.le_refl _⟩, by repeat (first | exact Drawn0.refl _ | apply Drawn0.step)⟩
      · rw [if_neg c6] at H
        have c6b0 : decide (a1 < 0) = false := decide_eq_false c6
        clear c6
        (first | rw [c6b0] | (simp only [i64_w, i32_w]; rw [c6b0]) | skip)
        have H' := Aside0.mk H
        clear H
        go_wp2
        go_meet
        case rel => exact ⟨_, (decide (a1 > (a2.size : Int))), (by first | rfl | (simp; done) | (simp [*]; done)), H', ⟨by first | omega | exact Nat.le_refl _⟩, by repeat (first | exact Drawn0.refl _ | apply Drawn0.step)⟩
    case rest =>
      clear HC5
      try clear c1
      try clear p2
      try clear c4
      try clear c4b0
      try clear c6
      try clear c6b0
      obtain ⟨kq, x18_4, rfl, HA, HJ4, ⟨mc4, rfl⟩⟩ := hcut
      cases kq with
      | zero => exact absurd HA.out (by simp [spec_Substr.j0])
      | succ kj4 =>
        have H := HA.out
        clear HA
        simp only [spec_Substr.j0] at H
        by_cases c7 : x18_4 = true
        · subst c7
          have H1 : (some ((⟨#[]⟩ : ByteArray), false)) = some (r1, r2) := by rw [if_pos rfl] at H; exact H
          clear H
          have H := H1
          clear H1
          simp only [Option.some.injEq, Prod.mk.injEq] at H
          obtain ⟨rfl, rfl⟩ := H
          go_wp2
          go_ret2
          exact ⟨by first | rfl | (simp; done) | (simp [*]; done), by repeat (first | exact Drawn0.refl _ | apply Drawn0.step)⟩
        · replace c7 := Bool.eq_false_iff.mpr c7
          subst c7
          have H1 : (if 0 > a1 then (some ((⟨#[]⟩ : ByteArray), false)) else (if 0 ≤ 0 then (if 0 ≤ a1 then (if a1 ≤ (a2.size : Int) then (some (a2.extract (0 : Int).toNat (a1 : Int).toNat, true)) else (none)) else (none)) else (none))) = some (r1, r2) := by rw [if_neg (show ¬ (false = true) by decide)] at H; exact H
          clear H
          have H := H1
          clear H1
          by_cases c8 : 0 > a1
          · rw [if_pos c8] at H
            have c8b0 : decide (a1 < 0) = true := decide_eq_true c8
            clear c8
            simp only [Option.some.injEq, Prod.mk.injEq] at H
            obtain ⟨rfl, rfl⟩ := H
            go_wp2
            go_ret2
            exact ⟨by first | rfl | (simp; done) | (simp [*]; done), by repeat (first | exact Drawn0.refl _ | apply Drawn0.step)⟩
          · rw [if_neg c8] at H
            have c8b0 : decide (a1 < 0) = false := decide_eq_false c8
            clear c8
            by_cases c9 : 0 ≤ 0
            · rw [if_pos c9] at H
              have c9b0 := eq_true c9
              have c9b1 : decide (0 ≤ 0) = true := decide_eq_true c9
              clear c9
              by_cases c10 : 0 ≤ a1
              · rw [if_pos c10] at H
                have c10b0 := eq_true c10
                have c10b1 : decide (0 ≤ a1) = true := decide_eq_true c10
                clear c10
                by_cases c11 : a1 ≤ (a2.size : Int)
                · rw [if_pos c11] at H
                  have c11b0 := eq_true c11
                  have c11b1 : decide (a1 ≤ (a2.size : Int)) = true := decide_eq_true c11
                  clear c11
                  simp only [Option.some.injEq, Prod.mk.injEq] at H
                  obtain ⟨rfl, rfl⟩ := H
                  go_wp2
                  go_ret2
                  exact ⟨by first | rfl | (simp; done) | (simp [*]; done), by repeat (first | exact Drawn0.refl _ | apply Drawn0.step)⟩
                · rw [if_neg c11] at H
                  exact absurd H (by simp)
              · rw [if_neg c10] at H
                exact absurd H (by simp)
            · rw [if_neg c9] at H
              exact absurd H (by simp)
  · rw [if_neg c4] at H
    have c4b0 : decide (a0 < 0) = false := decide_eq_false c4
    clear c4
    have HC12 := Aside0.mk H
    clear H
    go_enter Try.func16, Try.ntmps16
    go_upto_region 5 with (fail)
    go_cut [19] (fun v19 wc => ∃ (kq : Nat) (x19_11 : Bool), v19 = .bool x19_11 ∧ Aside0 (spec_Substr.j1 kq a0 a1 a2 x19_11 = some (r1, r2)) ∧ Aside0 (kq ≤ k) ∧ Drawn0 w wc)
    case first =>
      have H := HC12.out
      clear HC12
      by_cases c13 : a1 < 0
      · rw [if_pos c13] at H
        have c13b0 : decide (a1 < 0) = true := decide_eq_true c13
        clear c13
        (first | rw [c13b0] | (simp only [i64_w, i32_w]; rw [c13b0]) | skip)
        have H' := Aside0.mk H
        clear H
        go_wp2
        go_meet
        case rel => exact ⟨_, (true), (by first | rfl | (simp; done) | (simp [*]; done)), H', ⟨by first | omega | exact Nat.le_refl _⟩, by repeat (first | exact Drawn0.refl _ | apply Drawn0.step)⟩
      · rw [if_neg c13] at H
        have c13b0 : decide (a1 < 0) = false := decide_eq_false c13
        clear c13
        (first | rw [c13b0] | (simp only [i64_w, i32_w]; rw [c13b0]) | skip)
        have H' := Aside0.mk H
        clear H
        go_wp2
        go_meet
        case rel => exact ⟨_, (decide (a1 > (a2.size : Int))), (by first | rfl | (simp; done) | (simp [*]; done)), H', ⟨by first | omega | exact Nat.le_refl _⟩, by repeat (first | exact Drawn0.refl _ | apply Drawn0.step)⟩
    case rest =>
      clear HC12
      try clear c1
      try clear p2
      try clear c4
      try clear c4b0
      try clear c6
      try clear c6b0
      try clear c7
      try clear c8
      try clear c8b0
      try clear c9
      try clear c9b0
      try clear c9b1
      try clear c10
      try clear c10b0
      try clear c10b1
      try clear c11
      try clear c11b0
      try clear c11b1
      try clear c13
      try clear c13b0
      try clear p2
      obtain ⟨kq, x19_11, rfl, HA, HJ11, ⟨mc11, rfl⟩⟩ := hcut
      cases kq with
      | zero => exact absurd HA.out (by simp [spec_Substr.j1])
      | succ kj11 =>
        have H := HA.out
        clear HA
        simp only [spec_Substr.j1] at H
        by_cases c14 : x19_11 = true
        · subst c14
          have H1 : (if a0 > (a2.size : Int) then (some ((⟨#[]⟩ : ByteArray), false)) else (if 0 ≤ a0 then (if a0 ≤ (a2.size : Int) then (if (a2.size : Int) ≤ (a2.size : Int) then (some (a2.extract (a0 : Int).toNat ((a2.size : Int) : Int).toNat, true)) else (none)) else (none)) else (none))) = some (r1, r2) := by rw [if_pos rfl] at H; exact H
          clear H
          have H := H1
          clear H1
          by_cases c15 : a0 > (a2.size : Int)
          · rw [if_pos c15] at H
            have c15b0 : decide ((a2.size : Int) < a0) = true := decide_eq_true c15
            clear c15
            simp only [Option.some.injEq, Prod.mk.injEq] at H
            obtain ⟨rfl, rfl⟩ := H
            go_wp2
            go_ret2
            exact ⟨by first | rfl | (simp; done) | (simp [*]; done), by repeat (first | exact Drawn0.refl _ | apply Drawn0.step)⟩
          · rw [if_neg c15] at H
            have c15b0 : decide ((a2.size : Int) < a0) = false := decide_eq_false c15
            clear c15
            by_cases c16 : 0 ≤ a0
            · rw [if_pos c16] at H
              have c16b0 := eq_true c16
              have c16b1 : decide (0 ≤ a0) = true := decide_eq_true c16
              clear c16
              by_cases c17 : a0 ≤ (a2.size : Int)
              · rw [if_pos c17] at H
                have c17b0 := eq_true c17
                have c17b1 : decide (a0 ≤ (a2.size : Int)) = true := decide_eq_true c17
                clear c17
                by_cases c18 : (a2.size : Int) ≤ (a2.size : Int)
                · rw [if_pos c18] at H
                  have c18b0 := eq_true c18
                  have c18b1 : decide ((a2.size : Int) ≤ (a2.size : Int)) = true := decide_eq_true c18
                  clear c18
                  simp only [Option.some.injEq, Prod.mk.injEq] at H
                  obtain ⟨rfl, rfl⟩ := H
                  go_wp2
                  go_ret2
                  exact ⟨by first | rfl | (simp; done) | (simp [*]; done), by repeat (first | exact Drawn0.refl _ | apply Drawn0.step)⟩
                · rw [if_neg c18] at H
                  exact absurd H (by simp)
              · rw [if_neg c17] at H
                exact absurd H (by simp)
            · rw [if_neg c16] at H
              exact absurd H (by simp)
        · replace c14 := Bool.eq_false_iff.mpr c14
          subst c14
          have H1 : (if a0 > a1 then (some ((⟨#[]⟩ : ByteArray), false)) else (if 0 ≤ a0 then (if a0 ≤ a1 then (if a1 ≤ (a2.size : Int) then (some (a2.extract (a0 : Int).toNat (a1 : Int).toNat, true)) else (none)) else (none)) else (none))) = some (r1, r2) := by rw [if_neg (show ¬ (false = true) by decide)] at H; exact H
          clear H
          have H := H1
          clear H1
          by_cases c19 : a0 > a1
          · rw [if_pos c19] at H
            have c19b0 : decide (a1 < a0) = true := decide_eq_true c19
            clear c19
            simp only [Option.some.injEq, Prod.mk.injEq] at H
            obtain ⟨rfl, rfl⟩ := H
            go_wp2
            go_ret2
            exact ⟨by first | rfl | (simp; done) | (simp [*]; done), by repeat (first | exact Drawn0.refl _ | apply Drawn0.step)⟩
          · rw [if_neg c19] at H
            have c19b0 : decide (a1 < a0) = false := decide_eq_false c19
            clear c19
            by_cases c20 : 0 ≤ a0
            · rw [if_pos c20] at H
              have c20b0 := eq_true c20
              have c20b1 : decide (0 ≤ a0) = true := decide_eq_true c20
              clear c20
              by_cases c21 : a0 ≤ a1
              · rw [if_pos c21] at H
                have c21b0 := eq_true c21
                have c21b1 : decide (a0 ≤ a1) = true := decide_eq_true c21
                clear c21
                by_cases c22 : a1 ≤ (a2.size : Int)
                · rw [if_pos c22] at H
                  have c22b0 := eq_true c22
                  have c22b1 : decide (a1 ≤ (a2.size : Int)) = true := decide_eq_true c22
                  clear c22
                  simp only [Option.some.injEq, Prod.mk.injEq] at H
                  obtain ⟨rfl, rfl⟩ := H
                  go_wp2
                  go_ret2
                  exact ⟨by first | rfl | (simp; done) | (simp [*]; done), by repeat (first | exact Drawn0.refl _ | apply Drawn0.step)⟩
                · rw [if_neg c22] at H
                  exact absurd H (by simp)
              · rw [if_neg c21] at H
                exact absurd H (by simp)
            · rw [if_neg c20] at H
              exact absurd H (by simp)

-- NOT PRINTED: function 40 (impl_caught)

-- GIVEN: function 17 (impl_Substr): a contract of ours

/-! ### laws_FnSubstr: function 5 -/
def laws_FnSubstr.f (k : Nat) (a0 : Int) (a1 : Int) (a2 : ByteArray) : Option (Bool) := if (a2.size : Int) > 2147483647 then (some true) else (if (a2.size : Int) > 500 then (some true) else ((spec_Substr.f k a0 a1 a2).bind fun bt101 => ((impl_Substr.f a0 a1 a2).bind fun bt103 => (if (bt103.2 == bt101.2) = true then (if bt103.2 = true then (some (bt103.1.toList == bt101.1.toList)) else (some true)) else (some false)))))
theorem laws_FnSubstr.mono : ∀ a0 a1 a2 k, LeO (laws_FnSubstr.f k a0 a1 a2) (laws_FnSubstr.f (k + 1) a0 a1 a2) := by
  intro a0 a1 a2 k
  unfold laws_FnSubstr.f
  repeat' first
      | (with_reducible exact spec_Substr.mono _ _ _ _)
      | (with_reducible exact LeO.refl _)
      | (with_reducible exact LeO.none _)
      | (with_reducible refine LeO.ite ?_ ?_)
      | (with_reducible refine LeO.bind ?_ (fun _ => ?_))
      | exact spec_Substr.mono _ _ _ _
      | exact LeO.none _
      | refine LeO.ite ?_ ?_
      | refine LeO.bind ?_ (fun _ => ?_)
set_option maxHeartbeats 8000000 in
set_option maxRecDepth 100000 in
theorem laws_FnSubstr.calls (k : Nat) (a0 : Int) (a1 : Int) (a2 : ByteArray) (r : Bool) (w : World) (h : laws_FnSubstr.f k a0 a1 a2 = some r) :
    Calls Try.prog 5 #[.int .i64 a0, .int .i64 a1, .string a2] w fun e w' => e = .returned (.bool r) ∧ Below w.heap.size w w' := by
  have HB := Aside0.mk (Below.refl w.heap.size w)
  have H : (if (a2.size : Int) > 2147483647 then (some true) else (if (a2.size : Int) > 500 then (some true) else ((spec_Substr.f k a0 a1 a2).bind fun bt101 => ((impl_Substr.f a0 a1 a2).bind fun bt103 => (if (bt103.2 == bt101.2) = true then (if bt103.2 = true then (some (bt103.1.toList == bt101.1.toList)) else (some true)) else (some false)))))) = some r := h
  clear h
  by_cases c4 : (a2.size : Int) > 2147483647
  · rw [if_pos c4] at H
    have c4b0 : decide (2147483647 < (a2.size : Int)) = true := decide_eq_true c4
    have c4b1 : decide (2147483647 < a2.size) = true := decide_eq_true (by omega)
    clear c4
    obtain rfl := Option.some.inj H
    go_enter Try.func5, Try.ntmps5
    go_wp2
    go_ret
    exact ⟨by first | rfl | (simp [errW_none, errW_some] <;> rfl) | (simp [*, errW_none, errW_some] <;> rfl), by repeat (first | (with_reducible first | exact HB.out | apply below_alloc | apply pw_below_drewN | apply below_drew1) | exact HB.out)⟩
  · rw [if_neg c4] at H
    have c4b0 : decide (2147483647 < (a2.size : Int)) = false := decide_eq_false c4
    have c4b1 : decide (2147483647 < a2.size) = false := decide_eq_false (by omega)
    clear c4
    by_cases c5 : (a2.size : Int) > 500
    · rw [if_pos c5] at H
      have c5b0 : decide (500 < (a2.size : Int)) = true := decide_eq_true c5
      have c5b1 : decide (500 < a2.size) = true := decide_eq_true (by omega)
      clear c5
      obtain rfl := Option.some.inj H
      go_enter Try.func5, Try.ntmps5
      go_wp2
      go_ret
      exact ⟨by first | rfl | (simp [errW_none, errW_some] <;> rfl) | (simp [*, errW_none, errW_some] <;> rfl), by repeat (first | (with_reducible first | exact HB.out | apply below_alloc | apply pw_below_drewN | apply below_drew1) | exact HB.out)⟩
    · rw [if_neg c5] at H
      have c5b0 : decide (500 < (a2.size : Int)) = false := decide_eq_false c5
      have c5b1 : decide (500 < a2.size) = false := decide_eq_false (by omega)
      clear c5
      replace H := Option.bind_eq_some_iff.mp H
      obtain ⟨⟨t101, t102⟩, A60, H⟩ := H
      replace H : ((impl_Substr.f a0 a1 a2).bind fun bt103 => (if (bt103.2 == t102) = true then (if bt103.2 = true then (some (bt103.1.toList == t101.toList)) else (some true)) else (some false))) = some r := H
      have A6 := Aside0.mk A60
      clear A60
      replace H := Option.bind_eq_some_iff.mp H
      obtain ⟨⟨t103, t104⟩, A70, H⟩ := H
      replace H : (if (t104 == t102) = true then (if t104 = true then (some (t103.toList == t101.toList)) else (some true)) else (some false)) = some r := H
      have A7 := Aside0.mk A70
      clear A70
      by_cases c8 : (t104 == t102) = true
      · rw [if_pos c8] at H
        have c8b0 : (t104 == t102) = true := c8
        (try (have c8b1 : decide (t104 = t102) = true := by simpa using c8))
        (try (have c8b2 : (t104 == t102) = true := by simpa using c8))
        clear c8
        by_cases c9 : t104 = true
        · subst c9
          have H1 : (some (t103.toList == t101.toList)) = some r := by rw [if_pos rfl] at H; exact H
          clear H
          have H := H1
          clear H1
          obtain rfl := Option.some.inj H
          go_enter Try.func5, Try.ntmps5
          go_wp2_with (first | ((with_reducible refine gate_callee (f := 16) rfl ?_); refine goesL_ (some 21) rfl rfl Try.func16 (by kernel_rfl) rfl #[.int .i64 a0, .int .i64 a1, .string a2] rfl (by (try simp only [List.map_toArray, List.map_cons, List.map_nil]); first | done | rfl | (simp only [List.length_drop, List.length_take]; rfl)) ?_; (with_reducible refine (spec_Substr.calls k a0 a1 a2 t101 t102 _ A6.out).mono ?_); rintro e w' ⟨rfl, ⟨nd, rfl⟩⟩; refine ⟨_, rfl, ?_⟩) | ((with_reducible refine gate_callee (f := 17) rfl ?_); refine goesL_ (some 28) rfl rfl Try.func17 (by kernel_rfl) rfl #[.int .i64 a0, .int .i64 a1, .string a2] rfl (by (try simp only [List.map_toArray, List.map_cons, List.map_nil]); first | done | rfl | (simp only [List.length_drop, List.length_take]; rfl)) ?_; (with_reducible refine (impl_Substr.calls a0 a1 a2 t103 true _ A7.out).mono ?_); rintro e w10 ⟨rfl, hb⟩; refine ⟨_, rfl, ?_⟩; have n0_ := Aside0.mk (below_step (by repeat (first | (with_reducible first | exact HB.out | apply below_alloc | apply pw_below_drewN | apply below_drew1) | exact HB.out)) hb); clear HB; have HB := n0_; clear n0_; (try clear hb); (try clear hb2); (try clear hk); (try clear hi)))
          go_ret
          exact ⟨by first | rfl | (simp [errW_none, errW_some] <;> rfl) | (simp [*, errW_none, errW_some] <;> rfl), by repeat (first | (with_reducible first | exact HB.out | apply below_alloc | apply pw_below_drewN | apply below_drew1) | exact HB.out)⟩
        · replace c9 := Bool.eq_false_iff.mpr c9
          subst c9
          have H1 : (some true) = some r := by rw [if_neg (show ¬ (false = true) by decide)] at H; exact H
          clear H
          have H := H1
          clear H1
          obtain rfl := Option.some.inj H
          go_enter Try.func5, Try.ntmps5
          go_wp2_with (first | ((with_reducible refine gate_callee (f := 16) rfl ?_); refine goesL_ (some 21) rfl rfl Try.func16 (by kernel_rfl) rfl #[.int .i64 a0, .int .i64 a1, .string a2] rfl (by (try simp only [List.map_toArray, List.map_cons, List.map_nil]); first | done | rfl | (simp only [List.length_drop, List.length_take]; rfl)) ?_; (with_reducible refine (spec_Substr.calls k a0 a1 a2 t101 t102 _ A6.out).mono ?_); rintro e w' ⟨rfl, ⟨nd, rfl⟩⟩; refine ⟨_, rfl, ?_⟩) | ((with_reducible refine gate_callee (f := 17) rfl ?_); refine goesL_ (some 28) rfl rfl Try.func17 (by kernel_rfl) rfl #[.int .i64 a0, .int .i64 a1, .string a2] rfl (by (try simp only [List.map_toArray, List.map_cons, List.map_nil]); first | done | rfl | (simp only [List.length_drop, List.length_take]; rfl)) ?_; (with_reducible refine (impl_Substr.calls a0 a1 a2 t103 false _ A7.out).mono ?_); rintro e w11 ⟨rfl, hb⟩; refine ⟨_, rfl, ?_⟩; have n0_ := Aside0.mk (below_step (by repeat (first | (with_reducible first | exact HB.out | apply below_alloc | apply pw_below_drewN | apply below_drew1) | exact HB.out)) hb); clear HB; have HB := n0_; clear n0_; (try clear hb); (try clear hb2); (try clear hk); (try clear hi)))
          go_ret
          exact ⟨by first | rfl | (simp [errW_none, errW_some] <;> rfl) | (simp [*, errW_none, errW_some] <;> rfl), by repeat (first | (with_reducible first | exact HB.out | apply below_alloc | apply pw_below_drewN | apply below_drew1) | exact HB.out)⟩
      · rw [if_neg c8] at H
        have c8b0 : (t104 == t102) = false := by simpa using c8
        (try (have c8b1 : decide (t104 = t102) = false := by simpa using c8))
        (try (have c8b2 : (t104 == t102) = false := by simpa using c8))
        (try (have c8b3 : ¬ (t104 = t102) := by simpa using c8))
        clear c8
        obtain rfl := Option.some.inj H
        go_enter Try.func5, Try.ntmps5
        go_wp2_with (first | ((with_reducible refine gate_callee (f := 16) rfl ?_); refine goesL_ (some 21) rfl rfl Try.func16 (by kernel_rfl) rfl #[.int .i64 a0, .int .i64 a1, .string a2] rfl (by (try simp only [List.map_toArray, List.map_cons, List.map_nil]); first | done | rfl | (simp only [List.length_drop, List.length_take]; rfl)) ?_; (with_reducible refine (spec_Substr.calls k a0 a1 a2 t101 t102 _ A6.out).mono ?_); rintro e w' ⟨rfl, ⟨nd, rfl⟩⟩; refine ⟨_, rfl, ?_⟩) | ((with_reducible refine gate_callee (f := 17) rfl ?_); refine goesL_ (some 28) rfl rfl Try.func17 (by kernel_rfl) rfl #[.int .i64 a0, .int .i64 a1, .string a2] rfl (by (try simp only [List.map_toArray, List.map_cons, List.map_nil]); first | done | rfl | (simp only [List.length_drop, List.length_take]; rfl)) ?_; (with_reducible refine (impl_Substr.calls a0 a1 a2 t103 t104 _ A7.out).mono ?_); rintro e w12 ⟨rfl, hb⟩; refine ⟨_, rfl, ?_⟩; have n0_ := Aside0.mk (below_step (by repeat (first | (with_reducible first | exact HB.out | apply below_alloc | apply pw_below_drewN | apply below_drew1) | exact HB.out)) hb); clear HB; have HB := n0_; clear n0_; (try clear hb); (try clear hb2); (try clear hk); (try clear hi)))
        go_ret
        exact ⟨by first | rfl | (simp [errW_none, errW_some] <;> rfl) | (simp [*, errW_none, errW_some] <;> rfl), by repeat (first | (with_reducible first | exact HB.out | apply below_alloc | apply pw_below_drewN | apply below_drew1) | exact HB.out)⟩

/-- THE ONE PURE STATEMENT of laws_FnSubstr: yours. -/
def laws_FnSubstr.Pure : Prop := ∀ (a0 : Int) (a1 : Int) (a2 : ByteArray), (Lit.int .i64 a0).wf = true → (Lit.int .i64 a1).wf = true → a2.size ≤ 140737488351232 → ∃ k, laws_FnSubstr.f k a0 a1 a2 = some true
theorem laws_FnSubstr.walk (P : laws_FnSubstr.Pure) (a0 : Int) (a1 : Int) (a2 : ByteArray) (w : World) (w0 : (Lit.int .i64 a0).wf = true) (w1 : (Lit.int .i64 a1).wf = true) (w2 : a2.size ≤ 140737488351232) :
    Calls Try.prog 5 #[.int .i64 a0, .int .i64 a1, .string a2] w fun e w' => e = .returned (.bool true) ∧ Below w.heap.size w w' := by
  obtain ⟨k, h⟩ := P a0 a1 a2 w0 w1 w2
  refine (laws_FnSubstr.calls k a0 a1 a2 true w h).mono ?_
  rintro e w' ⟨rfl, hd⟩
  exact ⟨rfl, hd⟩

end Go.Proofs.Ytjpocldnibmopaa.PFnSubstr
