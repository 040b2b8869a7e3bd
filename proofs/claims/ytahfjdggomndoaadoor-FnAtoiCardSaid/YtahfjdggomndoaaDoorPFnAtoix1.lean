-- Written by gprint.py (a program of this session, over the kit's print) out of Lean's own print of the program.
import Derived.Test.YtahfjdggomndoaaDoorPFnAtoix0
namespace Go.Proofs.YtahfjdggomndoaaDoor.PFnAtoi
open Go.Proofs.YtahfjdggomndoaaDoor.Giv
open Go.RowKit Go.Proofs.YtahfjdggomndoaaDoorW.PrintWords Go.Proofs.YtahfjdggomndoaaDoorW.PrintLast Go.Proofs.YtahfjdggomndoaaDoorW.PrintMore
attribute [local go_sem] max2_int min2_int max_two min_two max_three min_three max_four min_four   -- for this text's walks alone
set_option linter.unusedVariables false
set_option linter.unusedSimpArgs false

-- NOT PRINTED: function 31 (strconv_ParseUint)

-- NOT PRINTED: function 23 (strconv_ParseInt_23)

-- NOT PRINTED: function 43 (strconv_Atoi_43)

-- NOT PRINTED: function 30 (strconv_Atoi_30)

-- GIVEN: function 22 (sprig_atoi): a contract of ours

/-! ### spec_IsInteger: function 9 -/
mutual
def spec_IsInteger.j0 : Nat → ByteArray → ByteArray → Bool → Option (Bool)
  | 0, _, _, _ => none
  | k + 1, x0, x3, x13 => if x13 = true then (if 1 ≤ (x3.size : Int) then (spec_IsInteger.j1 k x0 (x3.extract 1 x3.size)) else (none)) else (spec_IsInteger.j1 k x0 x3)
def spec_IsInteger.j1 : Nat → ByteArray → ByteArray → Option (Bool)
  | 0, _, _ => none
  | k + 1, x0, x3 => spec_IsInteger.l0 k x0 x3 0
def spec_IsInteger.l0 : Nat → ByteArray → ByteArray → Int → Option (Bool)
  | 0, _, _, _ => none
  | k + 1, x0, x3, x4 => if x4 < (x3.size : Int) then (if 0 ≤ x4 then (if (bt x3 x4) < 48 then (some false) else (if (bt x3 x4) > 57 then (some false) else (spec_IsInteger.l0 k x0 x3 (wrap64 (x4 + 1))))) else (none)) else (if (x3.size : Int) > 0 then (if (x3.size : Int) ≤ 15 then (if 0 < (x3.size : Int) then (if (bt x3 0) = 48 then (some (x0.toList == ([48] : List UInt8))) else (some true)) else (none)) else (some false)) else (some false))
end
def spec_IsInteger.f (k : Nat) (a0 : ByteArray) : Option (Bool) := if (a0.size : Int) > 0 then (if 0 < (a0.size : Int) then (spec_IsInteger.j0 k a0 a0 ((bt a0 0) == 45)) else (none)) else (spec_IsInteger.j0 k a0 a0 false)
theorem spec_IsInteger.mono_l : ∀ k, (∀ y0 y1 y2, LeO (spec_IsInteger.j0 k y0 y1 y2) (spec_IsInteger.j0 (k + 1) y0 y1 y2)) ∧ (∀ y0 y1, LeO (spec_IsInteger.j1 k y0 y1) (spec_IsInteger.j1 (k + 1) y0 y1)) ∧ (∀ y0 y1 y2, LeO (spec_IsInteger.l0 k y0 y1 y2) (spec_IsInteger.l0 (k + 1) y0 y1 y2))
  | 0 => ⟨fun _ _ _ r h => by simp [spec_IsInteger.j0] at h, fun _ _ r h => by simp [spec_IsInteger.j1] at h, fun _ _ _ r h => by simp [spec_IsInteger.l0] at h⟩
  | k + 1 => by
    obtain ⟨ih0, ih1, ih2⟩ := spec_IsInteger.mono_l k
    refine ⟨?_, ?_, ?_⟩
    · intro y0 y1 y2
      unfold spec_IsInteger.j0
      repeat' first
      | (with_reducible exact ih0 _ _ _)
      | (with_reducible exact ih1 _ _)
      | (with_reducible exact ih2 _ _ _)
      | (with_reducible exact LeO.refl _)
      | (with_reducible exact LeO.none _)
      | (with_reducible refine LeO.ite ?_ ?_)
      | (with_reducible refine LeO.bind ?_ (fun _ => ?_))
      | exact ih0 _ _ _
      | exact ih1 _ _
      | exact ih2 _ _ _
      | exact LeO.none _
      | refine LeO.ite ?_ ?_
      | refine LeO.bind ?_ (fun _ => ?_)
    · intro y0 y1
      unfold spec_IsInteger.j1
      repeat' first
      | (with_reducible exact ih0 _ _ _)
      | (with_reducible exact ih1 _ _)
      | (with_reducible exact ih2 _ _ _)
      | (with_reducible exact LeO.refl _)
      | (with_reducible exact LeO.none _)
      | (with_reducible refine LeO.ite ?_ ?_)
      | (with_reducible refine LeO.bind ?_ (fun _ => ?_))
      | exact ih0 _ _ _
      | exact ih1 _ _
      | exact ih2 _ _ _
      | exact LeO.none _
      | refine LeO.ite ?_ ?_
      | refine LeO.bind ?_ (fun _ => ?_)
    · intro y0 y1 y2
      unfold spec_IsInteger.l0
      repeat' first
      | (with_reducible exact ih0 _ _ _)
      | (with_reducible exact ih1 _ _)
      | (with_reducible exact ih2 _ _ _)
      | (with_reducible exact LeO.refl _)
      | (with_reducible exact LeO.none _)
      | (with_reducible refine LeO.ite ?_ ?_)
      | (with_reducible refine LeO.bind ?_ (fun _ => ?_))
      | exact ih0 _ _ _
      | exact ih1 _ _
      | exact ih2 _ _ _
      | exact LeO.none _
      | refine LeO.ite ?_ ?_
      | refine LeO.bind ?_ (fun _ => ?_)
theorem spec_IsInteger.mono : ∀ a0 k, LeO (spec_IsInteger.f k a0) (spec_IsInteger.f (k + 1) a0) := by
  intro a0 k
  obtain ⟨ih0, ih1, ih2⟩ := spec_IsInteger.mono_l k
  unfold spec_IsInteger.f
  repeat' first
      | (with_reducible exact ih0 _ _ _)
      | (with_reducible exact ih1 _ _)
      | (with_reducible exact ih2 _ _ _)
      | (with_reducible exact LeO.refl _)
      | (with_reducible exact LeO.none _)
      | (with_reducible refine LeO.ite ?_ ?_)
      | (with_reducible refine LeO.bind ?_ (fun _ => ?_))
      | exact ih0 _ _ _
      | exact ih1 _ _
      | exact ih2 _ _ _
      | exact LeO.none _
      | refine LeO.ite ?_ ?_
      | refine LeO.bind ?_ (fun _ => ?_)
set_option maxHeartbeats 8000000 in
set_option maxRecDepth 100000 in
theorem spec_IsInteger.calls (k : Nat) (a0 : ByteArray) (r : Bool) (w : World) (h : spec_IsInteger.f k a0 = some r) :
    Calls Tryd.prog 9 #[.string a0] w fun e w' => e = .returned (.bool r) ∧ Drawn0 w w' := by
  have H : (if (a0.size : Int) > 0 then (if 0 < (a0.size : Int) then (spec_IsInteger.j0 k a0 a0 ((bt a0 0) == 45)) else (none)) else (spec_IsInteger.j0 k a0 a0 false)) = some r := h
  clear h
  have HC2 := Aside0.mk H
  clear H
  go_enter Tryd.func9, Tryd.ntmps9
  go_upto_region 2 with (fail)
  go_cut [13] (fun v13 wc => ∃ (kq : Nat) (x13_1 : Bool), v13 = .bool x13_1 ∧ Aside0 (spec_IsInteger.j0 kq a0 a0 x13_1 = some r) ∧ Aside0 (kq ≤ k) ∧ Drawn0 w wc)
  case first =>
    have H := HC2.out
    clear HC2
    by_cases c3 : (a0.size : Int) > 0
    · rw [if_pos c3] at H
      have c3b0 : decide (0 < (a0.size : Int)) = true := decide_eq_true c3
      have c3b1 : decide (0 < a0.size) = true := decide_eq_true (by omega)
      clear c3
      (first | rw [c3b0] | (simp only [i64_w, i32_w]; rw [c3b0]) | skip)
      by_cases c4 : 0 < (a0.size : Int)
      · rw [if_pos c4] at H
        have c4b0 : decide (0 < (a0.size : Int)) = true := decide_eq_true c4
        have c4b1 : decide (0 < a0.size) = true := decide_eq_true (by omega)
        clear c4
        have H' := Aside0.mk H
        clear H
        have p5 : 0 ≤ (0 : Int) := (by omega)
        have q5 : 0 < a0.size := (by have : (0 : Int) < (a0.size : Int) := of_decide_eq_true (by first | (with_reducible assumption) | assumption); omega)
        have hx5 : ∀ h : 0 < a0.size, ((a0[0]'h).toNat : Int) = bt a0 0 := bt_at a0 0
        clear p5
        have qi5 : (0 < (a0.size : Int)) = True := eq_true (of_decide_eq_true (by first | (with_reducible assumption) | assumption))
        replace q5 := eq_true q5
        go_wp2
        go_meet
        case rel => exact ⟨_, (((bt a0 0) == 45)), (by first | rfl | (simp; done) | (simp [*]; done)), H', ⟨by first | omega | exact Nat.le_refl _⟩, by repeat (first | exact Drawn0.refl _ | apply Drawn0.step)⟩
      · rw [if_neg c4] at H
        exact absurd H (by simp)
    · rw [if_neg c3] at H
      have c3b0 : decide (0 < (a0.size : Int)) = false := decide_eq_false c3
      have c3b1 : decide (0 < a0.size) = false := decide_eq_false (by omega)
      clear c3
      (first | rw [c3b0] | (simp only [i64_w, i32_w]; rw [c3b0]) | skip)
      have H' := Aside0.mk H
      clear H
      go_wp2
      go_meet
      case rel => exact ⟨_, (false), (by first | rfl | (simp; done) | (simp [*]; done)), H', ⟨by first | omega | exact Nat.le_refl _⟩, by repeat (first | exact Drawn0.refl _ | apply Drawn0.step)⟩
  case rest =>
    clear HC2
    try clear p2
    try clear c3
    try clear c3b0
    try clear c3b1
    try clear c4
    try clear c4b0
    try clear c4b1
    try clear p5
    try clear q5
    try clear hx5
    try clear qi5
    try clear p5
    try clear q5
    obtain ⟨kq, x13_1, rfl, HA, HJ1, ⟨mc1, rfl⟩⟩ := hcut
    cases kq with
    | zero => exact absurd HA.out (by simp [spec_IsInteger.j0])
    | succ kj1 =>
      have H := HA.out
      clear HA
      simp only [spec_IsInteger.j0] at H
      have HC6 := Aside0.mk H
      clear H
      go_upto_if 13 with (fail)
      go_cut [3] (fun v3 wc => ∃ (kq : Nat) (x3_5 : ByteArray), v3 = .string x3_5 ∧ Aside0 (spec_IsInteger.j1 kq a0 x3_5 = some r) ∧ Aside0 (kq ≤ kj1) ∧ Drawn0 w wc)
      case first =>
        have H := HC6.out
        clear HC6
        by_cases c7 : x13_1 = true
        · subst c7
          have H1 : (if 1 ≤ (a0.size : Int) then (spec_IsInteger.j1 kj1 a0 (a0.extract 1 a0.size)) else (none)) = some r := by rw [if_pos rfl] at H; exact H
          clear H
          have H := H1
          clear H1
          by_cases c8 : 1 ≤ (a0.size : Int)
          · rw [if_pos c8] at H
            have c8b0 := eq_true c8
            have c8b1 : decide (1 ≤ (a0.size : Int)) = true := decide_eq_true c8
            clear c8
            have H' := Aside0.mk H
            clear H
            go_wp2
            go_meet
            case rel => exact ⟨_, (a0.extract 1 a0.size), (by first | rfl | (simp; done) | (simp [*]; done)), H', ⟨by have := HJ1.out; first | omega | exact Nat.le_refl _⟩, by repeat (first | exact Drawn0.refl _ | apply Drawn0.step)⟩
          · rw [if_neg c8] at H
            exact absurd H (by simp)
        · replace c7 := Bool.eq_false_iff.mpr c7
          subst c7
          have H1 : (spec_IsInteger.j1 kj1 a0 a0) = some r := by rw [if_neg (show ¬ (false = true) by decide)] at H; exact H
          clear H
          have H := H1
          clear H1
          have H' := Aside0.mk H
          clear H
          go_wp2
          go_meet
          case rel => exact ⟨_, (a0), (by first | rfl | (simp; done) | (simp [*]; done)), H', ⟨by have := HJ1.out; first | omega | exact Nat.le_refl _⟩, by repeat (first | exact Drawn0.refl _ | apply Drawn0.step)⟩
      case rest =>
        clear HC6
        try clear c1
        try clear p2
        try clear c3
        try clear c3b0
        try clear c3b1
        try clear c4
        try clear c4b0
        try clear c4b1
        try clear p5
        try clear q5
        try clear hx5
        try clear qi5
        try clear c7
        try clear c8
        try clear c8b0
        try clear c8b1
        try clear p2
        try clear p5
        try clear q5
        obtain ⟨kq, x3_5, rfl, HA, HJ5, ⟨mc5, rfl⟩⟩ := hcut
        cases kq with
        | zero => exact absurd HA.out (by simp [spec_IsInteger.j1])
        | succ kj5 =>
          have H := HA.out
          clear HA
          simp only [spec_IsInteger.j1] at H
          have H' := Aside0.mk H
          clear H
          go_wp2
          go_loopg [4] kj5 (fun kq v4 w' => ∃ (x4_3 : Int), v4 = .int .i64 x4_3 ∧ Aside0 (spec_IsInteger.l0 kq a0 x3_5 x4_3 = some r) ∧ Aside0 (kq ≤ kj5) ∧ Drawn0 w w')
          case atStart => exact ⟨(0), (by first | rfl | (simp; done) | (simp [*]; done)), H', ⟨Nat.le_refl _⟩, by repeat (first | exact Drawn0.refl _ | apply Drawn0.step)⟩
          case round =>
            clear H'
            try clear c1
            try clear p2
            try clear c3
            try clear c3b0
            try clear c3b1
            try clear c4
            try clear c4b0
            try clear c4b1
            try clear c5
            try clear p5
            try clear q5
            try clear hx5
            try clear qi5
            try clear c7
            try clear c8
            try clear c8b0
            try clear c8b1
            try clear p2
            try clear p5
            try clear q5
            obtain ⟨x4_3, rfl, HA, HK3, ⟨m3, rfl⟩⟩ := hrel
            cases gk with
            | zero => exact absurd HA.out (by simp [spec_IsInteger.l0])
            | succ k3 =>
              have H := HA.out
              clear HA
              simp only [spec_IsInteger.l0] at H
              by_cases c9 : x4_3 < (x3_5.size : Int)
              · rw [if_pos c9] at H
                have c9b0 : decide (x4_3 < (x3_5.size : Int)) = true := decide_eq_true c9
                clear c9
                by_cases c10 : 0 ≤ x4_3
                · rw [if_pos c10] at H
                  have c10b0 : decide (0 ≤ x4_3) = true := decide_eq_true c10
                  clear c10
                  by_cases c12 : (bt x3_5 x4_3) < 48
                  · rw [if_pos c12] at H
                    have c12b0 : decide ((bt x3_5 x4_3) < 48) = true := decide_eq_true c12
                    clear c12
                    obtain rfl := Option.some.inj H
                    have p11 : 0 ≤ (x4_3 : Int) := of_decide_eq_true (by first | (with_reducible assumption) | assumption)
                    have q11 : x4_3 < (x3_5.size : Int) := of_decide_eq_true (by first | (with_reducible assumption) | assumption)
                    have hx11 := bt_at x3_5 x4_3
                    replace p11 := eq_true p11
                    replace q11 := eq_true q11
                    go_wp2
                    go_ret
                    exact ⟨by first | rfl | (simp; done) | (simp [*]; done), by repeat (first | exact Drawn0.refl _ | apply Drawn0.step)⟩
                  · rw [if_neg c12] at H
                    have c12b0 : decide ((bt x3_5 x4_3) < 48) = false := decide_eq_false c12
                    clear c12
                    by_cases c14 : (bt x3_5 x4_3) > 57
                    · rw [if_pos c14] at H
                      have c14b0 : decide (57 < (bt x3_5 x4_3)) = true := decide_eq_true c14
                      clear c14
                      obtain rfl := Option.some.inj H
                      have p11 : 0 ≤ (x4_3 : Int) := of_decide_eq_true (by first | (with_reducible assumption) | assumption)
                      have q11 : x4_3 < (x3_5.size : Int) := of_decide_eq_true (by first | (with_reducible assumption) | assumption)
                      have hx11 := bt_at x3_5 x4_3
                      replace p11 := eq_true p11
                      replace q11 := eq_true q11
                      have p13 : 0 ≤ (x4_3 : Int) := of_decide_eq_true (by first | (with_reducible assumption) | assumption)
                      have q13 : x4_3 < (x3_5.size : Int) := of_decide_eq_true (by first | (with_reducible assumption) | assumption)
                      have hx13 := bt_at x3_5 x4_3
                      replace p13 := eq_true p13
                      replace q13 := eq_true q13
                      go_wp2
                      go_ret
                      exact ⟨by first | rfl | (simp; done) | (simp [*]; done), by repeat (first | exact Drawn0.refl _ | apply Drawn0.step)⟩
                    · rw [if_neg c14] at H
                      have c14b0 : decide (57 < (bt x3_5 x4_3)) = false := decide_eq_false c14
                      clear c14
                      have H' := Aside0.mk H
                      clear H
                      have p11 : 0 ≤ (x4_3 : Int) := of_decide_eq_true (by first | (with_reducible assumption) | assumption)
                      have q11 : x4_3 < (x3_5.size : Int) := of_decide_eq_true (by first | (with_reducible assumption) | assumption)
                      have hx11 := bt_at x3_5 x4_3
                      replace p11 := eq_true p11
                      replace q11 := eq_true q11
                      have p13 : 0 ≤ (x4_3 : Int) := of_decide_eq_true (by first | (with_reducible assumption) | assumption)
                      have q13 : x4_3 < (x3_5.size : Int) := of_decide_eq_true (by first | (with_reducible assumption) | assumption)
                      have hx13 := bt_at x3_5 x4_3
                      replace p13 := eq_true p13
                      replace q13 := eq_true q13
                      go_wp2
                      go_roundg k3
                      case measure => have := HJ1.out; have := HJ5.out; have := HK3.out; omega
                      case rel => exact ⟨(wrap64 (x4_3 + 1)), (by first | rfl | (simp; done) | (simp [*]; done)), H', ⟨by have := HJ1.out; have := HJ5.out; have := HK3.out; omega⟩, by repeat (first | exact Drawn0.refl _ | apply Drawn0.step)⟩
                · rw [if_neg c10] at H
                  exact absurd H (by simp)
              · rw [if_neg c9] at H
                have c9b0 : decide (x4_3 < (x3_5.size : Int)) = false := decide_eq_false c9
                clear c9
                by_cases c15 : (x3_5.size : Int) > 0
                · rw [if_pos c15] at H
                  have c15b0 : decide (0 < (x3_5.size : Int)) = true := decide_eq_true c15
                  have c15b1 : decide (0 < x3_5.size) = true := decide_eq_true (by omega)
                  clear c15
                  by_cases c16 : (x3_5.size : Int) ≤ 15
                  · rw [if_pos c16] at H
                    have c16b0 : decide ((x3_5.size : Int) ≤ 15) = true := decide_eq_true c16
                    have c16b1 : decide (x3_5.size ≤ 15) = true := decide_eq_true (by omega)
                    clear c16
                    by_cases c17 : 0 < (x3_5.size : Int)
                    · rw [if_pos c17] at H
                      have c17b0 : decide (0 < (x3_5.size : Int)) = true := decide_eq_true c17
                      have c17b1 : decide (0 < x3_5.size) = true := decide_eq_true (by omega)
                      clear c17
                      by_cases c19 : (bt x3_5 0) = 48
                      · rw [if_pos c19] at H
                        have c19b0 : ((bt x3_5 0) == 48) = true := beq_iff_eq.mpr c19
                        have c19b1 : ((bt x3_5 0) != 48) = false := bne_eq_false_iff_eq.mpr c19
                        clear c19
                        obtain rfl := Option.some.inj H
                        have p18 : 0 ≤ (0 : Int) := (by omega)
                        have q18 : 0 < x3_5.size := (by have : (0 : Int) < (x3_5.size : Int) := of_decide_eq_true (by first | (with_reducible assumption) | assumption); omega)
                        have hx18 : ∀ h : 0 < x3_5.size, ((x3_5[0]'h).toNat : Int) = bt x3_5 0 := bt_at x3_5 0
                        clear p18
                        have qi18 : (0 < (x3_5.size : Int)) = True := eq_true (of_decide_eq_true (by first | (with_reducible assumption) | assumption))
                        replace q18 := eq_true q18
                        go_wp2
                        go_ret
                        exact ⟨by first | rfl | (simp; done) | (simp [*]; done), by repeat (first | exact Drawn0.refl _ | apply Drawn0.step)⟩
                      · rw [if_neg c19] at H
                        have c19b0 : ((bt x3_5 0) == 48) = false := beq_eq_false_iff_ne.mpr c19
                        have c19b1 : ((bt x3_5 0) != 48) = true := bne_iff_ne.mpr c19
                        obtain rfl := Option.some.inj H
                        have p18 : 0 ≤ (0 : Int) := (by omega)
                        have q18 : 0 < x3_5.size := (by have : (0 : Int) < (x3_5.size : Int) := of_decide_eq_true (by first | (with_reducible assumption) | assumption); omega)
                        have hx18 : ∀ h : 0 < x3_5.size, ((x3_5[0]'h).toNat : Int) = bt x3_5 0 := bt_at x3_5 0
                        clear p18
                        have qi18 : (0 < (x3_5.size : Int)) = True := eq_true (of_decide_eq_true (by first | (with_reducible assumption) | assumption))
                        replace q18 := eq_true q18
                        go_wp2
                        go_ret
                        exact ⟨by first | rfl | (simp; done) | (simp [*]; done), by repeat (first | exact Drawn0.refl _ | apply Drawn0.step)⟩
                    · rw [if_neg c17] at H
                      exact absurd H (by simp)
                  · rw [if_neg c16] at H
                    have c16b0 : decide ((x3_5.size : Int) ≤ 15) = false := decide_eq_false c16
                    have c16b1 : decide (x3_5.size ≤ 15) = false := decide_eq_false (by omega)
                    clear c16
                    obtain rfl := Option.some.inj H
                    go_wp2
                    go_ret
                    exact ⟨by first | rfl | (simp; done) | (simp [*]; done), by repeat (first | exact Drawn0.refl _ | apply Drawn0.step)⟩
                · rw [if_neg c15] at H
                  have c15b0 : decide (0 < (x3_5.size : Int)) = false := decide_eq_false c15
                  have c15b1 : decide (0 < x3_5.size) = false := decide_eq_false (by omega)
                  clear c15
                  obtain rfl := Option.some.inj H
                  go_wp2
                  go_ret
                  exact ⟨by first | rfl | (simp; done) | (simp [*]; done), by repeat (first | exact Drawn0.refl _ | apply Drawn0.step)⟩

-- NOT PRINTED: function 46 (stringslite_Clone)

-- NOT PRINTED: function 32 (strconv_syntaxError)

-- NOT PRINTED: function 33 (strconv_rangeError)

/-! ### sprig_Atoi: function 16 -/
def sprig_Atoi.f (a0 : ByteArray) : Option (Int) := (sprig_atoi.f a0).bind fun t135 => (some t135)
set_option maxHeartbeats 8000000 in
set_option maxRecDepth 100000 in
theorem sprig_Atoi.calls (a0 : ByteArray) (r : Int) (w : World) (T : Giv.ErrV w) (h : sprig_Atoi.f a0 = some r) :
    Calls Tryd.prog 16 #[.string a0] w fun e w' => e = .returned (.int .i64 r) ∧ Below w.heap.size w w' := by
  have TT_ := Aside0.mk T
  clear T
  have HB := Aside0.mk (Below.refl w.heap.size w)
  have H : ((sprig_atoi.f a0).bind fun t135 => (some t135)) = some r := h
  clear h
  replace H := Option.bind_eq_some_iff.mp H
  obtain ⟨t135, A20, H⟩ := H
  replace H : (some t135) = some r := H
  have A2 := Aside0.mk A20
  clear A20
  obtain rfl := Option.some.inj H
  go_enter Tryd.func16, Tryd.ntmps16
  go_wp2_with (first | ((with_reducible refine gate_callee (f := 22) rfl ?_); refine goesL_ (some 4) rfl rfl Tryd.func22 (by kernel_rfl) rfl #[.string a0] rfl (by (try simp only [List.map_toArray, List.map_cons, List.map_nil]); first | done | rfl | (simp only [List.length_drop, List.length_take]; rfl)) ?_; (with_reducible refine (sprig_atoi.calls a0 t135 _ (by first | exact TT_.out | exact TT_.out.below (by repeat (first | (with_reducible first | exact HB.out | apply below_alloc | apply pw_below_drewN | apply below_drew1) | exact HB.out))) A2.out).mono ?_); rintro e w3 ⟨rfl, hb⟩; refine ⟨_, rfl, ?_⟩; have n0_ := Aside0.mk (below_step (by repeat (first | (with_reducible first | exact HB.out | apply below_alloc | apply pw_below_drewN | apply below_drew1) | exact HB.out)) hb); clear HB; have HB := n0_; clear n0_; (try clear hb); (try clear hb2); (try clear hk); (try clear hi)))
  go_ret
  exact ⟨by first | rfl | (simp [errW_none, errW_some] <;> rfl) | (simp [*, errW_none, errW_some] <;> rfl), by repeat (first | (with_reducible first | exact HB.out | apply below_alloc | apply pw_below_drewN | apply below_drew1) | exact HB.out)⟩

/-! ### impl_Atoi: function 10 -/
def impl_Atoi.f (a0 : ByteArray) : Option (Int) := (sprig_Atoi.f a0).bind fun t136 => (some t136)
set_option maxHeartbeats 8000000 in
set_option maxRecDepth 100000 in
theorem impl_Atoi.calls (a0 : ByteArray) (r : Int) (w : World) (T : Giv.ErrV w) (h : impl_Atoi.f a0 = some r) :
    Calls Tryd.prog 10 #[.string a0] w fun e w' => e = .returned (.int .i64 r) ∧ Below w.heap.size w w' := by
  have TT_ := Aside0.mk T
  clear T
  have HB := Aside0.mk (Below.refl w.heap.size w)
  have H : ((sprig_Atoi.f a0).bind fun t136 => (some t136)) = some r := h
  clear h
  replace H := Option.bind_eq_some_iff.mp H
  obtain ⟨t136, A20, H⟩ := H
  replace H : (some t136) = some r := H
  have A2 := Aside0.mk A20
  clear A20
  obtain rfl := Option.some.inj H
  go_enter Tryd.func10, Tryd.ntmps10
  go_wp2_with (first | ((with_reducible refine gate_callee (f := 16) rfl ?_); refine goesL_ (some 4) rfl rfl Tryd.func16 (by kernel_rfl) rfl #[.string a0] rfl (by (try simp only [List.map_toArray, List.map_cons, List.map_nil]); first | done | rfl | (simp only [List.length_drop, List.length_take]; rfl)) ?_; (with_reducible refine (sprig_Atoi.calls a0 t136 _ (by first | exact TT_.out | exact TT_.out.below (by repeat (first | (with_reducible first | exact HB.out | apply below_alloc | apply pw_below_drewN | apply below_drew1) | exact HB.out))) A2.out).mono ?_); rintro e w3 ⟨rfl, hb⟩; refine ⟨_, rfl, ?_⟩; have n0_ := Aside0.mk (below_step (by repeat (first | (with_reducible first | exact HB.out | apply below_alloc | apply pw_below_drewN | apply below_drew1) | exact HB.out)) hb); clear HB; have HB := n0_; clear n0_; (try clear hb); (try clear hb2); (try clear hk); (try clear hi)))
  go_ret
  exact ⟨by first | rfl | (simp [errW_none, errW_some] <;> rfl) | (simp [*, errW_none, errW_some] <;> rfl), by repeat (first | (with_reducible first | exact HB.out | apply below_alloc | apply pw_below_drewN | apply below_drew1) | exact HB.out)⟩

-- NOT PRINTED: function 17 (strconv_ParseInt_17)

-- GIVEN: function 11 (spec_Integer): a contract of ours

/-! ### laws_FnAtoi: function 4 -/
def laws_FnAtoi.l0 : Nat → ByteArray → Int → Option (Bool)
  | 0, _, _ => none
  | k + 1, x0, x3 => if x3 < (x0.size : Int) then (if 0 ≤ x3 then (if (bt x0 x3) < 97 then (some true) else (if (bt x0 x3) > 122 then (some true) else (laws_FnAtoi.l0 k x0 (wrap64 (x3 + 1))))) else (none)) else ((impl_Atoi.f x0).bind fun t141 => (if t141 = 0 then ((impl_Atoi.f (⟨#[55]⟩ : ByteArray)).bind fun t142 => (some (t142 == 7))) else (some false)))
def laws_FnAtoi.f (k : Nat) (a0 : ByteArray) : Option (Bool) := if (a0.size : Int) > 2147483647 then (some true) else ((spec_IsInteger.f k a0).bind fun t137 => (if t137 = true then ((impl_Atoi.f a0).bind fun t138 => ((spec_Integer.f a0).bind fun t139 => (if t138 = t139 then ((impl_Atoi.f (⟨#[55]⟩ : ByteArray)).bind fun t140 => (some (t140 == 7))) else (some false)))) else (laws_FnAtoi.l0 k a0 0)))
theorem laws_FnAtoi.mono_l : ∀ k, (∀ y0 y1, LeO (laws_FnAtoi.l0 k y0 y1) (laws_FnAtoi.l0 (k + 1) y0 y1))
  | 0 => fun _ _ r h => by simp [laws_FnAtoi.l0] at h
  | k + 1 => by
    have ih0 := laws_FnAtoi.mono_l k
    · intro y0 y1
      unfold laws_FnAtoi.l0
      repeat' first
      | (with_reducible exact ih0 _ _)
      | (with_reducible exact spec_IsInteger.mono _ _)
      | (with_reducible exact LeO.refl _)
      | (with_reducible exact LeO.none _)
      | (with_reducible refine LeO.ite ?_ ?_)
      | (with_reducible refine LeO.bind ?_ (fun _ => ?_))
      | exact ih0 _ _
      | exact spec_IsInteger.mono _ _
      | exact LeO.none _
      | refine LeO.ite ?_ ?_
      | refine LeO.bind ?_ (fun _ => ?_)
theorem laws_FnAtoi.mono : ∀ a0 k, LeO (laws_FnAtoi.f k a0) (laws_FnAtoi.f (k + 1) a0) := by
  intro a0 k
  have ih0 := laws_FnAtoi.mono_l k
  unfold laws_FnAtoi.f
  repeat' first
      | (with_reducible exact ih0 _ _)
      | (with_reducible exact spec_IsInteger.mono _ _)
      | (with_reducible exact LeO.refl _)
      | (with_reducible exact LeO.none _)
      | (with_reducible refine LeO.ite ?_ ?_)
      | (with_reducible refine LeO.bind ?_ (fun _ => ?_))
      | exact ih0 _ _
      | exact spec_IsInteger.mono _ _
      | exact LeO.none _
      | refine LeO.ite ?_ ?_
      | refine LeO.bind ?_ (fun _ => ?_)
set_option maxHeartbeats 8000000 in
set_option maxRecDepth 100000 in
theorem laws_FnAtoi.calls (k : Nat) (a0 : ByteArray) (r : Bool) (w : World) (T : Giv.ErrV w) (h : laws_FnAtoi.f k a0 = some r) :
    Calls Tryd.prog 4 #[.string a0] w fun e w' => e = .returned (.bool r) ∧ Below w.heap.size w w' := by
  have TT_ := Aside0.mk T
  clear T
  have HB := Aside0.mk (Below.refl w.heap.size w)
  have H : (if (a0.size : Int) > 2147483647 then (some true) else ((spec_IsInteger.f k a0).bind fun t137 => (if t137 = true then ((impl_Atoi.f a0).bind fun t138 => ((spec_Integer.f a0).bind fun t139 => (if t138 = t139 then ((impl_Atoi.f (⟨#[55]⟩ : ByteArray)).bind fun t140 => (some (t140 == 7))) else (some false)))) else (laws_FnAtoi.l0 k a0 0)))) = some r := h
  clear h
  by_cases c2 : (a0.size : Int) > 2147483647
  · rw [if_pos c2] at H
    have c2b0 : decide (2147483647 < (a0.size : Int)) = true := decide_eq_true c2
    have c2b1 : decide (2147483647 < a0.size) = true := decide_eq_true (by omega)
    clear c2
    obtain rfl := Option.some.inj H
    go_enter Tryd.func4, Tryd.ntmps4
    go_wp2
    go_ret
    exact ⟨by first | rfl | (simp [errW_none, errW_some] <;> rfl) | (simp [*, errW_none, errW_some] <;> rfl), by repeat (first | (with_reducible first | exact HB.out | apply below_alloc | apply pw_below_drewN | apply below_drew1) | exact HB.out)⟩
  · rw [if_neg c2] at H
    have c2b0 : decide (2147483647 < (a0.size : Int)) = false := decide_eq_false c2
    have c2b1 : decide (2147483647 < a0.size) = false := decide_eq_false (by omega)
    clear c2
    replace H := Option.bind_eq_some_iff.mp H
    obtain ⟨t137, A30, H⟩ := H
    replace H : (if t137 = true then ((impl_Atoi.f a0).bind fun t138 => ((spec_Integer.f a0).bind fun t139 => (if t138 = t139 then ((impl_Atoi.f (⟨#[55]⟩ : ByteArray)).bind fun t140 => (some (t140 == 7))) else (some false)))) else (laws_FnAtoi.l0 k a0 0)) = some r := H
    have A3 := Aside0.mk A30
    clear A30
    by_cases c4 : t137 = true
    · subst c4
      have H1 : ((impl_Atoi.f a0).bind fun t138 => ((spec_Integer.f a0).bind fun t139 => (if t138 = t139 then ((impl_Atoi.f (⟨#[55]⟩ : ByteArray)).bind fun t140 => (some (t140 == 7))) else (some false)))) = some r := by rw [if_pos rfl] at H; exact H
      clear H
      have H := H1
      clear H1
      replace H := Option.bind_eq_some_iff.mp H
      obtain ⟨t138, A50, H⟩ := H
      replace H : ((spec_Integer.f a0).bind fun t139 => (if t138 = t139 then ((impl_Atoi.f (⟨#[55]⟩ : ByteArray)).bind fun t140 => (some (t140 == 7))) else (some false))) = some r := H
      have A5 := Aside0.mk A50
      clear A50
      replace H := Option.bind_eq_some_iff.mp H
      obtain ⟨t139, A60, H⟩ := H
      replace H : (if t138 = t139 then ((impl_Atoi.f (⟨#[55]⟩ : ByteArray)).bind fun t140 => (some (t140 == 7))) else (some false)) = some r := H
      have A6 := Aside0.mk A60
      clear A60
      by_cases c7 : t138 = t139
      · rw [if_pos c7] at H
        have c7b0 : (t138 == t139) = true := beq_iff_eq.mpr c7
        have c7b1 : (t138 != t139) = false := bne_eq_false_iff_eq.mpr c7
        clear c7
        replace H := Option.bind_eq_some_iff.mp H
        obtain ⟨t140, A80, H⟩ := H
        replace H : (some (t140 == 7)) = some r := H
        have A8 := Aside0.mk A80
        clear A80
        obtain rfl := Option.some.inj H
        go_enter Tryd.func4, Tryd.ntmps4
        go_wp2_with (first | ((with_reducible refine gate_callee (f := 9) rfl ?_); refine goesL_ (some 8) rfl rfl Tryd.func9 (by kernel_rfl) rfl #[.string a0] rfl (by (try simp only [List.map_toArray, List.map_cons, List.map_nil]); first | done | rfl | (simp only [List.length_drop, List.length_take]; rfl)) ?_; (with_reducible refine (spec_IsInteger.calls k a0 true _ A3.out).mono ?_); rintro e w' ⟨rfl, ⟨nd, rfl⟩⟩; refine ⟨_, rfl, ?_⟩) | ((with_reducible refine gate_callee (f := 10) rfl ?_); refine goesL_ (some 10) rfl rfl Tryd.func10 (by kernel_rfl) rfl #[.string a0] rfl (by (try simp only [List.map_toArray, List.map_cons, List.map_nil]); first | done | rfl | (simp only [List.length_drop, List.length_take]; rfl)) ?_; (with_reducible refine (impl_Atoi.calls a0 t138 _ (by first | exact TT_.out | exact TT_.out.below (by repeat (first | (with_reducible first | exact HB.out | apply below_alloc | apply pw_below_drewN | apply below_drew1) | exact HB.out))) A5.out).mono ?_); rintro e w9 ⟨rfl, hb⟩; refine ⟨_, rfl, ?_⟩; have n0_ := Aside0.mk (below_step (by repeat (first | (with_reducible first | exact HB.out | apply below_alloc | apply pw_below_drewN | apply below_drew1) | exact HB.out)) hb); clear HB; have HB := n0_; clear n0_; (try clear hb); (try clear hb2); (try clear hk); (try clear hi)) | ((with_reducible refine gate_callee (f := 11) rfl ?_); refine goesL_ (some 12) rfl rfl Tryd.func11 (by kernel_rfl) rfl #[.string a0] rfl (by (try simp only [List.map_toArray, List.map_cons, List.map_nil]); first | done | rfl | (simp only [List.length_drop, List.length_take]; rfl)) ?_; (with_reducible refine (spec_Integer.calls a0 t139 _ A6.out).mono ?_); rintro e w10 ⟨rfl, hb⟩; refine ⟨_, rfl, ?_⟩; have n0_ := Aside0.mk (below_step (by repeat (first | (with_reducible first | exact HB.out | apply below_alloc | apply pw_below_drewN | apply below_drew1) | exact HB.out)) hb); clear HB; have HB := n0_; clear n0_; (try clear hb); (try clear hb2); (try clear hk); (try clear hi)) | (go_at_call 10; (with_reducible refine (impl_Atoi.calls (⟨#[55]⟩ : ByteArray) t140 _ (by first | exact TT_.out | exact TT_.out.below (by repeat (first | (with_reducible first | exact HB.out | apply below_alloc | apply pw_below_drewN | apply below_drew1) | exact HB.out))) A8.out).mono ?_); rintro e w11 ⟨rfl, hb⟩; have n0_ := Aside0.mk (below_step (by repeat (first | (with_reducible first | exact HB.out | apply below_alloc | apply pw_below_drewN | apply below_drew1) | exact HB.out)) hb); clear HB; have HB := n0_; clear n0_; (try clear hb); (try clear hb2); (try clear hk); (try clear hi)))
        go_ret
        exact ⟨by first | rfl | (simp [errW_none, errW_some] <;> rfl) | (simp [*, errW_none, errW_some] <;> rfl), by repeat (first | (with_reducible first | exact HB.out | apply below_alloc | apply pw_below_drewN | apply below_drew1) | exact HB.out)⟩
      · rw [if_neg c7] at H
        have c7b0 : (t138 == t139) = false := beq_eq_false_iff_ne.mpr c7
        have c7b1 : (t138 != t139) = true := bne_iff_ne.mpr c7
        obtain rfl := Option.some.inj H
        go_enter Tryd.func4, Tryd.ntmps4
        go_wp2_with (first | ((with_reducible refine gate_callee (f := 9) rfl ?_); refine goesL_ (some 8) rfl rfl Tryd.func9 (by kernel_rfl) rfl #[.string a0] rfl (by (try simp only [List.map_toArray, List.map_cons, List.map_nil]); first | done | rfl | (simp only [List.length_drop, List.length_take]; rfl)) ?_; (with_reducible refine (spec_IsInteger.calls k a0 true _ A3.out).mono ?_); rintro e w' ⟨rfl, ⟨nd, rfl⟩⟩; refine ⟨_, rfl, ?_⟩) | ((with_reducible refine gate_callee (f := 10) rfl ?_); refine goesL_ (some 10) rfl rfl Tryd.func10 (by kernel_rfl) rfl #[.string a0] rfl (by (try simp only [List.map_toArray, List.map_cons, List.map_nil]); first | done | rfl | (simp only [List.length_drop, List.length_take]; rfl)) ?_; (with_reducible refine (impl_Atoi.calls a0 t138 _ (by first | exact TT_.out | exact TT_.out.below (by repeat (first | (with_reducible first | exact HB.out | apply below_alloc | apply pw_below_drewN | apply below_drew1) | exact HB.out))) A5.out).mono ?_); rintro e w12 ⟨rfl, hb⟩; refine ⟨_, rfl, ?_⟩; have n0_ := Aside0.mk (below_step (by repeat (first | (with_reducible first | exact HB.out | apply below_alloc | apply pw_below_drewN | apply below_drew1) | exact HB.out)) hb); clear HB; have HB := n0_; clear n0_; (try clear hb); (try clear hb2); (try clear hk); (try clear hi)) | ((with_reducible refine gate_callee (f := 11) rfl ?_); refine goesL_ (some 12) rfl rfl Tryd.func11 (by kernel_rfl) rfl #[.string a0] rfl (by (try simp only [List.map_toArray, List.map_cons, List.map_nil]); first | done | rfl | (simp only [List.length_drop, List.length_take]; rfl)) ?_; (with_reducible refine (spec_Integer.calls a0 t139 _ A6.out).mono ?_); rintro e w13 ⟨rfl, hb⟩; refine ⟨_, rfl, ?_⟩; have n0_ := Aside0.mk (below_step (by repeat (first | (with_reducible first | exact HB.out | apply below_alloc | apply pw_below_drewN | apply below_drew1) | exact HB.out)) hb); clear HB; have HB := n0_; clear n0_; (try clear hb); (try clear hb2); (try clear hk); (try clear hi)))
        go_ret
        exact ⟨by first | rfl | (simp [errW_none, errW_some] <;> rfl) | (simp [*, errW_none, errW_some] <;> rfl), by repeat (first | (with_reducible first | exact HB.out | apply below_alloc | apply pw_below_drewN | apply below_drew1) | exact HB.out)⟩
    · replace c4 := Bool.eq_false_iff.mpr c4
      subst c4
      have H1 : (laws_FnAtoi.l0 k a0 0) = some r := by rw [if_neg (show ¬ (false = true) by decide)] at H; exact H
      clear H
      have H := H1
      clear H1
      have H' := Aside0.mk H
      clear H
      go_enter Tryd.func4, Tryd.ntmps4
      go_wp2_with (first | ((with_reducible refine gate_callee (f := 9) rfl ?_); refine goesL_ (some 8) rfl rfl Tryd.func9 (by kernel_rfl) rfl #[.string a0] rfl (by (try simp only [List.map_toArray, List.map_cons, List.map_nil]); first | done | rfl | (simp only [List.length_drop, List.length_take]; rfl)) ?_; (with_reducible refine (spec_IsInteger.calls k a0 false _ A3.out).mono ?_); rintro e w' ⟨rfl, ⟨nd, rfl⟩⟩; refine ⟨_, rfl, ?_⟩))
      go_loopg [3] k (fun kq v3 w' => ∃ (x3_1 : Int), v3 = .int .i64 x3_1 ∧ Aside0 (laws_FnAtoi.l0 kq a0 x3_1 = some r) ∧ Aside0 (kq ≤ k) ∧ Aside0 (Below w.heap.size w w'))
      case atStart => exact ⟨(0), (by first | rfl | (simp; done) | (simp [*]; done)), H', ⟨Nat.le_refl _⟩, ⟨by repeat (first | (with_reducible first | exact HB.out | apply below_alloc | apply pw_below_drewN | apply below_drew1) | exact HB.out)⟩⟩
      case round =>
        clear H'
        try clear c1
        try clear c2
        try clear c2b0
        try clear c2b1
        try clear p2
        try clear c4
        try clear c7
        try clear c7b0
        try clear c7b1
        try clear c9
        try clear c10
        try clear c11
        obtain ⟨x3_1, rfl, HA, HK1, HB⟩ := hrel
        cases gk with
        | zero => exact absurd HA.out (by simp [laws_FnAtoi.l0])
        | succ k1 =>
          have H := HA.out
          clear HA
          simp only [laws_FnAtoi.l0] at H
          by_cases c14 : x3_1 < (a0.size : Int)
          · rw [if_pos c14] at H
            have c14b0 : decide (x3_1 < (a0.size : Int)) = true := decide_eq_true c14
            clear c14
            by_cases c15 : 0 ≤ x3_1
            · rw [if_pos c15] at H
              have c15b0 : decide (0 ≤ x3_1) = true := decide_eq_true c15
              clear c15
              by_cases c17 : (bt a0 x3_1) < 97
              · rw [if_pos c17] at H
                have c17b0 : decide ((bt a0 x3_1) < 97) = true := decide_eq_true c17
                clear c17
                obtain rfl := Option.some.inj H
                have p16 : 0 ≤ (x3_1 : Int) := of_decide_eq_true (by first | (with_reducible assumption) | assumption)
                have q16 : x3_1 < (a0.size : Int) := of_decide_eq_true (by first | (with_reducible assumption) | assumption)
                have hx16 := bt_at a0 x3_1
                replace p16 := eq_true p16
                replace q16 := eq_true q16
                go_wp2
                go_ret
                exact ⟨by first | rfl | (simp [errW_none, errW_some] <;> rfl) | (simp [*, errW_none, errW_some] <;> rfl), by repeat (first | (with_reducible first | exact HB.out | apply below_alloc | apply pw_below_drewN | apply below_drew1) | exact HB.out)⟩
              · rw [if_neg c17] at H
                have c17b0 : decide ((bt a0 x3_1) < 97) = false := decide_eq_false c17
                clear c17
                by_cases c19 : (bt a0 x3_1) > 122
                · rw [if_pos c19] at H
                  have c19b0 : decide (122 < (bt a0 x3_1)) = true := decide_eq_true c19
                  clear c19
                  obtain rfl := Option.some.inj H
                  have p16 : 0 ≤ (x3_1 : Int) := of_decide_eq_true (by first | (with_reducible assumption) | assumption)
                  have q16 : x3_1 < (a0.size : Int) := of_decide_eq_true (by first | (with_reducible assumption) | assumption)
                  have hx16 := bt_at a0 x3_1
                  replace p16 := eq_true p16
                  replace q16 := eq_true q16
                  have p18 : 0 ≤ (x3_1 : Int) := of_decide_eq_true (by first | (with_reducible assumption) | assumption)
                  have q18 : x3_1 < (a0.size : Int) := of_decide_eq_true (by first | (with_reducible assumption) | assumption)
                  have hx18 := bt_at a0 x3_1
                  replace p18 := eq_true p18
                  replace q18 := eq_true q18
                  go_wp2
                  go_ret
                  exact ⟨by first | rfl | (simp [errW_none, errW_some] <;> rfl) | (simp [*, errW_none, errW_some] <;> rfl), by repeat (first | (with_reducible first | exact HB.out | apply below_alloc | apply pw_below_drewN | apply below_drew1) | exact HB.out)⟩
                · rw [if_neg c19] at H
                  have c19b0 : decide (122 < (bt a0 x3_1)) = false := decide_eq_false c19
                  clear c19
                  have H' := Aside0.mk H
                  clear H
                  have p16 : 0 ≤ (x3_1 : Int) := of_decide_eq_true (by first | (with_reducible assumption) | assumption)
                  have q16 : x3_1 < (a0.size : Int) := of_decide_eq_true (by first | (with_reducible assumption) | assumption)
                  have hx16 := bt_at a0 x3_1
                  replace p16 := eq_true p16
                  replace q16 := eq_true q16
                  have p18 : 0 ≤ (x3_1 : Int) := of_decide_eq_true (by first | (with_reducible assumption) | assumption)
                  have q18 : x3_1 < (a0.size : Int) := of_decide_eq_true (by first | (with_reducible assumption) | assumption)
                  have hx18 := bt_at a0 x3_1
                  replace p18 := eq_true p18
                  replace q18 := eq_true q18
                  go_wp2
                  go_roundg k1
                  case measure => have := HK1.out; omega
                  case rel => exact ⟨(wrap64 (x3_1 + 1)), (by first | rfl | (simp; done) | (simp [*]; done)), H', ⟨by have := HK1.out; omega⟩, ⟨by repeat (first | (with_reducible first | exact HB.out | apply below_alloc | apply pw_below_drewN | apply below_drew1) | exact HB.out)⟩⟩
            · rw [if_neg c15] at H
              exact absurd H (by simp)
          · rw [if_neg c14] at H
            have c14b0 : decide (x3_1 < (a0.size : Int)) = false := decide_eq_false c14
            clear c14
            replace H := Option.bind_eq_some_iff.mp H
            obtain ⟨t141, A200, H⟩ := H
            replace H : (if t141 = 0 then ((impl_Atoi.f (⟨#[55]⟩ : ByteArray)).bind fun t142 => (some (t142 == 7))) else (some false)) = some r := H
            have A20 := Aside0.mk A200
            clear A200
            by_cases c21 : t141 = 0
            · rw [if_pos c21] at H
              have c21b0 : (t141 == 0) = true := beq_iff_eq.mpr c21
              have c21b1 : (t141 != 0) = false := bne_eq_false_iff_eq.mpr c21
              clear c21
              replace H := Option.bind_eq_some_iff.mp H
              obtain ⟨t142, A220, H⟩ := H
              replace H : (some (t142 == 7)) = some r := H
              have A22 := Aside0.mk A220
              clear A220
              obtain rfl := Option.some.inj H
              go_wp2_with (first | ((with_reducible refine gate_callee (f := 10) rfl ?_); refine goesL_ (some 35) rfl rfl Tryd.func10 (by kernel_rfl) rfl #[.string a0] rfl (by (try simp only [List.map_toArray, List.map_cons, List.map_nil]); first | done | rfl | (simp only [List.length_drop, List.length_take]; rfl)) ?_; (with_reducible refine (impl_Atoi.calls a0 t141 _ (by first | exact TT_.out | exact TT_.out.below (by repeat (first | (with_reducible first | exact HB.out | apply below_alloc | apply pw_below_drewN | apply below_drew1) | exact HB.out))) A20.out).mono ?_); rintro e w23 ⟨rfl, hb⟩; refine ⟨_, rfl, ?_⟩; have n0_ := Aside0.mk (below_step (by repeat (first | (with_reducible first | exact HB.out | apply below_alloc | apply pw_below_drewN | apply below_drew1) | exact HB.out)) hb); clear HB; have HB := n0_; clear n0_; (try clear hb); (try clear hb2); (try clear hk); (try clear hi)) | (go_at_call 10; (with_reducible refine (impl_Atoi.calls (⟨#[55]⟩ : ByteArray) t142 _ (by first | exact TT_.out | exact TT_.out.below (by repeat (first | (with_reducible first | exact HB.out | apply below_alloc | apply pw_below_drewN | apply below_drew1) | exact HB.out))) A22.out).mono ?_); rintro e w24 ⟨rfl, hb⟩; have n0_ := Aside0.mk (below_step (by repeat (first | (with_reducible first | exact HB.out | apply below_alloc | apply pw_below_drewN | apply below_drew1) | exact HB.out)) hb); clear HB; have HB := n0_; clear n0_; (try clear hb); (try clear hb2); (try clear hk); (try clear hi)))
              go_ret
              exact ⟨by first | rfl | (simp [errW_none, errW_some] <;> rfl) | (simp [*, errW_none, errW_some] <;> rfl), by repeat (first | (with_reducible first | exact HB.out | apply below_alloc | apply pw_below_drewN | apply below_drew1) | exact HB.out)⟩
            · rw [if_neg c21] at H
              have c21b0 : (t141 == 0) = false := beq_eq_false_iff_ne.mpr c21
              have c21b1 : (t141 != 0) = true := bne_iff_ne.mpr c21
              obtain rfl := Option.some.inj H
              go_wp2_with (first | ((with_reducible refine gate_callee (f := 10) rfl ?_); refine goesL_ (some 35) rfl rfl Tryd.func10 (by kernel_rfl) rfl #[.string a0] rfl (by (try simp only [List.map_toArray, List.map_cons, List.map_nil]); first | done | rfl | (simp only [List.length_drop, List.length_take]; rfl)) ?_; (with_reducible refine (impl_Atoi.calls a0 t141 _ (by first | exact TT_.out | exact TT_.out.below (by repeat (first | (with_reducible first | exact HB.out | apply below_alloc | apply pw_below_drewN | apply below_drew1) | exact HB.out))) A20.out).mono ?_); rintro e w25 ⟨rfl, hb⟩; refine ⟨_, rfl, ?_⟩; have n0_ := Aside0.mk (below_step (by repeat (first | (with_reducible first | exact HB.out | apply below_alloc | apply pw_below_drewN | apply below_drew1) | exact HB.out)) hb); clear HB; have HB := n0_; clear n0_; (try clear hb); (try clear hb2); (try clear hk); (try clear hi)))
              go_ret
              exact ⟨by first | rfl | (simp [errW_none, errW_some] <;> rfl) | (simp [*, errW_none, errW_some] <;> rfl), by repeat (first | (with_reducible first | exact HB.out | apply below_alloc | apply pw_below_drewN | apply below_drew1) | exact HB.out)⟩

/-- THE ONE PURE STATEMENT of laws_FnAtoi: yours. -/
def laws_FnAtoi.Pure : Prop := ∀ (a0 : ByteArray), a0.size ≤ 140737488351232 → ∃ k, laws_FnAtoi.f k a0 = some true
theorem laws_FnAtoi.walk (P : laws_FnAtoi.Pure) (a0 : ByteArray) (w : World) (T : Giv.ErrV w) (w0 : a0.size ≤ 140737488351232) :
    Calls Tryd.prog 4 #[.string a0] w fun e w' => e = .returned (.bool true) ∧ Below w.heap.size w w' := by
  have TT_ := Aside0.mk T
  clear T
  obtain ⟨k, h⟩ := P a0 w0
  refine (laws_FnAtoi.calls k a0 true w TT_.out h).mono ?_
  rintro e w' ⟨rfl, hd⟩
  exact ⟨rfl, hd⟩


end Go.Proofs.YtahfjdggomndoaaDoor.PFnAtoi
