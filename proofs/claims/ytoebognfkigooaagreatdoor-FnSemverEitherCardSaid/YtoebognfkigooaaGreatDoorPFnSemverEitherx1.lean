-- PRINTED BY print.sh 35421559b90ae4d0a3588c463048766b98c2df88dd9212a6774a882060cdf62d: not written by this session
import Derived.Test.YtoebognfkigooaaGreatDoorPFnSemverEitherx0
namespace Go.Proofs.YtoebognfkigooaaGreatDoor.PFnSemverEither
open Go.RowKit Go.Proofs.YtoebognfkigooaaGreatDoorW.PrintWords Go.Proofs.YtoebognfkigooaaGreatDoorW.PrintLast Go.Proofs.YtoebognfkigooaaGreatDoorW.PrintMore
attribute [local go_sem] max2_int min2_int max_two min_two max_three min_three max_four min_four   -- for this text's walks alone
set_option linter.unusedVariables false
set_option linter.unusedSimpArgs false

-- NOT PRINTED: function 41 (semver_coerceNewVersion)

-- NOT PRINTED: function 29 (semver_NewVersion)

/-! ### semver_zzSpace: function 31 -/
def semver_zzSpace.l0 : Nat → ByteArray → Int → Option (Int)
  | 0, _, _ => none
  | k + 1, x0, x1 => if x1 < (x0.size : Int) then (if 0 ≤ x1 then (if (bt x0 x1) = 32 then (semver_zzSpace.l0 k x0 (wrap64 (x1 + 1))) else (if (bt x0 x1) = 9 then (semver_zzSpace.l0 k x0 (wrap64 (x1 + 1))) else (if (bt x0 x1) = 10 then (semver_zzSpace.l0 k x0 (wrap64 (x1 + 1))) else (if (bt x0 x1) = 12 then (semver_zzSpace.l0 k x0 (wrap64 (x1 + 1))) else (if (bt x0 x1) = 13 then (semver_zzSpace.l0 k x0 (wrap64 (x1 + 1))) else (some x1)))))) else (none)) else (some x1)
def semver_zzSpace.f (k : Nat) (a0 : ByteArray) (a1 : Int) : Option (Int) := semver_zzSpace.l0 k a0 a1
theorem semver_zzSpace.mono_l : ∀ k, (∀ y0 y1, LeO (semver_zzSpace.l0 k y0 y1) (semver_zzSpace.l0 (k + 1) y0 y1))
  | 0 => fun _ _ r h => by simp [semver_zzSpace.l0] at h
  | k + 1 => by
    have ih0 := semver_zzSpace.mono_l k
    · intro y0 y1
      unfold semver_zzSpace.l0
      repeat' first
      | (with_reducible exact ih0 _ _)
      | (with_reducible exact LeO.refl _)
      | (with_reducible exact LeO.none _)
      | (with_reducible refine LeO.ite ?_ ?_)
      | (with_reducible refine LeO.bind ?_ (fun _ => ?_))
      | exact ih0 _ _
      | exact LeO.none _
      | refine LeO.ite ?_ ?_
      | refine LeO.bind ?_ (fun _ => ?_)
theorem semver_zzSpace.mono : ∀ a0 a1 k, LeO (semver_zzSpace.f k a0 a1) (semver_zzSpace.f (k + 1) a0 a1) := by
  intro a0 a1 k
  have ih0 := semver_zzSpace.mono_l k
  unfold semver_zzSpace.f
  repeat' first
      | (with_reducible exact ih0 _ _)
      | (with_reducible exact LeO.refl _)
      | (with_reducible exact LeO.none _)
      | (with_reducible refine LeO.ite ?_ ?_)
      | (with_reducible refine LeO.bind ?_ (fun _ => ?_))
      | exact ih0 _ _
      | exact LeO.none _
      | refine LeO.ite ?_ ?_
      | refine LeO.bind ?_ (fun _ => ?_)
set_option maxHeartbeats 8000000 in
set_option maxRecDepth 100000 in
theorem semver_zzSpace.calls (k : Nat) (a0 : ByteArray) (a1 : Int) (r : Int) (w : World) (h : semver_zzSpace.f k a0 a1 = some r) :
    Calls Tryz.prog 31 #[.string a0, .int .i64 a1] w fun e w' => e = .returned (.int .i64 r) ∧ Drawn0 w w' := by
  have H : (semver_zzSpace.l0 k a0 a1) = some r := h
  clear h
  have H' := Aside0.mk H
  clear H
  go_enter Tryz.func31, Tryz.ntmps31
  go_wp2
  go_loopg [1] k (fun kq v1 w' => ∃ (x1_1 : Int), v1 = .int .i64 x1_1 ∧ Aside0 (semver_zzSpace.l0 kq a0 x1_1 = some r) ∧ Aside0 (kq ≤ k) ∧ Drawn0 w w')
  case atStart => exact ⟨(a1), (by first | rfl | (simp; done) | (simp [*]; done)), H', ⟨Nat.le_refl _⟩, by repeat (first | exact Drawn0.refl _ | apply Drawn0.step)⟩
  case round =>
    clear H'
    try clear p2
    obtain ⟨x1_1, rfl, HA, HK1, ⟨m1, rfl⟩⟩ := hrel
    cases gk with
    | zero => exact absurd HA.out (by simp [semver_zzSpace.l0])
    | succ k1 =>
      have H := HA.out
      clear HA
      simp only [semver_zzSpace.l0] at H
      by_cases c3 : x1_1 < (a0.size : Int)
      · rw [if_pos c3] at H
        have c3b0 : decide (x1_1 < (a0.size : Int)) = true := decide_eq_true c3
        clear c3
        by_cases c4 : 0 ≤ x1_1
        · rw [if_pos c4] at H
          have c4b0 : decide (0 ≤ x1_1) = true := decide_eq_true c4
          clear c4
          by_cases c6 : (bt a0 x1_1) = 32
          · rw [if_pos c6] at H
            have c6b0 : ((bt a0 x1_1) == 32) = true := beq_iff_eq.mpr c6
            have c6b1 : ((bt a0 x1_1) != 32) = false := bne_eq_false_iff_eq.mpr c6
            clear c6
            have H' := Aside0.mk H
            clear H
            have p5 : 0 ≤ (x1_1 : Int) := of_decide_eq_true (by first | (with_reducible assumption) | assumption)
            have q5 : x1_1 < (a0.size : Int) := of_decide_eq_true (by first | (with_reducible assumption) | assumption)
            have hx5 := bt_at a0 x1_1
            replace p5 := eq_true p5
            replace q5 := eq_true q5
            go_wp2
            go_roundg k1
            case measure => have := HK1.out; omega
            case rel => exact ⟨(wrap64 (x1_1 + 1)), (by first | rfl | (simp; done) | (simp [*]; done)), H', ⟨by have := HK1.out; omega⟩, by repeat (first | exact Drawn0.refl _ | apply Drawn0.step)⟩
          · rw [if_neg c6] at H
            have c6b0 : ((bt a0 x1_1) == 32) = false := beq_eq_false_iff_ne.mpr c6
            have c6b1 : ((bt a0 x1_1) != 32) = true := bne_iff_ne.mpr c6
            by_cases c8 : (bt a0 x1_1) = 9
            · rw [if_pos c8] at H
              have c8b0 : ((bt a0 x1_1) == 9) = true := beq_iff_eq.mpr c8
              have c8b1 : ((bt a0 x1_1) != 9) = false := bne_eq_false_iff_eq.mpr c8
              clear c8
              have H' := Aside0.mk H
              clear H
              have p5 : 0 ≤ (x1_1 : Int) := of_decide_eq_true (by first | (with_reducible assumption) | assumption)
              have q5 : x1_1 < (a0.size : Int) := of_decide_eq_true (by first | (with_reducible assumption) | assumption)
              have hx5 := bt_at a0 x1_1
              replace p5 := eq_true p5
              replace q5 := eq_true q5
              have p7 : 0 ≤ (x1_1 : Int) := of_decide_eq_true (by first | (with_reducible assumption) | assumption)
              have q7 : x1_1 < (a0.size : Int) := of_decide_eq_true (by first | (with_reducible assumption) | assumption)
              have hx7 := bt_at a0 x1_1
              replace p7 := eq_true p7
              replace q7 := eq_true q7
              go_wp2
              go_roundg k1
              case measure => have := HK1.out; omega
              case rel => exact ⟨(wrap64 (x1_1 + 1)), (by first | rfl | (simp; done) | (simp [*]; done)), H', ⟨by have := HK1.out; omega⟩, by repeat (first | exact Drawn0.refl _ | apply Drawn0.step)⟩
            · rw [if_neg c8] at H
              have c8b0 : ((bt a0 x1_1) == 9) = false := beq_eq_false_iff_ne.mpr c8
              have c8b1 : ((bt a0 x1_1) != 9) = true := bne_iff_ne.mpr c8
              by_cases c10 : (bt a0 x1_1) = 10
              · rw [if_pos c10] at H
                have c10b0 : ((bt a0 x1_1) == 10) = true := beq_iff_eq.mpr c10
                have c10b1 : ((bt a0 x1_1) != 10) = false := bne_eq_false_iff_eq.mpr c10
                clear c10
                have H' := Aside0.mk H
                clear H
                have p5 : 0 ≤ (x1_1 : Int) := of_decide_eq_true (by first | (with_reducible assumption) | assumption)
                have q5 : x1_1 < (a0.size : Int) := of_decide_eq_true (by first | (with_reducible assumption) | assumption)
                have hx5 := bt_at a0 x1_1
                replace p5 := eq_true p5
                replace q5 := eq_true q5
                have p7 : 0 ≤ (x1_1 : Int) := of_decide_eq_true (by first | (with_reducible assumption) | assumption)
                have q7 : x1_1 < (a0.size : Int) := of_decide_eq_true (by first | (with_reducible assumption) | assumption)
                have hx7 := bt_at a0 x1_1
                replace p7 := eq_true p7
                replace q7 := eq_true q7
                have p9 : 0 ≤ (x1_1 : Int) := of_decide_eq_true (by first | (with_reducible assumption) | assumption)
                have q9 : x1_1 < (a0.size : Int) := of_decide_eq_true (by first | (with_reducible assumption) | assumption)
                have hx9 := bt_at a0 x1_1
                replace p9 := eq_true p9
                replace q9 := eq_true q9
                go_wp2
                go_roundg k1
                case measure => have := HK1.out; omega
                case rel => exact ⟨(wrap64 (x1_1 + 1)), (by first | rfl | (simp; done) | (simp [*]; done)), H', ⟨by have := HK1.out; omega⟩, by repeat (first | exact Drawn0.refl _ | apply Drawn0.step)⟩
              · rw [if_neg c10] at H
                have c10b0 : ((bt a0 x1_1) == 10) = false := beq_eq_false_iff_ne.mpr c10
                have c10b1 : ((bt a0 x1_1) != 10) = true := bne_iff_ne.mpr c10
                by_cases c12 : (bt a0 x1_1) = 12
                · rw [if_pos c12] at H
                  have c12b0 : ((bt a0 x1_1) == 12) = true := beq_iff_eq.mpr c12
                  have c12b1 : ((bt a0 x1_1) != 12) = false := bne_eq_false_iff_eq.mpr c12
                  clear c12
                  have H' := Aside0.mk H
                  clear H
                  have p5 : 0 ≤ (x1_1 : Int) := of_decide_eq_true (by first | (with_reducible assumption) | assumption)
                  have q5 : x1_1 < (a0.size : Int) := of_decide_eq_true (by first | (with_reducible assumption) | assumption)
                  have hx5 := bt_at a0 x1_1
                  replace p5 := eq_true p5
                  replace q5 := eq_true q5
                  have p7 : 0 ≤ (x1_1 : Int) := of_decide_eq_true (by first | (with_reducible assumption) | assumption)
                  have q7 : x1_1 < (a0.size : Int) := of_decide_eq_true (by first | (with_reducible assumption) | assumption)
                  have hx7 := bt_at a0 x1_1
                  replace p7 := eq_true p7
                  replace q7 := eq_true q7
                  have p9 : 0 ≤ (x1_1 : Int) := of_decide_eq_true (by first | (with_reducible assumption) | assumption)
                  have q9 : x1_1 < (a0.size : Int) := of_decide_eq_true (by first | (with_reducible assumption) | assumption)
                  have hx9 := bt_at a0 x1_1
                  replace p9 := eq_true p9
                  replace q9 := eq_true q9
                  have p11 : 0 ≤ (x1_1 : Int) := of_decide_eq_true (by first | (with_reducible assumption) | assumption)
                  have q11 : x1_1 < (a0.size : Int) := of_decide_eq_true (by first | (with_reducible assumption) | assumption)
                  have hx11 := bt_at a0 x1_1
                  replace p11 := eq_true p11
                  replace q11 := eq_true q11
                  go_wp2
                  go_roundg k1
                  case measure => have := HK1.out; omega
                  case rel => exact ⟨(wrap64 (x1_1 + 1)), (by first | rfl | (simp; done) | (simp [*]; done)), H', ⟨by have := HK1.out; omega⟩, by repeat (first | exact Drawn0.refl _ | apply Drawn0.step)⟩
                · rw [if_neg c12] at H
                  have c12b0 : ((bt a0 x1_1) == 12) = false := beq_eq_false_iff_ne.mpr c12
                  have c12b1 : ((bt a0 x1_1) != 12) = true := bne_iff_ne.mpr c12
                  by_cases c14 : (bt a0 x1_1) = 13
                  · rw [if_pos c14] at H
                    have c14b0 : ((bt a0 x1_1) == 13) = true := beq_iff_eq.mpr c14
                    have c14b1 : ((bt a0 x1_1) != 13) = false := bne_eq_false_iff_eq.mpr c14
                    clear c14
                    have H' := Aside0.mk H
                    clear H
                    have p5 : 0 ≤ (x1_1 : Int) := of_decide_eq_true (by first | (with_reducible assumption) | assumption)
                    have q5 : x1_1 < (a0.size : Int) := of_decide_eq_true (by first | (with_reducible assumption) | assumption)
                    have hx5 := bt_at a0 x1_1
                    replace p5 := eq_true p5
                    replace q5 := eq_true q5
                    have p7 : 0 ≤ (x1_1 : Int) := of_decide_eq_true (by first | (with_reducible assumption) | assumption)
                    have q7 : x1_1 < (a0.size : Int) := of_decide_eq_true (by first | (with_reducible assumption) | assumption)
                    have hx7 := bt_at a0 x1_1
                    replace p7 := eq_true p7
                    replace q7 := eq_true q7
                    have p9 : 0 ≤ (x1_1 : Int) := of_decide_eq_true (by first | (with_reducible assumption) | assumption)
                    have q9 : x1_1 < (a0.size : Int) := of_decide_eq_true (by first | (with_reducible assumption) | assumption)
                    have hx9 := bt_at a0 x1_1
                    replace p9 := eq_true p9
                    replace q9 := eq_true q9
                    have p11 : 0 ≤ (x1_1 : Int) := of_decide_eq_true (by first | (with_reducible assumption) | assumption)
                    have q11 : x1_1 < (a0.size : Int) := of_decide_eq_true (by first | (with_reducible assumption) | assumption)
                    have hx11 := bt_at a0 x1_1
                    replace p11 := eq_true p11
                    replace q11 := eq_true q11
                    have p13 : 0 ≤ (x1_1 : Int) := of_decide_eq_true (by first | (with_reducible assumption) | assumption)
                    have q13 : x1_1 < (a0.size : Int) := of_decide_eq_true (by first | (with_reducible assumption) | assumption)
                    have hx13 := bt_at a0 x1_1
                    replace p13 := eq_true p13
                    replace q13 := eq_true q13
                    go_wp2
                    go_roundg k1
                    case measure => have := HK1.out; omega
                    case rel => exact ⟨(wrap64 (x1_1 + 1)), (by first | rfl | (simp; done) | (simp [*]; done)), H', ⟨by have := HK1.out; omega⟩, by repeat (first | exact Drawn0.refl _ | apply Drawn0.step)⟩
                  · rw [if_neg c14] at H
                    have c14b0 : ((bt a0 x1_1) == 13) = false := beq_eq_false_iff_ne.mpr c14
                    have c14b1 : ((bt a0 x1_1) != 13) = true := bne_iff_ne.mpr c14
                    obtain rfl := Option.some.inj H
                    have p5 : 0 ≤ (x1_1 : Int) := of_decide_eq_true (by first | (with_reducible assumption) | assumption)
                    have q5 : x1_1 < (a0.size : Int) := of_decide_eq_true (by first | (with_reducible assumption) | assumption)
                    have hx5 := bt_at a0 x1_1
                    replace p5 := eq_true p5
                    replace q5 := eq_true q5
                    have p7 : 0 ≤ (x1_1 : Int) := of_decide_eq_true (by first | (with_reducible assumption) | assumption)
                    have q7 : x1_1 < (a0.size : Int) := of_decide_eq_true (by first | (with_reducible assumption) | assumption)
                    have hx7 := bt_at a0 x1_1
                    replace p7 := eq_true p7
                    replace q7 := eq_true q7
                    have p9 : 0 ≤ (x1_1 : Int) := of_decide_eq_true (by first | (with_reducible assumption) | assumption)
                    have q9 : x1_1 < (a0.size : Int) := of_decide_eq_true (by first | (with_reducible assumption) | assumption)
                    have hx9 := bt_at a0 x1_1
                    replace p9 := eq_true p9
                    replace q9 := eq_true q9
                    have p11 : 0 ≤ (x1_1 : Int) := of_decide_eq_true (by first | (with_reducible assumption) | assumption)
                    have q11 : x1_1 < (a0.size : Int) := of_decide_eq_true (by first | (with_reducible assumption) | assumption)
                    have hx11 := bt_at a0 x1_1
                    replace p11 := eq_true p11
                    replace q11 := eq_true q11
                    have p13 : 0 ≤ (x1_1 : Int) := of_decide_eq_true (by first | (with_reducible assumption) | assumption)
                    have q13 : x1_1 < (a0.size : Int) := of_decide_eq_true (by first | (with_reducible assumption) | assumption)
                    have hx13 := bt_at a0 x1_1
                    replace p13 := eq_true p13
                    replace q13 := eq_true q13
                    go_wp2
                    go_ret
                    exact ⟨by first | rfl | (simp; done) | (simp [*]; done), by repeat (first | exact Drawn0.refl _ | apply Drawn0.step)⟩
        · rw [if_neg c4] at H
          exact absurd H (by simp)
      · rw [if_neg c3] at H
        have c3b0 : decide (x1_1 < (a0.size : Int)) = false := decide_eq_false c3
        clear c3
        obtain rfl := Option.some.inj H
        go_wp2
        go_ret
        exact ⟨by first | rfl | (simp; done) | (simp [*]; done), by repeat (first | exact Drawn0.refl _ | apply Drawn0.step)⟩

/-! ### semver_zzMark: function 43 -/
def semver_zzMark.l0 : Nat → ByteArray → Int → Option (Int)
  | 0, _, _ => none
  | k + 1, x0, x1 => if x1 < (x0.size : Int) then (if 0 ≤ x1 then (if (bt x0 x1) ≥ 48 then (if (bt x0 x1) ≤ 57 then (semver_zzMark.l0 k x0 (wrap64 (x1 + 1))) else (if (bt x0 x1) = 120 then (semver_zzMark.l0 k x0 (wrap64 (x1 + 1))) else (if (bt x0 x1) = 88 then (semver_zzMark.l0 k x0 (wrap64 (x1 + 1))) else (if (bt x0 x1) = 42 then (semver_zzMark.l0 k x0 (wrap64 (x1 + 1))) else (if (bt x0 x1) = 124 then (semver_zzMark.l0 k x0 (wrap64 (x1 + 1))) else (some x1)))))) else (if (bt x0 x1) = 120 then (semver_zzMark.l0 k x0 (wrap64 (x1 + 1))) else (if (bt x0 x1) = 88 then (semver_zzMark.l0 k x0 (wrap64 (x1 + 1))) else (if (bt x0 x1) = 42 then (semver_zzMark.l0 k x0 (wrap64 (x1 + 1))) else (if (bt x0 x1) = 124 then (semver_zzMark.l0 k x0 (wrap64 (x1 + 1))) else (some x1)))))) else (none)) else (some x1)
def semver_zzMark.f (k : Nat) (a0 : ByteArray) (a1 : Int) : Option (Int) := semver_zzMark.l0 k a0 a1
theorem semver_zzMark.mono_l : ∀ k, (∀ y0 y1, LeO (semver_zzMark.l0 k y0 y1) (semver_zzMark.l0 (k + 1) y0 y1))
  | 0 => fun _ _ r h => by simp [semver_zzMark.l0] at h
  | k + 1 => by
    have ih0 := semver_zzMark.mono_l k
    · intro y0 y1
      unfold semver_zzMark.l0
      repeat' first
      | (with_reducible exact ih0 _ _)
      | (with_reducible exact LeO.refl _)
      | (with_reducible exact LeO.none _)
      | (with_reducible refine LeO.ite ?_ ?_)
      | (with_reducible refine LeO.bind ?_ (fun _ => ?_))
      | exact ih0 _ _
      | exact LeO.none _
      | refine LeO.ite ?_ ?_
      | refine LeO.bind ?_ (fun _ => ?_)
theorem semver_zzMark.mono : ∀ a0 a1 k, LeO (semver_zzMark.f k a0 a1) (semver_zzMark.f (k + 1) a0 a1) := by
  intro a0 a1 k
  have ih0 := semver_zzMark.mono_l k
  unfold semver_zzMark.f
  repeat' first
      | (with_reducible exact ih0 _ _)
      | (with_reducible exact LeO.refl _)
      | (with_reducible exact LeO.none _)
      | (with_reducible refine LeO.ite ?_ ?_)
      | (with_reducible refine LeO.bind ?_ (fun _ => ?_))
      | exact ih0 _ _
      | exact LeO.none _
      | refine LeO.ite ?_ ?_
      | refine LeO.bind ?_ (fun _ => ?_)
set_option maxHeartbeats 8000000 in
set_option maxRecDepth 100000 in
theorem semver_zzMark.calls (k : Nat) (a0 : ByteArray) (a1 : Int) (r : Int) (w : World) (h : semver_zzMark.f k a0 a1 = some r) :
    Calls Tryz.prog 43 #[.string a0, .int .i64 a1] w fun e w' => e = .returned (.int .i64 r) ∧ Drawn0 w w' := by
  have H : (semver_zzMark.l0 k a0 a1) = some r := h
  clear h
  have H' := Aside0.mk H
  clear H
  go_enter Tryz.func43, Tryz.ntmps43
  go_wp2
  go_loopg [1] k (fun kq v1 w' => ∃ (x1_1 : Int), v1 = .int .i64 x1_1 ∧ Aside0 (semver_zzMark.l0 kq a0 x1_1 = some r) ∧ Aside0 (kq ≤ k) ∧ Drawn0 w w')
  case atStart => exact ⟨(a1), (by first | rfl | (simp; done) | (simp [*]; done)), H', ⟨Nat.le_refl _⟩, by repeat (first | exact Drawn0.refl _ | apply Drawn0.step)⟩
  case round =>
    clear H'
    try clear p2
    obtain ⟨x1_1, rfl, HA, HK1, ⟨m1, rfl⟩⟩ := hrel
    cases gk with
    | zero => exact absurd HA.out (by simp [semver_zzMark.l0])
    | succ k1 =>
      have H := HA.out
      clear HA
      simp only [semver_zzMark.l0] at H
      by_cases c3 : x1_1 < (a0.size : Int)
      · rw [if_pos c3] at H
        have c3b0 : decide (x1_1 < (a0.size : Int)) = true := decide_eq_true c3
        clear c3
        by_cases c4 : 0 ≤ x1_1
        · rw [if_pos c4] at H
          have c4b0 : decide (0 ≤ x1_1) = true := decide_eq_true c4
          clear c4
          by_cases c6 : (bt a0 x1_1) ≥ 48
          · rw [if_pos c6] at H
            have c6b0 : decide (48 ≤ (bt a0 x1_1)) = true := decide_eq_true c6
            clear c6
            by_cases c8 : (bt a0 x1_1) ≤ 57
            · rw [if_pos c8] at H
              have c8b0 : decide ((bt a0 x1_1) ≤ 57) = true := decide_eq_true c8
              clear c8
              have H' := Aside0.mk H
              clear H
              have p5 : 0 ≤ (x1_1 : Int) := of_decide_eq_true (by first | (with_reducible assumption) | assumption)
              have q5 : x1_1 < (a0.size : Int) := of_decide_eq_true (by first | (with_reducible assumption) | assumption)
              have hx5 := bt_at a0 x1_1
              replace p5 := eq_true p5
              replace q5 := eq_true q5
              have p7 : 0 ≤ (x1_1 : Int) := of_decide_eq_true (by first | (with_reducible assumption) | assumption)
              have q7 : x1_1 < (a0.size : Int) := of_decide_eq_true (by first | (with_reducible assumption) | assumption)
              have hx7 := bt_at a0 x1_1
              replace p7 := eq_true p7
              replace q7 := eq_true q7
              go_wp2
              go_roundg k1
              case measure => have := HK1.out; omega
              case rel => exact ⟨(wrap64 (x1_1 + 1)), (by first | rfl | (simp; done) | (simp [*]; done)), H', ⟨by have := HK1.out; omega⟩, by repeat (first | exact Drawn0.refl _ | apply Drawn0.step)⟩
            · rw [if_neg c8] at H
              have c8b0 : decide ((bt a0 x1_1) ≤ 57) = false := decide_eq_false c8
              clear c8
              by_cases c10 : (bt a0 x1_1) = 120
              · rw [if_pos c10] at H
                have c10b0 : ((bt a0 x1_1) == 120) = true := beq_iff_eq.mpr c10
                have c10b1 : ((bt a0 x1_1) != 120) = false := bne_eq_false_iff_eq.mpr c10
                clear c10
                have H' := Aside0.mk H
                clear H
                have p5 : 0 ≤ (x1_1 : Int) := of_decide_eq_true (by first | (with_reducible assumption) | assumption)
                have q5 : x1_1 < (a0.size : Int) := of_decide_eq_true (by first | (with_reducible assumption) | assumption)
                have hx5 := bt_at a0 x1_1
                replace p5 := eq_true p5
                replace q5 := eq_true q5
                have p7 : 0 ≤ (x1_1 : Int) := of_decide_eq_true (by first | (with_reducible assumption) | assumption)
                have q7 : x1_1 < (a0.size : Int) := of_decide_eq_true (by first | (with_reducible assumption) | assumption)
                have hx7 := bt_at a0 x1_1
                replace p7 := eq_true p7
                replace q7 := eq_true q7
                have p9 : 0 ≤ (x1_1 : Int) := of_decide_eq_true (by first | (with_reducible assumption) | assumption)
                have q9 : x1_1 < (a0.size : Int) := of_decide_eq_true (by first | (with_reducible assumption) | assumption)
                have hx9 := bt_at a0 x1_1
                replace p9 := eq_true p9
                replace q9 := eq_true q9
                go_wp2
                go_roundg k1
                case measure => have := HK1.out; omega
                case rel => exact ⟨(wrap64 (x1_1 + 1)), (by first | rfl | (simp; done) | (simp [*]; done)), H', ⟨by have := HK1.out; omega⟩, by repeat (first | exact Drawn0.refl _ | apply Drawn0.step)⟩
              · rw [if_neg c10] at H
                have c10b0 : ((bt a0 x1_1) == 120) = false := beq_eq_false_iff_ne.mpr c10
                have c10b1 : ((bt a0 x1_1) != 120) = true := bne_iff_ne.mpr c10
                by_cases c12 : (bt a0 x1_1) = 88
                · rw [if_pos c12] at H
                  have c12b0 : ((bt a0 x1_1) == 88) = true := beq_iff_eq.mpr c12
                  have c12b1 : ((bt a0 x1_1) != 88) = false := bne_eq_false_iff_eq.mpr c12
                  clear c12
                  have H' := Aside0.mk H
                  clear H
                  have p5 : 0 ≤ (x1_1 : Int) := of_decide_eq_true (by first | (with_reducible assumption) | assumption)
                  have q5 : x1_1 < (a0.size : Int) := of_decide_eq_true (by first | (with_reducible assumption) | assumption)
                  have hx5 := bt_at a0 x1_1
                  replace p5 := eq_true p5
                  replace q5 := eq_true q5
                  have p7 : 0 ≤ (x1_1 : Int) := of_decide_eq_true (by first | (with_reducible assumption) | assumption)
                  have q7 : x1_1 < (a0.size : Int) := of_decide_eq_true (by first | (with_reducible assumption) | assumption)
                  have hx7 := bt_at a0 x1_1
                  replace p7 := eq_true p7
                  replace q7 := eq_true q7
                  have p9 : 0 ≤ (x1_1 : Int) := of_decide_eq_true (by first | (with_reducible assumption) | assumption)
                  have q9 : x1_1 < (a0.size : Int) := of_decide_eq_true (by first | (with_reducible assumption) | assumption)
                  have hx9 := bt_at a0 x1_1
                  replace p9 := eq_true p9
                  replace q9 := eq_true q9
                  have p11 : 0 ≤ (x1_1 : Int) := of_decide_eq_true (by first | (with_reducible assumption) | assumption)
                  have q11 : x1_1 < (a0.size : Int) := of_decide_eq_true (by first | (with_reducible assumption) | assumption)
                  have hx11 := bt_at a0 x1_1
                  replace p11 := eq_true p11
                  replace q11 := eq_true q11
                  go_wp2
                  go_roundg k1
                  case measure => have := HK1.out; omega
                  case rel => exact ⟨(wrap64 (x1_1 + 1)), (by first | rfl | (simp; done) | (simp [*]; done)), H', ⟨by have := HK1.out; omega⟩, by repeat (first | exact Drawn0.refl _ | apply Drawn0.step)⟩
                · rw [if_neg c12] at H
                  have c12b0 : ((bt a0 x1_1) == 88) = false := beq_eq_false_iff_ne.mpr c12
                  have c12b1 : ((bt a0 x1_1) != 88) = true := bne_iff_ne.mpr c12
                  by_cases c14 : (bt a0 x1_1) = 42
                  · rw [if_pos c14] at H
                    have c14b0 : ((bt a0 x1_1) == 42) = true := beq_iff_eq.mpr c14
                    have c14b1 : ((bt a0 x1_1) != 42) = false := bne_eq_false_iff_eq.mpr c14
                    clear c14
                    have H' := Aside0.mk H
                    clear H
                    have p5 : 0 ≤ (x1_1 : Int) := of_decide_eq_true (by first | (with_reducible assumption) | assumption)
                    have q5 : x1_1 < (a0.size : Int) := of_decide_eq_true (by first | (with_reducible assumption) | assumption)
                    have hx5 := bt_at a0 x1_1
                    replace p5 := eq_true p5
                    replace q5 := eq_true q5
                    have p7 : 0 ≤ (x1_1 : Int) := of_decide_eq_true (by first | (with_reducible assumption) | assumption)
                    have q7 : x1_1 < (a0.size : Int) := of_decide_eq_true (by first | (with_reducible assumption) | assumption)
                    have hx7 := bt_at a0 x1_1
                    replace p7 := eq_true p7
                    replace q7 := eq_true q7
                    have p9 : 0 ≤ (x1_1 : Int) := of_decide_eq_true (by first | (with_reducible assumption) | assumption)
                    have q9 : x1_1 < (a0.size : Int) := of_decide_eq_true (by first | (with_reducible assumption) | assumption)
                    have hx9 := bt_at a0 x1_1
                    replace p9 := eq_true p9
                    replace q9 := eq_true q9
                    have p11 : 0 ≤ (x1_1 : Int) := of_decide_eq_true (by first | (with_reducible assumption) | assumption)
                    have q11 : x1_1 < (a0.size : Int) := of_decide_eq_true (by first | (with_reducible assumption) | assumption)
                    have hx11 := bt_at a0 x1_1
                    replace p11 := eq_true p11
                    replace q11 := eq_true q11
                    have p13 : 0 ≤ (x1_1 : Int) := of_decide_eq_true (by first | (with_reducible assumption) | assumption)
                    have q13 : x1_1 < (a0.size : Int) := of_decide_eq_true (by first | (with_reducible assumption) | assumption)
                    have hx13 := bt_at a0 x1_1
                    replace p13 := eq_true p13
                    replace q13 := eq_true q13
                    go_wp2
                    go_roundg k1
                    case measure => have := HK1.out; omega
                    case rel => exact ⟨(wrap64 (x1_1 + 1)), (by first | rfl | (simp; done) | (simp [*]; done)), H', ⟨by have := HK1.out; omega⟩, by repeat (first | exact Drawn0.refl _ | apply Drawn0.step)⟩
                  · rw [if_neg c14] at H
                    have c14b0 : ((bt a0 x1_1) == 42) = false := beq_eq_false_iff_ne.mpr c14
                    have c14b1 : ((bt a0 x1_1) != 42) = true := bne_iff_ne.mpr c14
                    by_cases c16 : (bt a0 x1_1) = 124
                    · rw [if_pos c16] at H
                      have c16b0 : ((bt a0 x1_1) == 124) = true := beq_iff_eq.mpr c16
                      have c16b1 : ((bt a0 x1_1) != 124) = false := bne_eq_false_iff_eq.mpr c16
                      clear c16
                      have H' := Aside0.mk H
                      clear H
                      have p5 : 0 ≤ (x1_1 : Int) := of_decide_eq_true (by first | (with_reducible assumption) | assumption)
                      have q5 : x1_1 < (a0.size : Int) := of_decide_eq_true (by first | (with_reducible assumption) | assumption)
                      have hx5 := bt_at a0 x1_1
                      replace p5 := eq_true p5
                      replace q5 := eq_true q5
                      have p7 : 0 ≤ (x1_1 : Int) := of_decide_eq_true (by first | (with_reducible assumption) | assumption)
                      have q7 : x1_1 < (a0.size : Int) := of_decide_eq_true (by first | (with_reducible assumption) | assumption)
                      have hx7 := bt_at a0 x1_1
                      replace p7 := eq_true p7
                      replace q7 := eq_true q7
                      have p9 : 0 ≤ (x1_1 : Int) := of_decide_eq_true (by first | (with_reducible assumption) | assumption)
                      have q9 : x1_1 < (a0.size : Int) := of_decide_eq_true (by first | (with_reducible assumption) | assumption)
                      have hx9 := bt_at a0 x1_1
                      replace p9 := eq_true p9
                      replace q9 := eq_true q9
                      have p11 : 0 ≤ (x1_1 : Int) := of_decide_eq_true (by first | (with_reducible assumption) | assumption)
                      have q11 : x1_1 < (a0.size : Int) := of_decide_eq_true (by first | (with_reducible assumption) | assumption)
                      have hx11 := bt_at a0 x1_1
                      replace p11 := eq_true p11
                      replace q11 := eq_true q11
                      have p13 : 0 ≤ (x1_1 : Int) := of_decide_eq_true (by first | (with_reducible assumption) | assumption)
                      have q13 : x1_1 < (a0.size : Int) := of_decide_eq_true (by first | (with_reducible assumption) | assumption)
                      have hx13 := bt_at a0 x1_1
                      replace p13 := eq_true p13
                      replace q13 := eq_true q13
                      have p15 : 0 ≤ (x1_1 : Int) := of_decide_eq_true (by first | (with_reducible assumption) | assumption)
                      have q15 : x1_1 < (a0.size : Int) := of_decide_eq_true (by first | (with_reducible assumption) | assumption)
                      have hx15 := bt_at a0 x1_1
                      replace p15 := eq_true p15
                      replace q15 := eq_true q15
                      go_wp2
                      go_roundg k1
                      case measure => have := HK1.out; omega
                      case rel => exact ⟨(wrap64 (x1_1 + 1)), (by first | rfl | (simp; done) | (simp [*]; done)), H', ⟨by have := HK1.out; omega⟩, by repeat (first | exact Drawn0.refl _ | apply Drawn0.step)⟩
                    · rw [if_neg c16] at H
                      have c16b0 : ((bt a0 x1_1) == 124) = false := beq_eq_false_iff_ne.mpr c16
                      have c16b1 : ((bt a0 x1_1) != 124) = true := bne_iff_ne.mpr c16
                      obtain rfl := Option.some.inj H
                      have p5 : 0 ≤ (x1_1 : Int) := of_decide_eq_true (by first | (with_reducible assumption) | assumption)
                      have q5 : x1_1 < (a0.size : Int) := of_decide_eq_true (by first | (with_reducible assumption) | assumption)
                      have hx5 := bt_at a0 x1_1
                      replace p5 := eq_true p5
                      replace q5 := eq_true q5
                      have p7 : 0 ≤ (x1_1 : Int) := of_decide_eq_true (by first | (with_reducible assumption) | assumption)
                      have q7 : x1_1 < (a0.size : Int) := of_decide_eq_true (by first | (with_reducible assumption) | assumption)
                      have hx7 := bt_at a0 x1_1
                      replace p7 := eq_true p7
                      replace q7 := eq_true q7
                      have p9 : 0 ≤ (x1_1 : Int) := of_decide_eq_true (by first | (with_reducible assumption) | assumption)
                      have q9 : x1_1 < (a0.size : Int) := of_decide_eq_true (by first | (with_reducible assumption) | assumption)
                      have hx9 := bt_at a0 x1_1
                      replace p9 := eq_true p9
                      replace q9 := eq_true q9
                      have p11 : 0 ≤ (x1_1 : Int) := of_decide_eq_true (by first | (with_reducible assumption) | assumption)
                      have q11 : x1_1 < (a0.size : Int) := of_decide_eq_true (by first | (with_reducible assumption) | assumption)
                      have hx11 := bt_at a0 x1_1
                      replace p11 := eq_true p11
                      replace q11 := eq_true q11
                      have p13 : 0 ≤ (x1_1 : Int) := of_decide_eq_true (by first | (with_reducible assumption) | assumption)
                      have q13 : x1_1 < (a0.size : Int) := of_decide_eq_true (by first | (with_reducible assumption) | assumption)
                      have hx13 := bt_at a0 x1_1
                      replace p13 := eq_true p13
                      replace q13 := eq_true q13
                      have p15 : 0 ≤ (x1_1 : Int) := of_decide_eq_true (by first | (with_reducible assumption) | assumption)
                      have q15 : x1_1 < (a0.size : Int) := of_decide_eq_true (by first | (with_reducible assumption) | assumption)
                      have hx15 := bt_at a0 x1_1
                      replace p15 := eq_true p15
                      replace q15 := eq_true q15
                      go_wp2
                      go_ret
                      exact ⟨by first | rfl | (simp; done) | (simp [*]; done), by repeat (first | exact Drawn0.refl _ | apply Drawn0.step)⟩
          · rw [if_neg c6] at H
            have c6b0 : decide (48 ≤ (bt a0 x1_1)) = false := decide_eq_false c6
            clear c6
            by_cases c18 : (bt a0 x1_1) = 120
            · rw [if_pos c18] at H
              have c18b0 : ((bt a0 x1_1) == 120) = true := beq_iff_eq.mpr c18
              have c18b1 : ((bt a0 x1_1) != 120) = false := bne_eq_false_iff_eq.mpr c18
              clear c18
              have H' := Aside0.mk H
              clear H
              have p5 : 0 ≤ (x1_1 : Int) := of_decide_eq_true (by first | (with_reducible assumption) | assumption)
              have q5 : x1_1 < (a0.size : Int) := of_decide_eq_true (by first | (with_reducible assumption) | assumption)
              have hx5 := bt_at a0 x1_1
              replace p5 := eq_true p5
              replace q5 := eq_true q5
              have p17 : 0 ≤ (x1_1 : Int) := of_decide_eq_true (by first | (with_reducible assumption) | assumption)
              have q17 : x1_1 < (a0.size : Int) := of_decide_eq_true (by first | (with_reducible assumption) | assumption)
              have hx17 := bt_at a0 x1_1
              replace p17 := eq_true p17
              replace q17 := eq_true q17
              go_wp2
              go_roundg k1
              case measure => have := HK1.out; omega
              case rel => exact ⟨(wrap64 (x1_1 + 1)), (by first | rfl | (simp; done) | (simp [*]; done)), H', ⟨by have := HK1.out; omega⟩, by repeat (first | exact Drawn0.refl _ | apply Drawn0.step)⟩
            · rw [if_neg c18] at H
              have c18b0 : ((bt a0 x1_1) == 120) = false := beq_eq_false_iff_ne.mpr c18
              have c18b1 : ((bt a0 x1_1) != 120) = true := bne_iff_ne.mpr c18
              by_cases c20 : (bt a0 x1_1) = 88
              · rw [if_pos c20] at H
                have c20b0 : ((bt a0 x1_1) == 88) = true := beq_iff_eq.mpr c20
                have c20b1 : ((bt a0 x1_1) != 88) = false := bne_eq_false_iff_eq.mpr c20
                clear c20
                have H' := Aside0.mk H
                clear H
                have p5 : 0 ≤ (x1_1 : Int) := of_decide_eq_true (by first | (with_reducible assumption) | assumption)
                have q5 : x1_1 < (a0.size : Int) := of_decide_eq_true (by first | (with_reducible assumption) | assumption)
                have hx5 := bt_at a0 x1_1
                replace p5 := eq_true p5
                replace q5 := eq_true q5
                have p17 : 0 ≤ (x1_1 : Int) := of_decide_eq_true (by first | (with_reducible assumption) | assumption)
                have q17 : x1_1 < (a0.size : Int) := of_decide_eq_true (by first | (with_reducible assumption) | assumption)
                have hx17 := bt_at a0 x1_1
                replace p17 := eq_true p17
                replace q17 := eq_true q17
                have p19 : 0 ≤ (x1_1 : Int) := of_decide_eq_true (by first | (with_reducible assumption) | assumption)
                have q19 : x1_1 < (a0.size : Int) := of_decide_eq_true (by first | (with_reducible assumption) | assumption)
                have hx19 := bt_at a0 x1_1
                replace p19 := eq_true p19
                replace q19 := eq_true q19
                go_wp2
                go_roundg k1
                case measure => have := HK1.out; omega
                case rel => exact ⟨(wrap64 (x1_1 + 1)), (by first | rfl | (simp; done) | (simp [*]; done)), H', ⟨by have := HK1.out; omega⟩, by repeat (first | exact Drawn0.refl _ | apply Drawn0.step)⟩
              · rw [if_neg c20] at H
                have c20b0 : ((bt a0 x1_1) == 88) = false := beq_eq_false_iff_ne.mpr c20
                have c20b1 : ((bt a0 x1_1) != 88) = true := bne_iff_ne.mpr c20
                by_cases c22 : (bt a0 x1_1) = 42
                · rw [if_pos c22] at H
                  have c22b0 : ((bt a0 x1_1) == 42) = true := beq_iff_eq.mpr c22
                  have c22b1 : ((bt a0 x1_1) != 42) = false := bne_eq_false_iff_eq.mpr c22
                  clear c22
                  have H' := Aside0.mk H
                  clear H
                  have p5 : 0 ≤ (x1_1 : Int) := of_decide_eq_true (by first | (with_reducible assumption) | assumption)
                  have q5 : x1_1 < (a0.size : Int) := of_decide_eq_true (by first | (with_reducible assumption) | assumption)
                  have hx5 := bt_at a0 x1_1
                  replace p5 := eq_true p5
                  replace q5 := eq_true q5
                  have p17 : 0 ≤ (x1_1 : Int) := of_decide_eq_true (by first | (with_reducible assumption) | assumption)
                  have q17 : x1_1 < (a0.size : Int) := of_decide_eq_true (by first | (with_reducible assumption) | assumption)
                  have hx17 := bt_at a0 x1_1
                  replace p17 := eq_true p17
                  replace q17 := eq_true q17
                  have p19 : 0 ≤ (x1_1 : Int) := of_decide_eq_true (by first | (with_reducible assumption) | assumption)
                  have q19 : x1_1 < (a0.size : Int) := of_decide_eq_true (by first | (with_reducible assumption) | assumption)
                  have hx19 := bt_at a0 x1_1
                  replace p19 := eq_true p19
                  replace q19 := eq_true q19
                  have p21 : 0 ≤ (x1_1 : Int) := of_decide_eq_true (by first | (with_reducible assumption) | assumption)
                  have q21 : x1_1 < (a0.size : Int) := of_decide_eq_true (by first | (with_reducible assumption) | assumption)
                  have hx21 := bt_at a0 x1_1
                  replace p21 := eq_true p21
                  replace q21 := eq_true q21
                  go_wp2
                  go_roundg k1
                  case measure => have := HK1.out; omega
                  case rel => exact ⟨(wrap64 (x1_1 + 1)), (by first | rfl | (simp; done) | (simp [*]; done)), H', ⟨by have := HK1.out; omega⟩, by repeat (first | exact Drawn0.refl _ | apply Drawn0.step)⟩
                · rw [if_neg c22] at H
                  have c22b0 : ((bt a0 x1_1) == 42) = false := beq_eq_false_iff_ne.mpr c22
                  have c22b1 : ((bt a0 x1_1) != 42) = true := bne_iff_ne.mpr c22
                  by_cases c24 : (bt a0 x1_1) = 124
                  · rw [if_pos c24] at H
                    have c24b0 : ((bt a0 x1_1) == 124) = true := beq_iff_eq.mpr c24
                    have c24b1 : ((bt a0 x1_1) != 124) = false := bne_eq_false_iff_eq.mpr c24
                    clear c24
                    have H' := Aside0.mk H
                    clear H
                    have p5 : 0 ≤ (x1_1 : Int) := of_decide_eq_true (by first | (with_reducible assumption) | assumption)
                    have q5 : x1_1 < (a0.size : Int) := of_decide_eq_true (by first | (with_reducible assumption) | assumption)
                    have hx5 := bt_at a0 x1_1
                    replace p5 := eq_true p5
                    replace q5 := eq_true q5
                    have p17 : 0 ≤ (x1_1 : Int) := of_decide_eq_true (by first | (with_reducible assumption) | assumption)
                    have q17 : x1_1 < (a0.size : Int) := of_decide_eq_true (by first | (with_reducible assumption) | assumption)
                    have hx17 := bt_at a0 x1_1
                    replace p17 := eq_true p17
                    replace q17 := eq_true q17
                    have p19 : 0 ≤ (x1_1 : Int) := of_decide_eq_true (by first | (with_reducible assumption) | assumption)
                    have q19 : x1_1 < (a0.size : Int) := of_decide_eq_true (by first | (with_reducible assumption) | assumption)
                    have hx19 := bt_at a0 x1_1
                    replace p19 := eq_true p19
                    replace q19 := eq_true q19
                    have p21 : 0 ≤ (x1_1 : Int) := of_decide_eq_true (by first | (with_reducible assumption) | assumption)
                    have q21 : x1_1 < (a0.size : Int) := of_decide_eq_true (by first | (with_reducible assumption) | assumption)
                    have hx21 := bt_at a0 x1_1
                    replace p21 := eq_true p21
                    replace q21 := eq_true q21
                    have p23 : 0 ≤ (x1_1 : Int) := of_decide_eq_true (by first | (with_reducible assumption) | assumption)
                    have q23 : x1_1 < (a0.size : Int) := of_decide_eq_true (by first | (with_reducible assumption) | assumption)
                    have hx23 := bt_at a0 x1_1
                    replace p23 := eq_true p23
                    replace q23 := eq_true q23
                    go_wp2
                    go_roundg k1
                    case measure => have := HK1.out; omega
                    case rel => exact ⟨(wrap64 (x1_1 + 1)), (by first | rfl | (simp; done) | (simp [*]; done)), H', ⟨by have := HK1.out; omega⟩, by repeat (first | exact Drawn0.refl _ | apply Drawn0.step)⟩
                  · rw [if_neg c24] at H
                    have c24b0 : ((bt a0 x1_1) == 124) = false := beq_eq_false_iff_ne.mpr c24
                    have c24b1 : ((bt a0 x1_1) != 124) = true := bne_iff_ne.mpr c24
                    obtain rfl := Option.some.inj H
                    have p5 : 0 ≤ (x1_1 : Int) := of_decide_eq_true (by first | (with_reducible assumption) | assumption)
                    have q5 : x1_1 < (a0.size : Int) := of_decide_eq_true (by first | (with_reducible assumption) | assumption)
                    have hx5 := bt_at a0 x1_1
                    replace p5 := eq_true p5
                    replace q5 := eq_true q5
                    have p17 : 0 ≤ (x1_1 : Int) := of_decide_eq_true (by first | (with_reducible assumption) | assumption)
                    have q17 : x1_1 < (a0.size : Int) := of_decide_eq_true (by first | (with_reducible assumption) | assumption)
                    have hx17 := bt_at a0 x1_1
                    replace p17 := eq_true p17
                    replace q17 := eq_true q17
                    have p19 : 0 ≤ (x1_1 : Int) := of_decide_eq_true (by first | (with_reducible assumption) | assumption)
                    have q19 : x1_1 < (a0.size : Int) := of_decide_eq_true (by first | (with_reducible assumption) | assumption)
                    have hx19 := bt_at a0 x1_1
                    replace p19 := eq_true p19
                    replace q19 := eq_true q19
                    have p21 : 0 ≤ (x1_1 : Int) := of_decide_eq_true (by first | (with_reducible assumption) | assumption)
                    have q21 : x1_1 < (a0.size : Int) := of_decide_eq_true (by first | (with_reducible assumption) | assumption)
                    have hx21 := bt_at a0 x1_1
                    replace p21 := eq_true p21
                    replace q21 := eq_true q21
                    have p23 : 0 ≤ (x1_1 : Int) := of_decide_eq_true (by first | (with_reducible assumption) | assumption)
                    have q23 : x1_1 < (a0.size : Int) := of_decide_eq_true (by first | (with_reducible assumption) | assumption)
                    have hx23 := bt_at a0 x1_1
                    replace p23 := eq_true p23
                    replace q23 := eq_true q23
                    go_wp2
                    go_ret
                    exact ⟨by first | rfl | (simp; done) | (simp [*]; done), by repeat (first | exact Drawn0.refl _ | apply Drawn0.step)⟩
        · rw [if_neg c4] at H
          exact absurd H (by simp)
      · rw [if_neg c3] at H
        have c3b0 : decide (x1_1 < (a0.size : Int)) = false := decide_eq_false c3
        clear c3
        obtain rfl := Option.some.inj H
        go_wp2
        go_ret
        exact ⟨by first | rfl | (simp; done) | (simp [*]; done), by repeat (first | exact Drawn0.refl _ | apply Drawn0.step)⟩


/-! ### semver_zzPart: function 57 -/
def semver_zzPart.l0 : Nat → ByteArray → Int → Option (Int)
  | 0, _, _ => none
  | k + 1, x0, x1 => if x1 < (x0.size : Int) then (if 0 ≤ x1 then (if (bt x0 x1) ≥ 48 then (if (bt x0 x1) ≤ 57 then (semver_zzPart.l0 k x0 (wrap64 (x1 + 1))) else (if (bt x0 x1) ≥ 97 then (if (bt x0 x1) ≤ 122 then (semver_zzPart.l0 k x0 (wrap64 (x1 + 1))) else (if (bt x0 x1) ≥ 65 then (if (bt x0 x1) ≤ 90 then (semver_zzPart.l0 k x0 (wrap64 (x1 + 1))) else (if (bt x0 x1) = 45 then (semver_zzPart.l0 k x0 (wrap64 (x1 + 1))) else (some x1))) else (if (bt x0 x1) = 45 then (semver_zzPart.l0 k x0 (wrap64 (x1 + 1))) else (some x1)))) else (if (bt x0 x1) ≥ 65 then (if (bt x0 x1) ≤ 90 then (semver_zzPart.l0 k x0 (wrap64 (x1 + 1))) else (if (bt x0 x1) = 45 then (semver_zzPart.l0 k x0 (wrap64 (x1 + 1))) else (some x1))) else (if (bt x0 x1) = 45 then (semver_zzPart.l0 k x0 (wrap64 (x1 + 1))) else (some x1))))) else (if (bt x0 x1) ≥ 97 then (if (bt x0 x1) ≤ 122 then (semver_zzPart.l0 k x0 (wrap64 (x1 + 1))) else (if (bt x0 x1) ≥ 65 then (if (bt x0 x1) ≤ 90 then (semver_zzPart.l0 k x0 (wrap64 (x1 + 1))) else (if (bt x0 x1) = 45 then (semver_zzPart.l0 k x0 (wrap64 (x1 + 1))) else (some x1))) else (if (bt x0 x1) = 45 then (semver_zzPart.l0 k x0 (wrap64 (x1 + 1))) else (some x1)))) else (if (bt x0 x1) ≥ 65 then (if (bt x0 x1) ≤ 90 then (semver_zzPart.l0 k x0 (wrap64 (x1 + 1))) else (if (bt x0 x1) = 45 then (semver_zzPart.l0 k x0 (wrap64 (x1 + 1))) else (some x1))) else (if (bt x0 x1) = 45 then (semver_zzPart.l0 k x0 (wrap64 (x1 + 1))) else (some x1))))) else (none)) else (some x1)
def semver_zzPart.f (k : Nat) (a0 : ByteArray) (a1 : Int) : Option (Int) := semver_zzPart.l0 k a0 a1
theorem semver_zzPart.mono_l : ∀ k, (∀ y0 y1, LeO (semver_zzPart.l0 k y0 y1) (semver_zzPart.l0 (k + 1) y0 y1))
  | 0 => fun _ _ r h => by simp [semver_zzPart.l0] at h
  | k + 1 => by
    have ih0 := semver_zzPart.mono_l k
    · intro y0 y1
      unfold semver_zzPart.l0
      repeat' first
      | (with_reducible exact ih0 _ _)
      | (with_reducible exact LeO.refl _)
      | (with_reducible exact LeO.none _)
      | (with_reducible refine LeO.ite ?_ ?_)
      | (with_reducible refine LeO.bind ?_ (fun _ => ?_))
      | exact ih0 _ _
      | exact LeO.none _
      | refine LeO.ite ?_ ?_
      | refine LeO.bind ?_ (fun _ => ?_)
theorem semver_zzPart.mono : ∀ a0 a1 k, LeO (semver_zzPart.f k a0 a1) (semver_zzPart.f (k + 1) a0 a1) := by
  intro a0 a1 k
  have ih0 := semver_zzPart.mono_l k
  unfold semver_zzPart.f
  repeat' first
      | (with_reducible exact ih0 _ _)
      | (with_reducible exact LeO.refl _)
      | (with_reducible exact LeO.none _)
      | (with_reducible refine LeO.ite ?_ ?_)
      | (with_reducible refine LeO.bind ?_ (fun _ => ?_))
      | exact ih0 _ _
      | exact LeO.none _
      | refine LeO.ite ?_ ?_
      | refine LeO.bind ?_ (fun _ => ?_)
set_option maxHeartbeats 8000000 in
set_option maxRecDepth 100000 in
theorem semver_zzPart.calls (k : Nat) (a0 : ByteArray) (a1 : Int) (r : Int) (w : World) (h : semver_zzPart.f k a0 a1 = some r) :
    Calls Tryz.prog 57 #[.string a0, .int .i64 a1] w fun e w' => e = .returned (.int .i64 r) ∧ Drawn0 w w' := by
  have H : (semver_zzPart.l0 k a0 a1) = some r := h
  clear h
  have H' := Aside0.mk H
  clear H
  go_enter Tryz.func57, Tryz.ntmps57
  go_wp2
  go_loopg [1] k (fun kq v1 w' => ∃ (x1_1 : Int), v1 = .int .i64 x1_1 ∧ Aside0 (semver_zzPart.l0 kq a0 x1_1 = some r) ∧ Aside0 (kq ≤ k) ∧ Drawn0 w w')
  case atStart => exact ⟨(a1), (by first | rfl | (simp; done) | (simp [*]; done)), H', ⟨Nat.le_refl _⟩, by repeat (first | exact Drawn0.refl _ | apply Drawn0.step)⟩
  case round =>
    clear H'
    try clear p2
    obtain ⟨x1_1, rfl, HA, HK1, ⟨m1, rfl⟩⟩ := hrel
    cases gk with
    | zero => exact absurd HA.out (by simp [semver_zzPart.l0])
    | succ k1 =>
      have H := HA.out
      clear HA
      simp only [semver_zzPart.l0] at H
      by_cases c3 : x1_1 < (a0.size : Int)
      · rw [if_pos c3] at H
        have c3b0 : decide (x1_1 < (a0.size : Int)) = true := decide_eq_true c3
        clear c3
        by_cases c4 : 0 ≤ x1_1
        · rw [if_pos c4] at H
          have c4b0 : decide (0 ≤ x1_1) = true := decide_eq_true c4
          clear c4
          by_cases c6 : (bt a0 x1_1) ≥ 48
          · rw [if_pos c6] at H
            have c6b0 : decide (48 ≤ (bt a0 x1_1)) = true := decide_eq_true c6
            clear c6
            by_cases c8 : (bt a0 x1_1) ≤ 57
            · rw [if_pos c8] at H
              have c8b0 : decide ((bt a0 x1_1) ≤ 57) = true := decide_eq_true c8
              clear c8
              have H' := Aside0.mk H
              clear H
              have p5 : 0 ≤ (x1_1 : Int) := of_decide_eq_true (by first | (with_reducible assumption) | assumption)
              have q5 : x1_1 < (a0.size : Int) := of_decide_eq_true (by first | (with_reducible assumption) | assumption)
              have hx5 := bt_at a0 x1_1
              replace p5 := eq_true p5
              replace q5 := eq_true q5
              have p7 : 0 ≤ (x1_1 : Int) := of_decide_eq_true (by first | (with_reducible assumption) | assumption)
              have q7 : x1_1 < (a0.size : Int) := of_decide_eq_true (by first | (with_reducible assumption) | assumption)
              have hx7 := bt_at a0 x1_1
              replace p7 := eq_true p7
              replace q7 := eq_true q7
              go_wp2
              go_roundg k1
              case measure => have := HK1.out; omega
              case rel => exact ⟨(wrap64 (x1_1 + 1)), (by first | rfl | (simp; done) | (simp [*]; done)), H', ⟨by have := HK1.out; omega⟩, by repeat (first | exact Drawn0.refl _ | apply Drawn0.step)⟩
            · rw [if_neg c8] at H
              have c8b0 : decide ((bt a0 x1_1) ≤ 57) = false := decide_eq_false c8
              clear c8
              by_cases c10 : (bt a0 x1_1) ≥ 97
              · rw [if_pos c10] at H
                have c10b0 : decide (97 ≤ (bt a0 x1_1)) = true := decide_eq_true c10
                clear c10
                by_cases c12 : (bt a0 x1_1) ≤ 122
                · rw [if_pos c12] at H
                  have c12b0 : decide ((bt a0 x1_1) ≤ 122) = true := decide_eq_true c12
                  clear c12
                  have H' := Aside0.mk H
                  clear H
                  have p5 : 0 ≤ (x1_1 : Int) := of_decide_eq_true (by first | (with_reducible assumption) | assumption)
                  have q5 : x1_1 < (a0.size : Int) := of_decide_eq_true (by first | (with_reducible assumption) | assumption)
                  have hx5 := bt_at a0 x1_1
                  replace p5 := eq_true p5
                  replace q5 := eq_true q5
                  have p7 : 0 ≤ (x1_1 : Int) := of_decide_eq_true (by first | (with_reducible assumption) | assumption)
                  have q7 : x1_1 < (a0.size : Int) := of_decide_eq_true (by first | (with_reducible assumption) | assumption)
                  have hx7 := bt_at a0 x1_1
                  replace p7 := eq_true p7
                  replace q7 := eq_true q7
                  have p9 : 0 ≤ (x1_1 : Int) := of_decide_eq_true (by first | (with_reducible assumption) | assumption)
                  have q9 : x1_1 < (a0.size : Int) := of_decide_eq_true (by first | (with_reducible assumption) | assumption)
                  have hx9 := bt_at a0 x1_1
                  replace p9 := eq_true p9
                  replace q9 := eq_true q9
                  have p11 : 0 ≤ (x1_1 : Int) := of_decide_eq_true (by first | (with_reducible assumption) | assumption)
                  have q11 : x1_1 < (a0.size : Int) := of_decide_eq_true (by first | (with_reducible assumption) | assumption)
                  have hx11 := bt_at a0 x1_1
                  replace p11 := eq_true p11
                  replace q11 := eq_true q11
                  go_wp2
                  go_roundg k1
                  case measure => have := HK1.out; omega
                  case rel => exact ⟨(wrap64 (x1_1 + 1)), (by first | rfl | (simp; done) | (simp [*]; done)), H', ⟨by have := HK1.out; omega⟩, by repeat (first | exact Drawn0.refl _ | apply Drawn0.step)⟩
                · rw [if_neg c12] at H
                  have c12b0 : decide ((bt a0 x1_1) ≤ 122) = false := decide_eq_false c12
                  clear c12
                  by_cases c14 : (bt a0 x1_1) ≥ 65
                  · rw [if_pos c14] at H
                    have c14b0 : decide (65 ≤ (bt a0 x1_1)) = true := decide_eq_true c14
                    clear c14
                    by_cases c16 : (bt a0 x1_1) ≤ 90
                    · rw [if_pos c16] at H
                      have c16b0 : decide ((bt a0 x1_1) ≤ 90) = true := decide_eq_true c16
                      clear c16
                      have H' := Aside0.mk H
                      clear H
                      have p5 : 0 ≤ (x1_1 : Int) := of_decide_eq_true (by first | (with_reducible assumption) | assumption)
                      have q5 : x1_1 < (a0.size : Int) := of_decide_eq_true (by first | (with_reducible assumption) | assumption)
                      have hx5 := bt_at a0 x1_1
                      replace p5 := eq_true p5
                      replace q5 := eq_true q5
                      have p7 : 0 ≤ (x1_1 : Int) := of_decide_eq_true (by first | (with_reducible assumption) | assumption)
                      have q7 : x1_1 < (a0.size : Int) := of_decide_eq_true (by first | (with_reducible assumption) | assumption)
                      have hx7 := bt_at a0 x1_1
                      replace p7 := eq_true p7
                      replace q7 := eq_true q7
                      have p9 : 0 ≤ (x1_1 : Int) := of_decide_eq_true (by first | (with_reducible assumption) | assumption)
                      have q9 : x1_1 < (a0.size : Int) := of_decide_eq_true (by first | (with_reducible assumption) | assumption)
                      have hx9 := bt_at a0 x1_1
                      replace p9 := eq_true p9
                      replace q9 := eq_true q9
                      have p11 : 0 ≤ (x1_1 : Int) := of_decide_eq_true (by first | (with_reducible assumption) | assumption)
                      have q11 : x1_1 < (a0.size : Int) := of_decide_eq_true (by first | (with_reducible assumption) | assumption)
                      have hx11 := bt_at a0 x1_1
                      replace p11 := eq_true p11
                      replace q11 := eq_true q11
                      have p13 : 0 ≤ (x1_1 : Int) := of_decide_eq_true (by first | (with_reducible assumption) | assumption)
                      have q13 : x1_1 < (a0.size : Int) := of_decide_eq_true (by first | (with_reducible assumption) | assumption)
                      have hx13 := bt_at a0 x1_1
                      replace p13 := eq_true p13
                      replace q13 := eq_true q13
                      have p15 : 0 ≤ (x1_1 : Int) := of_decide_eq_true (by first | (with_reducible assumption) | assumption)
                      have q15 : x1_1 < (a0.size : Int) := of_decide_eq_true (by first | (with_reducible assumption) | assumption)
                      have hx15 := bt_at a0 x1_1
                      replace p15 := eq_true p15
                      replace q15 := eq_true q15
                      go_wp2
                      go_roundg k1
                      case measure => have := HK1.out; omega
                      case rel => exact ⟨(wrap64 (x1_1 + 1)), (by first | rfl | (simp; done) | (simp [*]; done)), H', ⟨by have := HK1.out; omega⟩, by repeat (first | exact Drawn0.refl _ | apply Drawn0.step)⟩
                    · rw [if_neg c16] at H
                      have c16b0 : decide ((bt a0 x1_1) ≤ 90) = false := decide_eq_false c16
                      clear c16
                      by_cases c18 : (bt a0 x1_1) = 45
                      · rw [if_pos c18] at H
                        have c18b0 : ((bt a0 x1_1) == 45) = true := beq_iff_eq.mpr c18
                        have c18b1 : ((bt a0 x1_1) != 45) = false := bne_eq_false_iff_eq.mpr c18
                        clear c18
                        have H' := Aside0.mk H
                        clear H
                        have p5 : 0 ≤ (x1_1 : Int) := of_decide_eq_true (by first | (with_reducible assumption) | assumption)
                        have q5 : x1_1 < (a0.size : Int) := of_decide_eq_true (by first | (with_reducible assumption) | assumption)
                        have hx5 := bt_at a0 x1_1
                        replace p5 := eq_true p5
                        replace q5 := eq_true q5
                        have p7 : 0 ≤ (x1_1 : Int) := of_decide_eq_true (by first | (with_reducible assumption) | assumption)
                        have q7 : x1_1 < (a0.size : Int) := of_decide_eq_true (by first | (with_reducible assumption) | assumption)
                        have hx7 := bt_at a0 x1_1
                        replace p7 := eq_true p7
                        replace q7 := eq_true q7
                        have p9 : 0 ≤ (x1_1 : Int) := of_decide_eq_true (by first | (with_reducible assumption) | assumption)
                        have q9 : x1_1 < (a0.size : Int) := of_decide_eq_true (by first | (with_reducible assumption) | assumption)
                        have hx9 := bt_at a0 x1_1
                        replace p9 := eq_true p9
                        replace q9 := eq_true q9
                        have p11 : 0 ≤ (x1_1 : Int) := of_decide_eq_true (by first | (with_reducible assumption) | assumption)
                        have q11 : x1_1 < (a0.size : Int) := of_decide_eq_true (by first | (with_reducible assumption) | assumption)
                        have hx11 := bt_at a0 x1_1
                        replace p11 := eq_true p11
                        replace q11 := eq_true q11
                        have p13 : 0 ≤ (x1_1 : Int) := of_decide_eq_true (by first | (with_reducible assumption) | assumption)
                        have q13 : x1_1 < (a0.size : Int) := of_decide_eq_true (by first | (with_reducible assumption) | assumption)
                        have hx13 := bt_at a0 x1_1
                        replace p13 := eq_true p13
                        replace q13 := eq_true q13
                        have p15 : 0 ≤ (x1_1 : Int) := of_decide_eq_true (by first | (with_reducible assumption) | assumption)
                        have q15 : x1_1 < (a0.size : Int) := of_decide_eq_true (by first | (with_reducible assumption) | assumption)
                        have hx15 := bt_at a0 x1_1
                        replace p15 := eq_true p15
                        replace q15 := eq_true q15
                        have p17 : 0 ≤ (x1_1 : Int) := of_decide_eq_true (by first | (with_reducible assumption) | assumption)
                        have q17 : x1_1 < (a0.size : Int) := of_decide_eq_true (by first | (with_reducible assumption) | assumption)
                        have hx17 := bt_at a0 x1_1
                        replace p17 := eq_true p17
                        replace q17 := eq_true q17
                        go_wp2
                        go_roundg k1
                        case measure => have := HK1.out; omega
                        case rel => exact ⟨(wrap64 (x1_1 + 1)), (by first | rfl | (simp; done) | (simp [*]; done)), H', ⟨by have := HK1.out; omega⟩, by repeat (first | exact Drawn0.refl _ | apply Drawn0.step)⟩
                      · rw [if_neg c18] at H
                        have c18b0 : ((bt a0 x1_1) == 45) = false := beq_eq_false_iff_ne.mpr c18
                        have c18b1 : ((bt a0 x1_1) != 45) = true := bne_iff_ne.mpr c18
                        obtain rfl := Option.some.inj H
                        have p5 : 0 ≤ (x1_1 : Int) := of_decide_eq_true (by first | (with_reducible assumption) | assumption)
                        have q5 : x1_1 < (a0.size : Int) := of_decide_eq_true (by first | (with_reducible assumption) | assumption)
                        have hx5 := bt_at a0 x1_1
                        replace p5 := eq_true p5
                        replace q5 := eq_true q5
                        have p7 : 0 ≤ (x1_1 : Int) := of_decide_eq_true (by first | (with_reducible assumption) | assumption)
                        have q7 : x1_1 < (a0.size : Int) := of_decide_eq_true (by first | (with_reducible assumption) | assumption)
                        have hx7 := bt_at a0 x1_1
                        replace p7 := eq_true p7
                        replace q7 := eq_true q7
                        have p9 : 0 ≤ (x1_1 : Int) := of_decide_eq_true (by first | (with_reducible assumption) | assumption)
                        have q9 : x1_1 < (a0.size : Int) := of_decide_eq_true (by first | (with_reducible assumption) | assumption)
                        have hx9 := bt_at a0 x1_1
                        replace p9 := eq_true p9
                        replace q9 := eq_true q9
                        have p11 : 0 ≤ (x1_1 : Int) := of_decide_eq_true (by first | (with_reducible assumption) | assumption)
                        have q11 : x1_1 < (a0.size : Int) := of_decide_eq_true (by first | (with_reducible assumption) | assumption)
                        have hx11 := bt_at a0 x1_1
                        replace p11 := eq_true p11
                        replace q11 := eq_true q11
                        have p13 : 0 ≤ (x1_1 : Int) := of_decide_eq_true (by first | (with_reducible assumption) | assumption)
                        have q13 : x1_1 < (a0.size : Int) := of_decide_eq_true (by first | (with_reducible assumption) | assumption)
                        have hx13 := bt_at a0 x1_1
                        replace p13 := eq_true p13
                        replace q13 := eq_true q13
                        have p15 : 0 ≤ (x1_1 : Int) := of_decide_eq_true (by first | (with_reducible assumption) | assumption)
                        have q15 : x1_1 < (a0.size : Int) := of_decide_eq_true (by first | (with_reducible assumption) | assumption)
                        have hx15 := bt_at a0 x1_1
                        replace p15 := eq_true p15
                        replace q15 := eq_true q15
                        have p17 : 0 ≤ (x1_1 : Int) := of_decide_eq_true (by first | (with_reducible assumption) | assumption)
                        have q17 : x1_1 < (a0.size : Int) := of_decide_eq_true (by first | (with_reducible assumption) | assumption)
                        have hx17 := bt_at a0 x1_1
                        replace p17 := eq_true p17
                        replace q17 := eq_true q17
                        go_wp2
                        go_ret
                        exact ⟨by first | rfl | (simp; done) | (simp [*]; done), by repeat (first | exact Drawn0.refl _ | apply Drawn0.step)⟩
                  · rw [if_neg c14] at H
                    have c14b0 : decide (65 ≤ (bt a0 x1_1)) = false := decide_eq_false c14
                    clear c14
                    by_cases c20 : (bt a0 x1_1) = 45
                    · rw [if_pos c20] at H
                      have c20b0 : ((bt a0 x1_1) == 45) = true := beq_iff_eq.mpr c20
                      have c20b1 : ((bt a0 x1_1) != 45) = false := bne_eq_false_iff_eq.mpr c20
                      clear c20
                      have H' := Aside0.mk H
                      clear H
                      have p5 : 0 ≤ (x1_1 : Int) := of_decide_eq_true (by first | (with_reducible assumption) | assumption)
                      have q5 : x1_1 < (a0.size : Int) := of_decide_eq_true (by first | (with_reducible assumption) | assumption)
                      have hx5 := bt_at a0 x1_1
                      replace p5 := eq_true p5
                      replace q5 := eq_true q5
                      have p7 : 0 ≤ (x1_1 : Int) := of_decide_eq_true (by first | (with_reducible assumption) | assumption)
                      have q7 : x1_1 < (a0.size : Int) := of_decide_eq_true (by first | (with_reducible assumption) | assumption)
                      have hx7 := bt_at a0 x1_1
                      replace p7 := eq_true p7
                      replace q7 := eq_true q7
                      have p9 : 0 ≤ (x1_1 : Int) := of_decide_eq_true (by first | (with_reducible assumption) | assumption)
                      have q9 : x1_1 < (a0.size : Int) := of_decide_eq_true (by first | (with_reducible assumption) | assumption)
                      have hx9 := bt_at a0 x1_1
                      replace p9 := eq_true p9
                      replace q9 := eq_true q9
                      have p11 : 0 ≤ (x1_1 : Int) := of_decide_eq_true (by first | (with_reducible assumption) | assumption)
                      have q11 : x1_1 < (a0.size : Int) := of_decide_eq_true (by first | (with_reducible assumption) | assumption)
                      have hx11 := bt_at a0 x1_1
                      replace p11 := eq_true p11
                      replace q11 := eq_true q11
                      have p13 : 0 ≤ (x1_1 : Int) := of_decide_eq_true (by first | (with_reducible assumption) | assumption)
                      have q13 : x1_1 < (a0.size : Int) := of_decide_eq_true (by first | (with_reducible assumption) | assumption)
                      have hx13 := bt_at a0 x1_1
                      replace p13 := eq_true p13
                      replace q13 := eq_true q13
                      have p19 : 0 ≤ (x1_1 : Int) := of_decide_eq_true (by first | (with_reducible assumption) | assumption)
                      have q19 : x1_1 < (a0.size : Int) := of_decide_eq_true (by first | (with_reducible assumption) | assumption)
                      have hx19 := bt_at a0 x1_1
                      replace p19 := eq_true p19
                      replace q19 := eq_true q19
                      go_wp2
                      go_roundg k1
                      case measure => have := HK1.out; omega
                      case rel => exact ⟨(wrap64 (x1_1 + 1)), (by first | rfl | (simp; done) | (simp [*]; done)), H', ⟨by have := HK1.out; omega⟩, by repeat (first | exact Drawn0.refl _ | apply Drawn0.step)⟩
                    · rw [if_neg c20] at H
                      have c20b0 : ((bt a0 x1_1) == 45) = false := beq_eq_false_iff_ne.mpr c20
                      have c20b1 : ((bt a0 x1_1) != 45) = true := bne_iff_ne.mpr c20
                      obtain rfl := Option.some.inj H
                      have p5 : 0 ≤ (x1_1 : Int) := of_decide_eq_true (by first | (with_reducible assumption) | assumption)
                      have q5 : x1_1 < (a0.size : Int) := of_decide_eq_true (by first | (with_reducible assumption) | assumption)
                      have hx5 := bt_at a0 x1_1
                      replace p5 := eq_true p5
                      replace q5 := eq_true q5
                      have p7 : 0 ≤ (x1_1 : Int) := of_decide_eq_true (by first | (with_reducible assumption) | assumption)
                      have q7 : x1_1 < (a0.size : Int) := of_decide_eq_true (by first | (with_reducible assumption) | assumption)
                      have hx7 := bt_at a0 x1_1
                      replace p7 := eq_true p7
                      replace q7 := eq_true q7
                      have p9 : 0 ≤ (x1_1 : Int) := of_decide_eq_true (by first | (with_reducible assumption) | assumption)
                      have q9 : x1_1 < (a0.size : Int) := of_decide_eq_true (by first | (with_reducible assumption) | assumption)
                      have hx9 := bt_at a0 x1_1
                      replace p9 := eq_true p9
                      replace q9 := eq_true q9
                      have p11 : 0 ≤ (x1_1 : Int) := of_decide_eq_true (by first | (with_reducible assumption) | assumption)
                      have q11 : x1_1 < (a0.size : Int) := of_decide_eq_true (by first | (with_reducible assumption) | assumption)
                      have hx11 := bt_at a0 x1_1
                      replace p11 := eq_true p11
                      replace q11 := eq_true q11
                      have p13 : 0 ≤ (x1_1 : Int) := of_decide_eq_true (by first | (with_reducible assumption) | assumption)
                      have q13 : x1_1 < (a0.size : Int) := of_decide_eq_true (by first | (with_reducible assumption) | assumption)
                      have hx13 := bt_at a0 x1_1
                      replace p13 := eq_true p13
                      replace q13 := eq_true q13
                      have p19 : 0 ≤ (x1_1 : Int) := of_decide_eq_true (by first | (with_reducible assumption) | assumption)
                      have q19 : x1_1 < (a0.size : Int) := of_decide_eq_true (by first | (with_reducible assumption) | assumption)
                      have hx19 := bt_at a0 x1_1
                      replace p19 := eq_true p19
                      replace q19 := eq_true q19
                      go_wp2
                      go_ret
                      exact ⟨by first | rfl | (simp; done) | (simp [*]; done), by repeat (first | exact Drawn0.refl _ | apply Drawn0.step)⟩
              · rw [if_neg c10] at H
                have c10b0 : decide (97 ≤ (bt a0 x1_1)) = false := decide_eq_false c10
                clear c10
                by_cases c22 : (bt a0 x1_1) ≥ 65
                · rw [if_pos c22] at H
                  have c22b0 : decide (65 ≤ (bt a0 x1_1)) = true := decide_eq_true c22
                  clear c22
                  by_cases c24 : (bt a0 x1_1) ≤ 90
                  · rw [if_pos c24] at H
                    have c24b0 : decide ((bt a0 x1_1) ≤ 90) = true := decide_eq_true c24
                    clear c24
                    have H' := Aside0.mk H
                    clear H
                    have p5 : 0 ≤ (x1_1 : Int) := of_decide_eq_true (by first | (with_reducible assumption) | assumption)
                    have q5 : x1_1 < (a0.size : Int) := of_decide_eq_true (by first | (with_reducible assumption) | assumption)
                    have hx5 := bt_at a0 x1_1
                    replace p5 := eq_true p5
                    replace q5 := eq_true q5
                    have p7 : 0 ≤ (x1_1 : Int) := of_decide_eq_true (by first | (with_reducible assumption) | assumption)
                    have q7 : x1_1 < (a0.size : Int) := of_decide_eq_true (by first | (with_reducible assumption) | assumption)
                    have hx7 := bt_at a0 x1_1
                    replace p7 := eq_true p7
                    replace q7 := eq_true q7
                    have p9 : 0 ≤ (x1_1 : Int) := of_decide_eq_true (by first | (with_reducible assumption) | assumption)
                    have q9 : x1_1 < (a0.size : Int) := of_decide_eq_true (by first | (with_reducible assumption) | assumption)
                    have hx9 := bt_at a0 x1_1
                    replace p9 := eq_true p9
                    replace q9 := eq_true q9
                    have p21 : 0 ≤ (x1_1 : Int) := of_decide_eq_true (by first | (with_reducible assumption) | assumption)
                    have q21 : x1_1 < (a0.size : Int) := of_decide_eq_true (by first | (with_reducible assumption) | assumption)
                    have hx21 := bt_at a0 x1_1
                    replace p21 := eq_true p21
                    replace q21 := eq_true q21
                    have p23 : 0 ≤ (x1_1 : Int) := of_decide_eq_true (by first | (with_reducible assumption) | assumption)
                    have q23 : x1_1 < (a0.size : Int) := of_decide_eq_true (by first | (with_reducible assumption) | assumption)
                    have hx23 := bt_at a0 x1_1
                    replace p23 := eq_true p23
                    replace q23 := eq_true q23
                    go_wp2
                    go_roundg k1
                    case measure => have := HK1.out; omega
                    case rel => exact ⟨(wrap64 (x1_1 + 1)), (by first | rfl | (simp; done) | (simp [*]; done)), H', ⟨by have := HK1.out; omega⟩, by repeat (first | exact Drawn0.refl _ | apply Drawn0.step)⟩
                  · rw [if_neg c24] at H
                    have c24b0 : decide ((bt a0 x1_1) ≤ 90) = false := decide_eq_false c24
                    clear c24
                    by_cases c26 : (bt a0 x1_1) = 45
                    · rw [if_pos c26] at H
                      have c26b0 : ((bt a0 x1_1) == 45) = true := beq_iff_eq.mpr c26
                      have c26b1 : ((bt a0 x1_1) != 45) = false := bne_eq_false_iff_eq.mpr c26
                      clear c26
                      have H' := Aside0.mk H
                      clear H
                      have p5 : 0 ≤ (x1_1 : Int) := of_decide_eq_true (by first | (with_reducible assumption) | assumption)
                      have q5 : x1_1 < (a0.size : Int) := of_decide_eq_true (by first | (with_reducible assumption) | assumption)
                      have hx5 := bt_at a0 x1_1
                      replace p5 := eq_true p5
                      replace q5 := eq_true q5
                      have p7 : 0 ≤ (x1_1 : Int) := of_decide_eq_true (by first | (with_reducible assumption) | assumption)
                      have q7 : x1_1 < (a0.size : Int) := of_decide_eq_true (by first | (with_reducible assumption) | assumption)
                      have hx7 := bt_at a0 x1_1
                      replace p7 := eq_true p7
                      replace q7 := eq_true q7
                      have p9 : 0 ≤ (x1_1 : Int) := of_decide_eq_true (by first | (with_reducible assumption) | assumption)
                      have q9 : x1_1 < (a0.size : Int) := of_decide_eq_true (by first | (with_reducible assumption) | assumption)
                      have hx9 := bt_at a0 x1_1
                      replace p9 := eq_true p9
                      replace q9 := eq_true q9
                      have p21 : 0 ≤ (x1_1 : Int) := of_decide_eq_true (by first | (with_reducible assumption) | assumption)
                      have q21 : x1_1 < (a0.size : Int) := of_decide_eq_true (by first | (with_reducible assumption) | assumption)
                      have hx21 := bt_at a0 x1_1
                      replace p21 := eq_true p21
                      replace q21 := eq_true q21
                      have p23 : 0 ≤ (x1_1 : Int) := of_decide_eq_true (by first | (with_reducible assumption) | assumption)
                      have q23 : x1_1 < (a0.size : Int) := of_decide_eq_true (by first | (with_reducible assumption) | assumption)
                      have hx23 := bt_at a0 x1_1
                      replace p23 := eq_true p23
                      replace q23 := eq_true q23
                      have p25 : 0 ≤ (x1_1 : Int) := of_decide_eq_true (by first | (with_reducible assumption) | assumption)
                      have q25 : x1_1 < (a0.size : Int) := of_decide_eq_true (by first | (with_reducible assumption) | assumption)
                      have hx25 := bt_at a0 x1_1
                      replace p25 := eq_true p25
                      replace q25 := eq_true q25
                      go_wp2
                      go_roundg k1
                      case measure => have := HK1.out; omega
                      case rel => exact ⟨(wrap64 (x1_1 + 1)), (by first | rfl | (simp; done) | (simp [*]; done)), H', ⟨by have := HK1.out; omega⟩, by repeat (first | exact Drawn0.refl _ | apply Drawn0.step)⟩
                    · rw [if_neg c26] at H
                      have c26b0 : ((bt a0 x1_1) == 45) = false := beq_eq_false_iff_ne.mpr c26
                      have c26b1 : ((bt a0 x1_1) != 45) = true := bne_iff_ne.mpr c26
                      obtain rfl := Option.some.inj H
                      have p5 : 0 ≤ (x1_1 : Int) := of_decide_eq_true (by first | (with_reducible assumption) | assumption)
                      have q5 : x1_1 < (a0.size : Int) := of_decide_eq_true (by first | (with_reducible assumption) | assumption)
                      have hx5 := bt_at a0 x1_1
                      replace p5 := eq_true p5
                      replace q5 := eq_true q5
                      have p7 : 0 ≤ (x1_1 : Int) := of_decide_eq_true (by first | (with_reducible assumption) | assumption)
                      have q7 : x1_1 < (a0.size : Int) := of_decide_eq_true (by first | (with_reducible assumption) | assumption)
                      have hx7 := bt_at a0 x1_1
                      replace p7 := eq_true p7
                      replace q7 := eq_true q7
                      have p9 : 0 ≤ (x1_1 : Int) := of_decide_eq_true (by first | (with_reducible assumption) | assumption)
                      have q9 : x1_1 < (a0.size : Int) := of_decide_eq_true (by first | (with_reducible assumption) | assumption)
                      have hx9 := bt_at a0 x1_1
                      replace p9 := eq_true p9
                      replace q9 := eq_true q9
                      have p21 : 0 ≤ (x1_1 : Int) := of_decide_eq_true (by first | (with_reducible assumption) | assumption)
                      have q21 : x1_1 < (a0.size : Int) := of_decide_eq_true (by first | (with_reducible assumption) | assumption)
                      have hx21 := bt_at a0 x1_1
                      replace p21 := eq_true p21
                      replace q21 := eq_true q21
                      have p23 : 0 ≤ (x1_1 : Int) := of_decide_eq_true (by first | (with_reducible assumption) | assumption)
                      have q23 : x1_1 < (a0.size : Int) := of_decide_eq_true (by first | (with_reducible assumption) | assumption)
                      have hx23 := bt_at a0 x1_1
                      replace p23 := eq_true p23
                      replace q23 := eq_true q23
                      have p25 : 0 ≤ (x1_1 : Int) := of_decide_eq_true (by first | (with_reducible assumption) | assumption)
                      have q25 : x1_1 < (a0.size : Int) := of_decide_eq_true (by first | (with_reducible assumption) | assumption)
                      have hx25 := bt_at a0 x1_1
                      replace p25 := eq_true p25
                      replace q25 := eq_true q25
                      go_wp2
                      go_ret
                      exact ⟨by first | rfl | (simp; done) | (simp [*]; done), by repeat (first | exact Drawn0.refl _ | apply Drawn0.step)⟩
                · rw [if_neg c22] at H
                  have c22b0 : decide (65 ≤ (bt a0 x1_1)) = false := decide_eq_false c22
                  clear c22
                  by_cases c28 : (bt a0 x1_1) = 45
                  · rw [if_pos c28] at H
                    have c28b0 : ((bt a0 x1_1) == 45) = true := beq_iff_eq.mpr c28
                    have c28b1 : ((bt a0 x1_1) != 45) = false := bne_eq_false_iff_eq.mpr c28
                    clear c28
                    have H' := Aside0.mk H
                    clear H
                    have p5 : 0 ≤ (x1_1 : Int) := of_decide_eq_true (by first | (with_reducible assumption) | assumption)
                    have q5 : x1_1 < (a0.size : Int) := of_decide_eq_true (by first | (with_reducible assumption) | assumption)
                    have hx5 := bt_at a0 x1_1
                    replace p5 := eq_true p5
                    replace q5 := eq_true q5
                    have p7 : 0 ≤ (x1_1 : Int) := of_decide_eq_true (by first | (with_reducible assumption) | assumption)
                    have q7 : x1_1 < (a0.size : Int) := of_decide_eq_true (by first | (with_reducible assumption) | assumption)
                    have hx7 := bt_at a0 x1_1
                    replace p7 := eq_true p7
                    replace q7 := eq_true q7
                    have p9 : 0 ≤ (x1_1 : Int) := of_decide_eq_true (by first | (with_reducible assumption) | assumption)
                    have q9 : x1_1 < (a0.size : Int) := of_decide_eq_true (by first | (with_reducible assumption) | assumption)
                    have hx9 := bt_at a0 x1_1
                    replace p9 := eq_true p9
                    replace q9 := eq_true q9
                    have p21 : 0 ≤ (x1_1 : Int) := of_decide_eq_true (by first | (with_reducible assumption) | assumption)
                    have q21 : x1_1 < (a0.size : Int) := of_decide_eq_true (by first | (with_reducible assumption) | assumption)
                    have hx21 := bt_at a0 x1_1
                    replace p21 := eq_true p21
                    replace q21 := eq_true q21
                    have p27 : 0 ≤ (x1_1 : Int) := of_decide_eq_true (by first | (with_reducible assumption) | assumption)
                    have q27 : x1_1 < (a0.size : Int) := of_decide_eq_true (by first | (with_reducible assumption) | assumption)
                    have hx27 := bt_at a0 x1_1
                    replace p27 := eq_true p27
                    replace q27 := eq_true q27
                    go_wp2
                    go_roundg k1
                    case measure => have := HK1.out; omega
                    case rel => exact ⟨(wrap64 (x1_1 + 1)), (by first | rfl | (simp; done) | (simp [*]; done)), H', ⟨by have := HK1.out; omega⟩, by repeat (first | exact Drawn0.refl _ | apply Drawn0.step)⟩
                  · rw [if_neg c28] at H
                    have c28b0 : ((bt a0 x1_1) == 45) = false := beq_eq_false_iff_ne.mpr c28
                    have c28b1 : ((bt a0 x1_1) != 45) = true := bne_iff_ne.mpr c28
                    obtain rfl := Option.some.inj H
                    have p5 : 0 ≤ (x1_1 : Int) := of_decide_eq_true (by first | (with_reducible assumption) | assumption)
                    have q5 : x1_1 < (a0.size : Int) := of_decide_eq_true (by first | (with_reducible assumption) | assumption)
                    have hx5 := bt_at a0 x1_1
                    replace p5 := eq_true p5
                    replace q5 := eq_true q5
                    have p7 : 0 ≤ (x1_1 : Int) := of_decide_eq_true (by first | (with_reducible assumption) | assumption)
                    have q7 : x1_1 < (a0.size : Int) := of_decide_eq_true (by first | (with_reducible assumption) | assumption)
                    have hx7 := bt_at a0 x1_1
                    replace p7 := eq_true p7
                    replace q7 := eq_true q7
                    have p9 : 0 ≤ (x1_1 : Int) := of_decide_eq_true (by first | (with_reducible assumption) | assumption)
                    have q9 : x1_1 < (a0.size : Int) := of_decide_eq_true (by first | (with_reducible assumption) | assumption)
                    have hx9 := bt_at a0 x1_1
                    replace p9 := eq_true p9
                    replace q9 := eq_true q9
                    have p21 : 0 ≤ (x1_1 : Int) := of_decide_eq_true (by first | (with_reducible assumption) | assumption)
                    have q21 : x1_1 < (a0.size : Int) := of_decide_eq_true (by first | (with_reducible assumption) | assumption)
                    have hx21 := bt_at a0 x1_1
                    replace p21 := eq_true p21
                    replace q21 := eq_true q21
                    have p27 : 0 ≤ (x1_1 : Int) := of_decide_eq_true (by first | (with_reducible assumption) | assumption)
                    have q27 : x1_1 < (a0.size : Int) := of_decide_eq_true (by first | (with_reducible assumption) | assumption)
                    have hx27 := bt_at a0 x1_1
                    replace p27 := eq_true p27
                    replace q27 := eq_true q27
                    go_wp2
                    go_ret
                    exact ⟨by first | rfl | (simp; done) | (simp [*]; done), by repeat (first | exact Drawn0.refl _ | apply Drawn0.step)⟩
          · rw [if_neg c6] at H
            have c6b0 : decide (48 ≤ (bt a0 x1_1)) = false := decide_eq_false c6
            clear c6
            by_cases c30 : (bt a0 x1_1) ≥ 97
            · rw [if_pos c30] at H
              have c30b0 : decide (97 ≤ (bt a0 x1_1)) = true := decide_eq_true c30
              clear c30
              by_cases c32 : (bt a0 x1_1) ≤ 122
              · rw [if_pos c32] at H
                have c32b0 : decide ((bt a0 x1_1) ≤ 122) = true := decide_eq_true c32
                clear c32
                have H' := Aside0.mk H
                clear H
                have p5 : 0 ≤ (x1_1 : Int) := of_decide_eq_true (by first | (with_reducible assumption) | assumption)
                have q5 : x1_1 < (a0.size : Int) := of_decide_eq_true (by first | (with_reducible assumption) | assumption)
                have hx5 := bt_at a0 x1_1
                replace p5 := eq_true p5
                replace q5 := eq_true q5
                have p29 : 0 ≤ (x1_1 : Int) := of_decide_eq_true (by first | (with_reducible assumption) | assumption)
                have q29 : x1_1 < (a0.size : Int) := of_decide_eq_true (by first | (with_reducible assumption) | assumption)
                have hx29 := bt_at a0 x1_1
                replace p29 := eq_true p29
                replace q29 := eq_true q29
                have p31 : 0 ≤ (x1_1 : Int) := of_decide_eq_true (by first | (with_reducible assumption) | assumption)
                have q31 : x1_1 < (a0.size : Int) := of_decide_eq_true (by first | (with_reducible assumption) | assumption)
                have hx31 := bt_at a0 x1_1
                replace p31 := eq_true p31
                replace q31 := eq_true q31
                go_wp2
                go_roundg k1
                case measure => have := HK1.out; omega
                case rel => exact ⟨(wrap64 (x1_1 + 1)), (by first | rfl | (simp; done) | (simp [*]; done)), H', ⟨by have := HK1.out; omega⟩, by repeat (first | exact Drawn0.refl _ | apply Drawn0.step)⟩
              · rw [if_neg c32] at H
                have c32b0 : decide ((bt a0 x1_1) ≤ 122) = false := decide_eq_false c32
                clear c32
                by_cases c34 : (bt a0 x1_1) ≥ 65
                · rw [if_pos c34] at H
                  have c34b0 : decide (65 ≤ (bt a0 x1_1)) = true := decide_eq_true c34
                  clear c34
                  by_cases c36 : (bt a0 x1_1) ≤ 90
                  · rw [if_pos c36] at H
                    have c36b0 : decide ((bt a0 x1_1) ≤ 90) = true := decide_eq_true c36
                    clear c36
                    have H' := Aside0.mk H
                    clear H
                    have p5 : 0 ≤ (x1_1 : Int) := of_decide_eq_true (by first | (with_reducible assumption) | assumption)
                    have q5 : x1_1 < (a0.size : Int) := of_decide_eq_true (by first | (with_reducible assumption) | assumption)
                    have hx5 := bt_at a0 x1_1
                    replace p5 := eq_true p5
                    replace q5 := eq_true q5
                    have p29 : 0 ≤ (x1_1 : Int) := of_decide_eq_true (by first | (with_reducible assumption) | assumption)
                    have q29 : x1_1 < (a0.size : Int) := of_decide_eq_true (by first | (with_reducible assumption) | assumption)
                    have hx29 := bt_at a0 x1_1
                    replace p29 := eq_true p29
                    replace q29 := eq_true q29
                    have p31 : 0 ≤ (x1_1 : Int) := of_decide_eq_true (by first | (with_reducible assumption) | assumption)
                    have q31 : x1_1 < (a0.size : Int) := of_decide_eq_true (by first | (with_reducible assumption) | assumption)
                    have hx31 := bt_at a0 x1_1
                    replace p31 := eq_true p31
                    replace q31 := eq_true q31
                    have p33 : 0 ≤ (x1_1 : Int) := of_decide_eq_true (by first | (with_reducible assumption) | assumption)
                    have q33 : x1_1 < (a0.size : Int) := of_decide_eq_true (by first | (with_reducible assumption) | assumption)
                    have hx33 := bt_at a0 x1_1
                    replace p33 := eq_true p33
                    replace q33 := eq_true q33
                    have p35 : 0 ≤ (x1_1 : Int) := of_decide_eq_true (by first | (with_reducible assumption) | assumption)
                    have q35 : x1_1 < (a0.size : Int) := of_decide_eq_true (by first | (with_reducible assumption) | assumption)
                    have hx35 := bt_at a0 x1_1
                    replace p35 := eq_true p35
                    replace q35 := eq_true q35
                    go_wp2
                    go_roundg k1
                    case measure => have := HK1.out; omega
                    case rel => exact ⟨(wrap64 (x1_1 + 1)), (by first | rfl | (simp; done) | (simp [*]; done)), H', ⟨by have := HK1.out; omega⟩, by repeat (first | exact Drawn0.refl _ | apply Drawn0.step)⟩
                  · rw [if_neg c36] at H
                    have c36b0 : decide ((bt a0 x1_1) ≤ 90) = false := decide_eq_false c36
                    clear c36
                    by_cases c38 : (bt a0 x1_1) = 45
                    · rw [if_pos c38] at H
                      have c38b0 : ((bt a0 x1_1) == 45) = true := beq_iff_eq.mpr c38
                      have c38b1 : ((bt a0 x1_1) != 45) = false := bne_eq_false_iff_eq.mpr c38
                      clear c38
                      have H' := Aside0.mk H
                      clear H
                      have p5 : 0 ≤ (x1_1 : Int) := of_decide_eq_true (by first | (with_reducible assumption) | assumption)
                      have q5 : x1_1 < (a0.size : Int) := of_decide_eq_true (by first | (with_reducible assumption) | assumption)
                      have hx5 := bt_at a0 x1_1
                      replace p5 := eq_true p5
                      replace q5 := eq_true q5
                      have p29 : 0 ≤ (x1_1 : Int) := of_decide_eq_true (by first | (with_reducible assumption) | assumption)
                      have q29 : x1_1 < (a0.size : Int) := of_decide_eq_true (by first | (with_reducible assumption) | assumption)
                      have hx29 := bt_at a0 x1_1
                      replace p29 := eq_true p29
                      replace q29 := eq_true q29
                      have p31 : 0 ≤ (x1_1 : Int) := of_decide_eq_true (by first | (with_reducible assumption) | assumption)
                      have q31 : x1_1 < (a0.size : Int) := of_decide_eq_true (by first | (with_reducible assumption) | assumption)
                      have hx31 := bt_at a0 x1_1
                      replace p31 := eq_true p31
                      replace q31 := eq_true q31
                      have p33 : 0 ≤ (x1_1 : Int) := of_decide_eq_true (by first | (with_reducible assumption) | assumption)
                      have q33 : x1_1 < (a0.size : Int) := of_decide_eq_true (by first | (with_reducible assumption) | assumption)
                      have hx33 := bt_at a0 x1_1
                      replace p33 := eq_true p33
                      replace q33 := eq_true q33
                      have p35 : 0 ≤ (x1_1 : Int) := of_decide_eq_true (by first | (with_reducible assumption) | assumption)
                      have q35 : x1_1 < (a0.size : Int) := of_decide_eq_true (by first | (with_reducible assumption) | assumption)
                      have hx35 := bt_at a0 x1_1
                      replace p35 := eq_true p35
                      replace q35 := eq_true q35
                      have p37 : 0 ≤ (x1_1 : Int) := of_decide_eq_true (by first | (with_reducible assumption) | assumption)
                      have q37 : x1_1 < (a0.size : Int) := of_decide_eq_true (by first | (with_reducible assumption) | assumption)
                      have hx37 := bt_at a0 x1_1
                      replace p37 := eq_true p37
                      replace q37 := eq_true q37
                      go_wp2
                      go_roundg k1
                      case measure => have := HK1.out; omega
                      case rel => exact ⟨(wrap64 (x1_1 + 1)), (by first | rfl | (simp; done) | (simp [*]; done)), H', ⟨by have := HK1.out; omega⟩, by repeat (first | exact Drawn0.refl _ | apply Drawn0.step)⟩
                    · rw [if_neg c38] at H
                      have c38b0 : ((bt a0 x1_1) == 45) = false := beq_eq_false_iff_ne.mpr c38
                      have c38b1 : ((bt a0 x1_1) != 45) = true := bne_iff_ne.mpr c38
                      obtain rfl := Option.some.inj H
                      have p5 : 0 ≤ (x1_1 : Int) := of_decide_eq_true (by first | (with_reducible assumption) | assumption)
                      have q5 : x1_1 < (a0.size : Int) := of_decide_eq_true (by first | (with_reducible assumption) | assumption)
                      have hx5 := bt_at a0 x1_1
                      replace p5 := eq_true p5
                      replace q5 := eq_true q5
                      have p29 : 0 ≤ (x1_1 : Int) := of_decide_eq_true (by first | (with_reducible assumption) | assumption)
                      have q29 : x1_1 < (a0.size : Int) := of_decide_eq_true (by first | (with_reducible assumption) | assumption)
                      have hx29 := bt_at a0 x1_1
                      replace p29 := eq_true p29
                      replace q29 := eq_true q29
                      have p31 : 0 ≤ (x1_1 : Int) := of_decide_eq_true (by first | (with_reducible assumption) | assumption)
                      have q31 : x1_1 < (a0.size : Int) := of_decide_eq_true (by first | (with_reducible assumption) | assumption)
                      have hx31 := bt_at a0 x1_1
                      replace p31 := eq_true p31
                      replace q31 := eq_true q31
                      have p33 : 0 ≤ (x1_1 : Int) := of_decide_eq_true (by first | (with_reducible assumption) | assumption)
                      have q33 : x1_1 < (a0.size : Int) := of_decide_eq_true (by first | (with_reducible assumption) | assumption)
                      have hx33 := bt_at a0 x1_1
                      replace p33 := eq_true p33
                      replace q33 := eq_true q33
                      have p35 : 0 ≤ (x1_1 : Int) := of_decide_eq_true (by first | (with_reducible assumption) | assumption)
                      have q35 : x1_1 < (a0.size : Int) := of_decide_eq_true (by first | (with_reducible assumption) | assumption)
                      have hx35 := bt_at a0 x1_1
                      replace p35 := eq_true p35
                      replace q35 := eq_true q35
                      have p37 : 0 ≤ (x1_1 : Int) := of_decide_eq_true (by first | (with_reducible assumption) | assumption)
                      have q37 : x1_1 < (a0.size : Int) := of_decide_eq_true (by first | (with_reducible assumption) | assumption)
                      have hx37 := bt_at a0 x1_1
                      replace p37 := eq_true p37
                      replace q37 := eq_true q37
                      go_wp2
                      go_ret
                      exact ⟨by first | rfl | (simp; done) | (simp [*]; done), by repeat (first | exact Drawn0.refl _ | apply Drawn0.step)⟩
                · rw [if_neg c34] at H
                  have c34b0 : decide (65 ≤ (bt a0 x1_1)) = false := decide_eq_false c34
                  clear c34
                  by_cases c40 : (bt a0 x1_1) = 45
                  · rw [if_pos c40] at H
                    have c40b0 : ((bt a0 x1_1) == 45) = true := beq_iff_eq.mpr c40
                    have c40b1 : ((bt a0 x1_1) != 45) = false := bne_eq_false_iff_eq.mpr c40
                    clear c40
                    have H' := Aside0.mk H
                    clear H
                    have p5 : 0 ≤ (x1_1 : Int) := of_decide_eq_true (by first | (with_reducible assumption) | assumption)
                    have q5 : x1_1 < (a0.size : Int) := of_decide_eq_true (by first | (with_reducible assumption) | assumption)
                    have hx5 := bt_at a0 x1_1
                    replace p5 := eq_true p5
                    replace q5 := eq_true q5
                    have p29 : 0 ≤ (x1_1 : Int) := of_decide_eq_true (by first | (with_reducible assumption) | assumption)
                    have q29 : x1_1 < (a0.size : Int) := of_decide_eq_true (by first | (with_reducible assumption) | assumption)
                    have hx29 := bt_at a0 x1_1
                    replace p29 := eq_true p29
                    replace q29 := eq_true q29
                    have p31 : 0 ≤ (x1_1 : Int) := of_decide_eq_true (by first | (with_reducible assumption) | assumption)
                    have q31 : x1_1 < (a0.size : Int) := of_decide_eq_true (by first | (with_reducible assumption) | assumption)
                    have hx31 := bt_at a0 x1_1
                    replace p31 := eq_true p31
                    replace q31 := eq_true q31
                    have p33 : 0 ≤ (x1_1 : Int) := of_decide_eq_true (by first | (with_reducible assumption) | assumption)
                    have q33 : x1_1 < (a0.size : Int) := of_decide_eq_true (by first | (with_reducible assumption) | assumption)
                    have hx33 := bt_at a0 x1_1
                    replace p33 := eq_true p33
                    replace q33 := eq_true q33
                    have p39 : 0 ≤ (x1_1 : Int) := of_decide_eq_true (by first | (with_reducible assumption) | assumption)
                    have q39 : x1_1 < (a0.size : Int) := of_decide_eq_true (by first | (with_reducible assumption) | assumption)
                    have hx39 := bt_at a0 x1_1
                    replace p39 := eq_true p39
                    replace q39 := eq_true q39
                    go_wp2
                    go_roundg k1
                    case measure => have := HK1.out; omega
                    case rel => exact ⟨(wrap64 (x1_1 + 1)), (by first | rfl | (simp; done) | (simp [*]; done)), H', ⟨by have := HK1.out; omega⟩, by repeat (first | exact Drawn0.refl _ | apply Drawn0.step)⟩
                  · rw [if_neg c40] at H
                    have c40b0 : ((bt a0 x1_1) == 45) = false := beq_eq_false_iff_ne.mpr c40
                    have c40b1 : ((bt a0 x1_1) != 45) = true := bne_iff_ne.mpr c40
                    obtain rfl := Option.some.inj H
                    have p5 : 0 ≤ (x1_1 : Int) := of_decide_eq_true (by first | (with_reducible assumption) | assumption)
                    have q5 : x1_1 < (a0.size : Int) := of_decide_eq_true (by first | (with_reducible assumption) | assumption)
                    have hx5 := bt_at a0 x1_1
                    replace p5 := eq_true p5
                    replace q5 := eq_true q5
                    have p29 : 0 ≤ (x1_1 : Int) := of_decide_eq_true (by first | (with_reducible assumption) | assumption)
                    have q29 : x1_1 < (a0.size : Int) := of_decide_eq_true (by first | (with_reducible assumption) | assumption)
                    have hx29 := bt_at a0 x1_1
                    replace p29 := eq_true p29
                    replace q29 := eq_true q29
                    have p31 : 0 ≤ (x1_1 : Int) := of_decide_eq_true (by first | (with_reducible assumption) | assumption)
                    have q31 : x1_1 < (a0.size : Int) := of_decide_eq_true (by first | (with_reducible assumption) | assumption)
                    have hx31 := bt_at a0 x1_1
                    replace p31 := eq_true p31
                    replace q31 := eq_true q31
                    have p33 : 0 ≤ (x1_1 : Int) := of_decide_eq_true (by first | (with_reducible assumption) | assumption)
                    have q33 : x1_1 < (a0.size : Int) := of_decide_eq_true (by first | (with_reducible assumption) | assumption)
                    have hx33 := bt_at a0 x1_1
                    replace p33 := eq_true p33
                    replace q33 := eq_true q33
                    have p39 : 0 ≤ (x1_1 : Int) := of_decide_eq_true (by first | (with_reducible assumption) | assumption)
                    have q39 : x1_1 < (a0.size : Int) := of_decide_eq_true (by first | (with_reducible assumption) | assumption)
                    have hx39 := bt_at a0 x1_1
                    replace p39 := eq_true p39
                    replace q39 := eq_true q39
                    go_wp2
                    go_ret
                    exact ⟨by first | rfl | (simp; done) | (simp [*]; done), by repeat (first | exact Drawn0.refl _ | apply Drawn0.step)⟩
            · rw [if_neg c30] at H
              have c30b0 : decide (97 ≤ (bt a0 x1_1)) = false := decide_eq_false c30
              clear c30
              by_cases c42 : (bt a0 x1_1) ≥ 65
              · rw [if_pos c42] at H
                have c42b0 : decide (65 ≤ (bt a0 x1_1)) = true := decide_eq_true c42
                clear c42
                by_cases c44 : (bt a0 x1_1) ≤ 90
                · rw [if_pos c44] at H
                  have c44b0 : decide ((bt a0 x1_1) ≤ 90) = true := decide_eq_true c44
                  clear c44
                  have H' := Aside0.mk H
                  clear H
                  have p5 : 0 ≤ (x1_1 : Int) := of_decide_eq_true (by first | (with_reducible assumption) | assumption)
                  have q5 : x1_1 < (a0.size : Int) := of_decide_eq_true (by first | (with_reducible assumption) | assumption)
                  have hx5 := bt_at a0 x1_1
                  replace p5 := eq_true p5
                  replace q5 := eq_true q5
                  have p29 : 0 ≤ (x1_1 : Int) := of_decide_eq_true (by first | (with_reducible assumption) | assumption)
                  have q29 : x1_1 < (a0.size : Int) := of_decide_eq_true (by first | (with_reducible assumption) | assumption)
                  have hx29 := bt_at a0 x1_1
                  replace p29 := eq_true p29
                  replace q29 := eq_true q29
                  have p41 : 0 ≤ (x1_1 : Int) := of_decide_eq_true (by first | (with_reducible assumption) | assumption)
                  have q41 : x1_1 < (a0.size : Int) := of_decide_eq_true (by first | (with_reducible assumption) | assumption)
                  have hx41 := bt_at a0 x1_1
                  replace p41 := eq_true p41
                  replace q41 := eq_true q41
                  have p43 : 0 ≤ (x1_1 : Int) := of_decide_eq_true (by first | (with_reducible assumption) | assumption)
                  have q43 : x1_1 < (a0.size : Int) := of_decide_eq_true (by first | (with_reducible assumption) | assumption)
                  have hx43 := bt_at a0 x1_1
                  replace p43 := eq_true p43
                  replace q43 := eq_true q43
                  go_wp2
                  go_roundg k1
                  case measure => have := HK1.out; omega
                  case rel => exact ⟨(wrap64 (x1_1 + 1)), (by first | rfl | (simp; done) | (simp [*]; done)), H', ⟨by have := HK1.out; omega⟩, by repeat (first | exact Drawn0.refl _ | apply Drawn0.step)⟩
                · rw [if_neg c44] at H
                  have c44b0 : decide ((bt a0 x1_1) ≤ 90) = false := decide_eq_false c44
                  clear c44
                  by_cases c46 : (bt a0 x1_1) = 45
                  · rw [if_pos c46] at H
                    have c46b0 : ((bt a0 x1_1) == 45) = true := beq_iff_eq.mpr c46
                    have c46b1 : ((bt a0 x1_1) != 45) = false := bne_eq_false_iff_eq.mpr c46
                    clear c46
                    have H' := Aside0.mk H
                    clear H
                    have p5 : 0 ≤ (x1_1 : Int) := of_decide_eq_true (by first | (with_reducible assumption) | assumption)
                    have q5 : x1_1 < (a0.size : Int) := of_decide_eq_true (by first | (with_reducible assumption) | assumption)
                    have hx5 := bt_at a0 x1_1
                    replace p5 := eq_true p5
                    replace q5 := eq_true q5
                    have p29 : 0 ≤ (x1_1 : Int) := of_decide_eq_true (by first | (with_reducible assumption) | assumption)
                    have q29 : x1_1 < (a0.size : Int) := of_decide_eq_true (by first | (with_reducible assumption) | assumption)
                    have hx29 := bt_at a0 x1_1
                    replace p29 := eq_true p29
                    replace q29 := eq_true q29
                    have p41 : 0 ≤ (x1_1 : Int) := of_decide_eq_true (by first | (with_reducible assumption) | assumption)
                    have q41 : x1_1 < (a0.size : Int) := of_decide_eq_true (by first | (with_reducible assumption) | assumption)
                    have hx41 := bt_at a0 x1_1
                    replace p41 := eq_true p41
                    replace q41 := eq_true q41
                    have p43 : 0 ≤ (x1_1 : Int) := of_decide_eq_true (by first | (with_reducible assumption) | assumption)
                    have q43 : x1_1 < (a0.size : Int) := of_decide_eq_true (by first | (with_reducible assumption) | assumption)
                    have hx43 := bt_at a0 x1_1
                    replace p43 := eq_true p43
                    replace q43 := eq_true q43
                    have p45 : 0 ≤ (x1_1 : Int) := of_decide_eq_true (by first | (with_reducible assumption) | assumption)
                    have q45 : x1_1 < (a0.size : Int) := of_decide_eq_true (by first | (with_reducible assumption) | assumption)
                    have hx45 := bt_at a0 x1_1
                    replace p45 := eq_true p45
                    replace q45 := eq_true q45
                    go_wp2
                    go_roundg k1
                    case measure => have := HK1.out; omega
                    case rel => exact ⟨(wrap64 (x1_1 + 1)), (by first | rfl | (simp; done) | (simp [*]; done)), H', ⟨by have := HK1.out; omega⟩, by repeat (first | exact Drawn0.refl _ | apply Drawn0.step)⟩
                  · rw [if_neg c46] at H
                    have c46b0 : ((bt a0 x1_1) == 45) = false := beq_eq_false_iff_ne.mpr c46
                    have c46b1 : ((bt a0 x1_1) != 45) = true := bne_iff_ne.mpr c46
                    obtain rfl := Option.some.inj H
                    have p5 : 0 ≤ (x1_1 : Int) := of_decide_eq_true (by first | (with_reducible assumption) | assumption)
                    have q5 : x1_1 < (a0.size : Int) := of_decide_eq_true (by first | (with_reducible assumption) | assumption)
                    have hx5 := bt_at a0 x1_1
                    replace p5 := eq_true p5
                    replace q5 := eq_true q5
                    have p29 : 0 ≤ (x1_1 : Int) := of_decide_eq_true (by first | (with_reducible assumption) | assumption)
                    have q29 : x1_1 < (a0.size : Int) := of_decide_eq_true (by first | (with_reducible assumption) | assumption)
                    have hx29 := bt_at a0 x1_1
                    replace p29 := eq_true p29
                    replace q29 := eq_true q29
                    have p41 : 0 ≤ (x1_1 : Int) := of_decide_eq_true (by first | (with_reducible assumption) | assumption)
                    have q41 : x1_1 < (a0.size : Int) := of_decide_eq_true (by first | (with_reducible assumption) | assumption)
                    have hx41 := bt_at a0 x1_1
                    replace p41 := eq_true p41
                    replace q41 := eq_true q41
                    have p43 : 0 ≤ (x1_1 : Int) := of_decide_eq_true (by first | (with_reducible assumption) | assumption)
                    have q43 : x1_1 < (a0.size : Int) := of_decide_eq_true (by first | (with_reducible assumption) | assumption)
                    have hx43 := bt_at a0 x1_1
                    replace p43 := eq_true p43
                    replace q43 := eq_true q43
                    have p45 : 0 ≤ (x1_1 : Int) := of_decide_eq_true (by first | (with_reducible assumption) | assumption)
                    have q45 : x1_1 < (a0.size : Int) := of_decide_eq_true (by first | (with_reducible assumption) | assumption)
                    have hx45 := bt_at a0 x1_1
                    replace p45 := eq_true p45
                    replace q45 := eq_true q45
                    go_wp2
                    go_ret
                    exact ⟨by first | rfl | (simp; done) | (simp [*]; done), by repeat (first | exact Drawn0.refl _ | apply Drawn0.step)⟩
              · rw [if_neg c42] at H
                have c42b0 : decide (65 ≤ (bt a0 x1_1)) = false := decide_eq_false c42
                clear c42
                by_cases c48 : (bt a0 x1_1) = 45
                · rw [if_pos c48] at H
                  have c48b0 : ((bt a0 x1_1) == 45) = true := beq_iff_eq.mpr c48
                  have c48b1 : ((bt a0 x1_1) != 45) = false := bne_eq_false_iff_eq.mpr c48
                  clear c48
                  have H' := Aside0.mk H
                  clear H
                  have p5 : 0 ≤ (x1_1 : Int) := of_decide_eq_true (by first | (with_reducible assumption) | assumption)
                  have q5 : x1_1 < (a0.size : Int) := of_decide_eq_true (by first | (with_reducible assumption) | assumption)
                  have hx5 := bt_at a0 x1_1
                  replace p5 := eq_true p5
                  replace q5 := eq_true q5
                  have p29 : 0 ≤ (x1_1 : Int) := of_decide_eq_true (by first | (with_reducible assumption) | assumption)
                  have q29 : x1_1 < (a0.size : Int) := of_decide_eq_true (by first | (with_reducible assumption) | assumption)
                  have hx29 := bt_at a0 x1_1
                  replace p29 := eq_true p29
                  replace q29 := eq_true q29
                  have p41 : 0 ≤ (x1_1 : Int) := of_decide_eq_true (by first | (with_reducible assumption) | assumption)
                  have q41 : x1_1 < (a0.size : Int) := of_decide_eq_true (by first | (with_reducible assumption) | assumption)
                  have hx41 := bt_at a0 x1_1
                  replace p41 := eq_true p41
                  replace q41 := eq_true q41
                  have p47 : 0 ≤ (x1_1 : Int) := of_decide_eq_true (by first | (with_reducible assumption) | assumption)
                  have q47 : x1_1 < (a0.size : Int) := of_decide_eq_true (by first | (with_reducible assumption) | assumption)
                  have hx47 := bt_at a0 x1_1
                  replace p47 := eq_true p47
                  replace q47 := eq_true q47
                  go_wp2
                  go_roundg k1
                  case measure => have := HK1.out; omega
                  case rel => exact ⟨(wrap64 (x1_1 + 1)), (by first | rfl | (simp; done) | (simp [*]; done)), H', ⟨by have := HK1.out; omega⟩, by repeat (first | exact Drawn0.refl _ | apply Drawn0.step)⟩
                · rw [if_neg c48] at H
                  have c48b0 : ((bt a0 x1_1) == 45) = false := beq_eq_false_iff_ne.mpr c48
                  have c48b1 : ((bt a0 x1_1) != 45) = true := bne_iff_ne.mpr c48
                  obtain rfl := Option.some.inj H
                  have p5 : 0 ≤ (x1_1 : Int) := of_decide_eq_true (by first | (with_reducible assumption) | assumption)
                  have q5 : x1_1 < (a0.size : Int) := of_decide_eq_true (by first | (with_reducible assumption) | assumption)
                  have hx5 := bt_at a0 x1_1
                  replace p5 := eq_true p5
                  replace q5 := eq_true q5
                  have p29 : 0 ≤ (x1_1 : Int) := of_decide_eq_true (by first | (with_reducible assumption) | assumption)
                  have q29 : x1_1 < (a0.size : Int) := of_decide_eq_true (by first | (with_reducible assumption) | assumption)
                  have hx29 := bt_at a0 x1_1
                  replace p29 := eq_true p29
                  replace q29 := eq_true q29
                  have p41 : 0 ≤ (x1_1 : Int) := of_decide_eq_true (by first | (with_reducible assumption) | assumption)
                  have q41 : x1_1 < (a0.size : Int) := of_decide_eq_true (by first | (with_reducible assumption) | assumption)
                  have hx41 := bt_at a0 x1_1
                  replace p41 := eq_true p41
                  replace q41 := eq_true q41
                  have p47 : 0 ≤ (x1_1 : Int) := of_decide_eq_true (by first | (with_reducible assumption) | assumption)
                  have q47 : x1_1 < (a0.size : Int) := of_decide_eq_true (by first | (with_reducible assumption) | assumption)
                  have hx47 := bt_at a0 x1_1
                  replace p47 := eq_true p47
                  replace q47 := eq_true q47
                  go_wp2
                  go_ret
                  exact ⟨by first | rfl | (simp; done) | (simp [*]; done), by repeat (first | exact Drawn0.refl _ | apply Drawn0.step)⟩
        · rw [if_neg c4] at H
          exact absurd H (by simp)
      · rw [if_neg c3] at H
        have c3b0 : decide (x1_1 < (a0.size : Int)) = false := decide_eq_false c3
        clear c3
        obtain rfl := Option.some.inj H
        go_wp2
        go_ret
        exact ⟨by first | rfl | (simp; done) | (simp [*]; done), by repeat (first | exact Drawn0.refl _ | apply Drawn0.step)⟩

/-! ### semver_zzParts: function 44 -/
mutual
def semver_zzParts.j0 : Nat → ByteArray → Int → Bool → Option (Int)
  | 0, _, _, _ => none
  | k + 1, x0, x1, x18 => if x18 = true then (some x1) else ((semver_zzPart.f k x0 (wrap64 (x1 + 1))).bind fun t120 => (if t120 = (wrap64 (x1 + 1)) then (some x1) else (semver_zzParts.l0 k x0 t120)))
def semver_zzParts.l0 : Nat → ByteArray → Int → Option (Int)
  | 0, _, _ => none
  | k + 1, x0, x7 => if x7 < (x0.size : Int) then (if 0 ≤ x7 then (if (bt x0 x7) = 46 then ((semver_zzPart.f k x0 (wrap64 (x7 + 1))).bind fun t121 => (if t121 > (wrap64 (x7 + 1)) then ((semver_zzPart.f k x0 (wrap64 (x7 + 1))).bind fun t122 => (semver_zzParts.l0 k x0 t122)) else (some x7))) else (some x7)) else (none)) else (some x7)
end
def semver_zzParts.f (k : Nat) (a0 : ByteArray) (a1 : Int) (a2 : Int) : Option (Int) := if a1 ≥ (a0.size : Int) then (semver_zzParts.j0 k a0 a1 true) else (if 0 ≤ a1 then (if a1 < (a0.size : Int) then (semver_zzParts.j0 k a0 a1 ((bt a0 a1) != a2)) else (none)) else (none))
theorem semver_zzParts.mono_l : ∀ k, (∀ y0 y1 y2, LeO (semver_zzParts.j0 k y0 y1 y2) (semver_zzParts.j0 (k + 1) y0 y1 y2)) ∧ (∀ y0 y1, LeO (semver_zzParts.l0 k y0 y1) (semver_zzParts.l0 (k + 1) y0 y1))
  | 0 => ⟨fun _ _ _ r h => by simp [semver_zzParts.j0] at h, fun _ _ r h => by simp [semver_zzParts.l0] at h⟩
  | k + 1 => by
    obtain ⟨ih0, ih1⟩ := semver_zzParts.mono_l k
    refine ⟨?_, ?_⟩
    · intro y0 y1 y2
      unfold semver_zzParts.j0
      repeat' first
      | (with_reducible exact ih0 _ _ _)
      | (with_reducible exact ih1 _ _)
      | (with_reducible exact semver_zzPart.mono _ _ _)
      | (with_reducible exact LeO.refl _)
      | (with_reducible exact LeO.none _)
      | (with_reducible refine LeO.ite ?_ ?_)
      | (with_reducible refine LeO.bind ?_ (fun _ => ?_))
      | exact ih0 _ _ _
      | exact ih1 _ _
      | exact semver_zzPart.mono _ _ _
      | exact LeO.none _
      | refine LeO.ite ?_ ?_
      | refine LeO.bind ?_ (fun _ => ?_)
    · intro y0 y1
      unfold semver_zzParts.l0
      repeat' first
      | (with_reducible exact ih0 _ _ _)
      | (with_reducible exact ih1 _ _)
      | (with_reducible exact semver_zzPart.mono _ _ _)
      | (with_reducible exact LeO.refl _)
      | (with_reducible exact LeO.none _)
      | (with_reducible refine LeO.ite ?_ ?_)
      | (with_reducible refine LeO.bind ?_ (fun _ => ?_))
      | exact ih0 _ _ _
      | exact ih1 _ _
      | exact semver_zzPart.mono _ _ _
      | exact LeO.none _
      | refine LeO.ite ?_ ?_
      | refine LeO.bind ?_ (fun _ => ?_)
theorem semver_zzParts.mono : ∀ a0 a1 a2 k, LeO (semver_zzParts.f k a0 a1 a2) (semver_zzParts.f (k + 1) a0 a1 a2) := by
  intro a0 a1 a2 k
  obtain ⟨ih0, ih1⟩ := semver_zzParts.mono_l k
  unfold semver_zzParts.f
  repeat' first
      | (with_reducible exact ih0 _ _ _)
      | (with_reducible exact ih1 _ _)
      | (with_reducible exact semver_zzPart.mono _ _ _)
      | (with_reducible exact LeO.refl _)
      | (with_reducible exact LeO.none _)
      | (with_reducible refine LeO.ite ?_ ?_)
      | (with_reducible refine LeO.bind ?_ (fun _ => ?_))
      | exact ih0 _ _ _
      | exact ih1 _ _
      | exact semver_zzPart.mono _ _ _
      | exact LeO.none _
      | refine LeO.ite ?_ ?_
      | refine LeO.bind ?_ (fun _ => ?_)
set_option maxHeartbeats 8000000 in
set_option maxRecDepth 100000 in
theorem semver_zzParts.calls (k : Nat) (a0 : ByteArray) (a1 : Int) (a2 : Int) (r : Int) (w : World) (h : semver_zzParts.f k a0 a1 a2 = some r) :
    Calls Tryz.prog 44 #[.string a0, .int .i64 a1, .int .u8 a2] w fun e w' => e = .returned (.int .i64 r) ∧ Drawn0 w w' := by
  have H : (if a1 ≥ (a0.size : Int) then (semver_zzParts.j0 k a0 a1 true) else (if 0 ≤ a1 then (if a1 < (a0.size : Int) then (semver_zzParts.j0 k a0 a1 ((bt a0 a1) != a2)) else (none)) else (none))) = some r := h
  clear h
  have HC4 := Aside0.mk H
  clear H
  go_enter Tryz.func44, Tryz.ntmps44
  go_upto_region 1 with (fail)
  go_cut [18] (fun v18 wc => ∃ (kq : Nat) (x18_3 : Bool), v18 = .bool x18_3 ∧ Aside0 (semver_zzParts.j0 kq a0 a1 x18_3 = some r) ∧ Aside0 (kq ≤ k) ∧ Drawn0 w wc)
  case first =>
    have H := HC4.out
    clear HC4
    by_cases c5 : a1 ≥ (a0.size : Int)
    · rw [if_pos c5] at H
      have c5b0 : decide ((a0.size : Int) ≤ a1) = true := decide_eq_true c5
      clear c5
      (first | rw [c5b0] | (simp only [i64_w, i32_w]; rw [c5b0]) | skip)
      have H' := Aside0.mk H
      clear H
      go_wp2
      go_meet
      case rel => exact ⟨_, (true), (by first | rfl | (simp; done) | (simp [*]; done)), H', ⟨by first | omega | exact Nat.le_refl _⟩, by repeat (first | exact Drawn0.refl _ | apply Drawn0.step)⟩
    · rw [if_neg c5] at H
      have c5b0 : decide ((a0.size : Int) ≤ a1) = false := decide_eq_false c5
      clear c5
      (first | rw [c5b0] | (simp only [i64_w, i32_w]; rw [c5b0]) | skip)
      by_cases c6 : 0 ≤ a1
      · rw [if_pos c6] at H
        have c6b0 : decide (0 ≤ a1) = true := decide_eq_true c6
        clear c6
        by_cases c7 : a1 < (a0.size : Int)
        · rw [if_pos c7] at H
          have c7b0 : decide (a1 < (a0.size : Int)) = true := decide_eq_true c7
          clear c7
          have H' := Aside0.mk H
          clear H
          have p8 : 0 ≤ (a1 : Int) := of_decide_eq_true (by first | (with_reducible assumption) | assumption)
          have q8 : a1 < (a0.size : Int) := of_decide_eq_true (by first | (with_reducible assumption) | assumption)
          have hx8 := bt_at a0 a1
          replace p8 := eq_true p8
          replace q8 := eq_true q8
          go_wp2
          go_meet
          case rel => exact ⟨_, (((bt a0 a1) != a2)), (by first | rfl | (simp; done) | (simp [*]; done)), H', ⟨by first | omega | exact Nat.le_refl _⟩, by repeat (first | exact Drawn0.refl _ | apply Drawn0.step)⟩
        · rw [if_neg c7] at H
          exact absurd H (by simp)
      · rw [if_neg c6] at H
        exact absurd H (by simp)
  case rest =>
    clear HC4
    try clear p2
    try clear c4
    try clear c5
    try clear c5b0
    try clear c6
    try clear c6b0
    try clear c7
    try clear c7b0
    try clear p8
    try clear q8
    try clear hx8
    try clear p8
    try clear q8
    obtain ⟨kq, x18_3, rfl, HA, HJ3, ⟨mc3, rfl⟩⟩ := hcut
    cases kq with
    | zero => exact absurd HA.out (by simp [semver_zzParts.j0])
    | succ kj3 =>
      have H := HA.out
      clear HA
      simp only [semver_zzParts.j0] at H
      by_cases c9 : x18_3 = true
      · subst c9
        have H1 : (some a1) = some r := by rw [if_pos rfl] at H; exact H
        clear H
        have H := H1
        clear H1
        obtain rfl := Option.some.inj H
        go_wp2
        go_ret
        exact ⟨by first | rfl | (simp; done) | (simp [*]; done), by repeat (first | exact Drawn0.refl _ | apply Drawn0.step)⟩
      · replace c9 := Bool.eq_false_iff.mpr c9
        subst c9
        have H1 : ((semver_zzPart.f kj3 a0 (wrap64 (a1 + 1))).bind fun t120 => (if t120 = (wrap64 (a1 + 1)) then (some a1) else (semver_zzParts.l0 kj3 a0 t120))) = some r := by rw [if_neg (show ¬ (false = true) by decide)] at H; exact H
        clear H
        have H := H1
        clear H1
        replace H := Option.bind_eq_some_iff.mp H
        obtain ⟨t120, A100, H⟩ := H
        replace H : (if t120 = (wrap64 (a1 + 1)) then (some a1) else (semver_zzParts.l0 kj3 a0 t120)) = some r := H
        have A10 := Aside0.mk A100
        clear A100
        by_cases c11 : t120 = (wrap64 (a1 + 1))
        · rw [if_pos c11] at H
          have c11b0 : (t120 == (wrap64 (a1 + 1))) = true := beq_iff_eq.mpr c11
          have c11b1 : (t120 != (wrap64 (a1 + 1))) = false := bne_eq_false_iff_eq.mpr c11
          clear c11
          obtain rfl := Option.some.inj H
          go_wp2_with (first | ((with_reducible refine gate_callee (f := 57) rfl ?_); refine goesL_ (some 23) rfl rfl Tryz.func57 (by kernel_rfl) rfl #[.string a0, .int .i64 (wrap64 (a1 + 1))] rfl (by (try simp only [List.map_toArray, List.map_cons, List.map_nil]); first | done | rfl | (simp only [List.length_drop, List.length_take]; rfl)) ?_; (with_reducible refine (semver_zzPart.calls kj3 a0 (wrap64 (a1 + 1)) t120 _ A10.out).mono ?_); rintro e w' ⟨rfl, ⟨nd, rfl⟩⟩; refine ⟨_, rfl, ?_⟩))
          go_ret
          exact ⟨by first | rfl | (simp; done) | (simp [*]; done), by repeat (first | exact Drawn0.refl _ | apply Drawn0.step)⟩
        · rw [if_neg c11] at H
          have c11b0 : (t120 == (wrap64 (a1 + 1))) = false := beq_eq_false_iff_ne.mpr c11
          have c11b1 : (t120 != (wrap64 (a1 + 1))) = true := bne_iff_ne.mpr c11
          have H' := Aside0.mk H
          clear H
          go_wp2_with (first | ((with_reducible refine gate_callee (f := 57) rfl ?_); refine goesL_ (some 23) rfl rfl Tryz.func57 (by kernel_rfl) rfl #[.string a0, .int .i64 (wrap64 (a1 + 1))] rfl (by (try simp only [List.map_toArray, List.map_cons, List.map_nil]); first | done | rfl | (simp only [List.length_drop, List.length_take]; rfl)) ?_; (with_reducible refine (semver_zzPart.calls kj3 a0 (wrap64 (a1 + 1)) t120 _ A10.out).mono ?_); rintro e w' ⟨rfl, ⟨nd, rfl⟩⟩; refine ⟨_, rfl, ?_⟩))
          go_loopg [7] kj3 (fun kq v7 w' => ∃ (x7_2 : Int), v7 = .int .i64 x7_2 ∧ Aside0 (semver_zzParts.l0 kq a0 x7_2 = some r) ∧ Aside0 (kq ≤ kj3) ∧ Drawn0 w w')
          case atStart => exact ⟨(t120), (by first | rfl | (simp; done) | (simp [*]; done)), H', ⟨Nat.le_refl _⟩, by repeat (first | exact Drawn0.refl _ | apply Drawn0.step)⟩
          case round =>
            clear H'
            try clear c1
            try clear p2
            try clear c3
            try clear c4
            try clear c5
            try clear c5b0
            try clear c6
            try clear c6b0
            try clear p6
            try clear c7
            try clear c7b0
            try clear p8
            try clear q8
            try clear hx8
            try clear c9
            try clear c11
            try clear c11b0
            try clear c11b1
            try clear p2
            try clear p8
            try clear q8
            obtain ⟨x7_2, rfl, HA, HK2, ⟨m2, rfl⟩⟩ := hrel
            cases gk with
            | zero => exact absurd HA.out (by simp [semver_zzParts.l0])
            | succ k2 =>
              have H := HA.out
              clear HA
              simp only [semver_zzParts.l0] at H
              by_cases c12 : x7_2 < (a0.size : Int)
              · rw [if_pos c12] at H
                have c12b0 : decide (x7_2 < (a0.size : Int)) = true := decide_eq_true c12
                clear c12
                by_cases c13 : 0 ≤ x7_2
                · rw [if_pos c13] at H
                  have c13b0 : decide (0 ≤ x7_2) = true := decide_eq_true c13
                  clear c13
                  by_cases c15 : (bt a0 x7_2) = 46
                  · rw [if_pos c15] at H
                    have c15b0 : ((bt a0 x7_2) == 46) = true := beq_iff_eq.mpr c15
                    have c15b1 : ((bt a0 x7_2) != 46) = false := bne_eq_false_iff_eq.mpr c15
                    clear c15
                    replace H := Option.bind_eq_some_iff.mp H
                    obtain ⟨t121, A160, H⟩ := H
                    replace H : (if t121 > (wrap64 (x7_2 + 1)) then ((semver_zzPart.f k2 a0 (wrap64 (x7_2 + 1))).bind fun t122 => (semver_zzParts.l0 k2 a0 t122)) else (some x7_2)) = some r := H
                    have A16 := Aside0.mk A160
                    clear A160
                    by_cases c17 : t121 > (wrap64 (x7_2 + 1))
                    · rw [if_pos c17] at H
                      have c17b0 : decide ((wrap64 (x7_2 + 1)) < t121) = true := decide_eq_true c17
                      clear c17
                      replace H := Option.bind_eq_some_iff.mp H
                      obtain ⟨t122, A180, H⟩ := H
                      replace H : (semver_zzParts.l0 k2 a0 t122) = some r := H
                      have A18 := Aside0.mk A180
                      clear A180
                      have H' := Aside0.mk H
                      clear H
                      have p14 : 0 ≤ (x7_2 : Int) := of_decide_eq_true (by first | (with_reducible assumption) | assumption)
                      have q14 : x7_2 < (a0.size : Int) := of_decide_eq_true (by first | (with_reducible assumption) | assumption)
                      have hx14 := bt_at a0 x7_2
                      replace p14 := eq_true p14
                      replace q14 := eq_true q14
                      go_wp2_with (first | (go_at_call 57; (with_reducible refine (semver_zzPart.calls k2 a0 (wrap64 (x7_2 + 1)) t121 _ A16.out).mono ?_); rintro e w' ⟨rfl, ⟨nd, rfl⟩⟩) | ((with_reducible refine gate_callee (f := 57) rfl ?_); refine goesL_ (some 51) rfl rfl Tryz.func57 (by kernel_rfl) rfl #[.string a0, .int .i64 (wrap64 (x7_2 + 1))] rfl (by (try simp only [List.map_toArray, List.map_cons, List.map_nil]); first | done | rfl | (simp only [List.length_drop, List.length_take]; rfl)) ?_; (with_reducible refine (semver_zzPart.calls k2 a0 (wrap64 (x7_2 + 1)) t122 _ A18.out).mono ?_); rintro e w' ⟨rfl, ⟨nd, rfl⟩⟩; refine ⟨_, rfl, ?_⟩))
                      go_roundg k2
                      case measure => have := HJ3.out; have := HK2.out; omega
                      case rel => exact ⟨(t122), (by first | rfl | (simp; done) | (simp [*]; done)), H', ⟨by have := HJ3.out; have := HK2.out; omega⟩, by repeat (first | exact Drawn0.refl _ | apply Drawn0.step)⟩
                    · rw [if_neg c17] at H
                      have c17b0 : decide ((wrap64 (x7_2 + 1)) < t121) = false := decide_eq_false c17
                      clear c17
                      obtain rfl := Option.some.inj H
                      have p14 : 0 ≤ (x7_2 : Int) := of_decide_eq_true (by first | (with_reducible assumption) | assumption)
                      have q14 : x7_2 < (a0.size : Int) := of_decide_eq_true (by first | (with_reducible assumption) | assumption)
                      have hx14 := bt_at a0 x7_2
                      replace p14 := eq_true p14
                      replace q14 := eq_true q14
                      go_wp2_with (first | (go_at_call 57; (with_reducible refine (semver_zzPart.calls k2 a0 (wrap64 (x7_2 + 1)) t121 _ A16.out).mono ?_); rintro e w' ⟨rfl, ⟨nd, rfl⟩⟩))
                      go_ret
                      exact ⟨by first | rfl | (simp; done) | (simp [*]; done), by repeat (first | exact Drawn0.refl _ | apply Drawn0.step)⟩
                  · rw [if_neg c15] at H
                    have c15b0 : ((bt a0 x7_2) == 46) = false := beq_eq_false_iff_ne.mpr c15
                    have c15b1 : ((bt a0 x7_2) != 46) = true := bne_iff_ne.mpr c15
                    obtain rfl := Option.some.inj H
                    have p14 : 0 ≤ (x7_2 : Int) := of_decide_eq_true (by first | (with_reducible assumption) | assumption)
                    have q14 : x7_2 < (a0.size : Int) := of_decide_eq_true (by first | (with_reducible assumption) | assumption)
                    have hx14 := bt_at a0 x7_2
                    replace p14 := eq_true p14
                    replace q14 := eq_true q14
                    go_wp2
                    go_ret
                    exact ⟨by first | rfl | (simp; done) | (simp [*]; done), by repeat (first | exact Drawn0.refl _ | apply Drawn0.step)⟩
                · rw [if_neg c13] at H
                  exact absurd H (by simp)
              · rw [if_neg c12] at H
                have c12b0 : decide (x7_2 < (a0.size : Int)) = false := decide_eq_false c12
                clear c12
                obtain rfl := Option.some.inj H
                go_wp2
                go_ret
                exact ⟨by first | rfl | (simp; done) | (simp [*]; done), by repeat (first | exact Drawn0.refl _ | apply Drawn0.step)⟩

-- NOT PRINTED: function 32 (semver_zzVersion)

/-! ### semver_zzIndex: function 34 -/
def semver_zzIndex.l0 : Nat → ByteArray → ByteArray → Int → Option (Int)
  | 0, _, _, _ => none
  | k + 1, x0, x1, x5 => if (wrap64 (x5 + (x1.size : Int))) ≤ (x0.size : Int) then (if 0 ≤ x5 then (if x5 ≤ (wrap64 (x5 + (x1.size : Int))) then (if (x0.extract (x5 : Int).toNat ((wrap64 (x5 + (x1.size : Int))) : Int).toNat).toList = x1.toList then (some x5) else (semver_zzIndex.l0 k x0 x1 (wrap64 (x5 + 1)))) else (none)) else (none)) else (some (-1))
def semver_zzIndex.f (k : Nat) (a0 : ByteArray) (a1 : ByteArray) : Option (Int) := semver_zzIndex.l0 k a0 a1 0
theorem semver_zzIndex.mono_l : ∀ k, (∀ y0 y1 y2, LeO (semver_zzIndex.l0 k y0 y1 y2) (semver_zzIndex.l0 (k + 1) y0 y1 y2))
  | 0 => fun _ _ _ r h => by simp [semver_zzIndex.l0] at h
  | k + 1 => by
    have ih0 := semver_zzIndex.mono_l k
    · intro y0 y1 y2
      unfold semver_zzIndex.l0
      repeat' first
      | (with_reducible exact ih0 _ _ _)
      | (with_reducible exact LeO.refl _)
      | (with_reducible exact LeO.none _)
      | (with_reducible refine LeO.ite ?_ ?_)
      | (with_reducible refine LeO.bind ?_ (fun _ => ?_))
      | exact ih0 _ _ _
      | exact LeO.none _
      | refine LeO.ite ?_ ?_
      | refine LeO.bind ?_ (fun _ => ?_)
theorem semver_zzIndex.mono : ∀ a0 a1 k, LeO (semver_zzIndex.f k a0 a1) (semver_zzIndex.f (k + 1) a0 a1) := by
  intro a0 a1 k
  have ih0 := semver_zzIndex.mono_l k
  unfold semver_zzIndex.f
  repeat' first
      | (with_reducible exact ih0 _ _ _)
      | (with_reducible exact LeO.refl _)
      | (with_reducible exact LeO.none _)
      | (with_reducible refine LeO.ite ?_ ?_)
      | (with_reducible refine LeO.bind ?_ (fun _ => ?_))
      | exact ih0 _ _ _
      | exact LeO.none _
      | refine LeO.ite ?_ ?_
      | refine LeO.bind ?_ (fun _ => ?_)
set_option maxHeartbeats 8000000 in
set_option maxRecDepth 100000 in
theorem semver_zzIndex.calls (k : Nat) (a0 : ByteArray) (a1 : ByteArray) (r : Int) (w : World) (h : semver_zzIndex.f k a0 a1 = some r) :
    Calls Tryz.prog 34 #[.string a0, .string a1] w fun e w' => e = .returned (.int .i64 r) ∧ Drawn0 w w' := by
  have H : (semver_zzIndex.l0 k a0 a1 0) = some r := h
  clear h
  have H' := Aside0.mk H
  clear H
  go_enter Tryz.func34, Tryz.ntmps34
  go_wp2
  go_loopg [5] k (fun kq v5 w' => ∃ (x5_1 : Int), v5 = .int .i64 x5_1 ∧ Aside0 (semver_zzIndex.l0 kq a0 a1 x5_1 = some r) ∧ Aside0 (kq ≤ k) ∧ Drawn0 w w')
  case atStart => exact ⟨(0), (by first | rfl | (simp; done) | (simp [*]; done)), H', ⟨Nat.le_refl _⟩, by repeat (first | exact Drawn0.refl _ | apply Drawn0.step)⟩
  case round =>
    clear H'
    try clear p2
    obtain ⟨x5_1, rfl, HA, HK1, ⟨m1, rfl⟩⟩ := hrel
    cases gk with
    | zero => exact absurd HA.out (by simp [semver_zzIndex.l0])
    | succ k1 =>
      have H := HA.out
      clear HA
      simp only [semver_zzIndex.l0] at H
      by_cases c3 : (wrap64 (x5_1 + (a1.size : Int))) ≤ (a0.size : Int)
      · rw [if_pos c3] at H
        have c3b0 : decide ((wrap64 (x5_1 + (a1.size : Int))) ≤ (a0.size : Int)) = true := decide_eq_true c3
        clear c3
        by_cases c4 : 0 ≤ x5_1
        · rw [if_pos c4] at H
          have c4b0 := eq_true c4
          have c4b1 : decide (0 ≤ x5_1) = true := decide_eq_true c4
          clear c4
          by_cases c5 : x5_1 ≤ (wrap64 (x5_1 + (a1.size : Int)))
          · rw [if_pos c5] at H
            have c5b0 := eq_true c5
            have c5b1 : decide (x5_1 ≤ (wrap64 (x5_1 + (a1.size : Int)))) = true := decide_eq_true c5
            have c6b0 := eq_true (of_decide_eq_true (by first | (with_reducible assumption) | assumption) : (wrap64 (x5_1 + (a1.size : Int))) ≤ (a0.size : Int))
            by_cases c7 : (a0.extract (x5_1 : Int).toNat ((wrap64 (x5_1 + (a1.size : Int))) : Int).toNat).toList = a1.toList
            · rw [if_pos c7] at H
              have c7b0 : ((a0.extract (x5_1 : Int).toNat ((wrap64 (x5_1 + (a1.size : Int))) : Int).toNat).toList == a1.toList) = true := beq_iff_eq.mpr c7
              have c7b1 : ((a0.extract (x5_1 : Int).toNat ((wrap64 (x5_1 + (a1.size : Int))) : Int).toNat).toList != a1.toList) = false := bne_eq_false_iff_eq.mpr c7
              clear c7
              obtain rfl := Option.some.inj H
              go_wp2
              go_ret
              exact ⟨by first | rfl | (simp; done) | (simp [*]; done), by repeat (first | exact Drawn0.refl _ | apply Drawn0.step)⟩
            · rw [if_neg c7] at H
              have c7b0 : ((a0.extract (x5_1 : Int).toNat ((wrap64 (x5_1 + (a1.size : Int))) : Int).toNat).toList == a1.toList) = false := beq_eq_false_iff_ne.mpr c7
              have c7b1 : ((a0.extract (x5_1 : Int).toNat ((wrap64 (x5_1 + (a1.size : Int))) : Int).toNat).toList != a1.toList) = true := bne_iff_ne.mpr c7
              have H' := Aside0.mk H
              clear H
              go_wp2
              go_roundg k1
              case measure => have := HK1.out; omega
              case rel => exact ⟨(wrap64 (x5_1 + 1)), (by first | rfl | (simp; done) | (simp [*]; done)), H', ⟨by have := HK1.out; omega⟩, by repeat (first | exact Drawn0.refl _ | apply Drawn0.step)⟩
          · rw [if_neg c5] at H
            exact absurd H (by simp)
        · rw [if_neg c4] at H
          exact absurd H (by simp)
      · rw [if_neg c3] at H
        have c3b0 : decide ((wrap64 (x5_1 + (a1.size : Int))) ≤ (a0.size : Int)) = false := decide_eq_false c3
        clear c3
        obtain rfl := Option.some.inj H
        go_wp2
        go_ret
        exact ⟨by first | rfl | (simp; done) | (simp [*]; done), by repeat (first | exact Drawn0.refl _ | apply Drawn0.step)⟩

-- NOT PRINTED: function 58 (utf8_decodeRuneInStringSlow)

-- NOT PRINTED: function 45 (utf8_DecodeRuneInString)

-- NOT PRINTED: function 33 (semver_zzReplace)

-- NOT PRINTED: function 18 (semver_rewriteRange)

/-! ### semver_zzSplit: function 19 -/
def semver_zzSplit.l0 : Nat → ByteArray → ByteArray → List ByteArray → Option (List ByteArray)
  | 0, _, _, _ => none
  | k + 1, x0, x1, x5 => (semver_zzIndex.f k x0 x1).bind fun t130 => (if t130 < 0 then (if x5.length < 8796093022208 then (some (x5 ++ [x0])) else (none)) else (if 0 ≤ t130 then (if t130 ≤ (x0.size : Int) then (if x5.length < 8796093022208 then (if 0 ≤ (wrap64 (t130 + (x1.size : Int))) then (if (wrap64 (t130 + (x1.size : Int))) ≤ (x0.size : Int) then (semver_zzSplit.l0 k (x0.extract ((wrap64 (t130 + (x1.size : Int))) : Int).toNat x0.size) x1 (x5 ++ [x0.extract 0 (t130 : Int).toNat])) else (none)) else (none)) else (none)) else (none)) else (none)))
def semver_zzSplit.f (k : Nat) (a0 : ByteArray) (a1 : ByteArray) : Option (List ByteArray) := semver_zzSplit.l0 k a0 a1 ([] : List ByteArray)
theorem semver_zzSplit.mono_l : ∀ k, (∀ y0 y1 y2, LeO (semver_zzSplit.l0 k y0 y1 y2) (semver_zzSplit.l0 (k + 1) y0 y1 y2))
  | 0 => fun _ _ _ r h => by simp [semver_zzSplit.l0] at h
  | k + 1 => by
    have ih0 := semver_zzSplit.mono_l k
    · intro y0 y1 y2
      unfold semver_zzSplit.l0
      repeat' first
      | (with_reducible exact ih0 _ _ _)
      | (with_reducible exact semver_zzIndex.mono _ _ _)
      | (with_reducible exact LeO.refl _)
      | (with_reducible exact LeO.none _)
      | (with_reducible refine LeO.ite ?_ ?_)
      | (with_reducible refine LeO.bind ?_ (fun _ => ?_))
      | exact ih0 _ _ _
      | exact semver_zzIndex.mono _ _ _
      | exact LeO.none _
      | refine LeO.ite ?_ ?_
      | refine LeO.bind ?_ (fun _ => ?_)
theorem semver_zzSplit.mono : ∀ a0 a1 k, LeO (semver_zzSplit.f k a0 a1) (semver_zzSplit.f (k + 1) a0 a1) := by
  intro a0 a1 k
  have ih0 := semver_zzSplit.mono_l k
  unfold semver_zzSplit.f
  repeat' first
      | (with_reducible exact ih0 _ _ _)
      | (with_reducible exact semver_zzIndex.mono _ _ _)
      | (with_reducible exact LeO.refl _)
      | (with_reducible exact LeO.none _)
      | (with_reducible refine LeO.ite ?_ ?_)
      | (with_reducible refine LeO.bind ?_ (fun _ => ?_))
      | exact ih0 _ _ _
      | exact semver_zzIndex.mono _ _ _
      | exact LeO.none _
      | refine LeO.ite ?_ ?_
      | refine LeO.bind ?_ (fun _ => ?_)
set_option maxHeartbeats 8000000 in
set_option maxRecDepth 100000 in
theorem semver_zzSplit.calls (k : Nat) (a0 : ByteArray) (a1 : ByteArray) (r : List ByteArray) (w : World) (h : semver_zzSplit.f k a0 a1 = some r) :
    Calls Tryz.prog 19 #[.string a0, .string a1] w fun e w' => ∃ v0_ : Value, e = .returned (v0_) ∧ Kd.R Kd.string 9 w' w.heap.size (fun _ => True) v0_ r ∧ Below w.heap.size w w' := by
  have HB := Aside0.mk (Below.refl w.heap.size w)
  have H : (semver_zzSplit.l0 k a0 a1 ([] : List ByteArray)) = some r := h
  clear h
  have H' := Aside0.mk H
  clear H
  go_enter Tryz.func19, Tryz.ntmps19
  go_wp2
  go_loopg [0, 5] k (fun kq v0 v5 w' => ∃ (x0_1 : ByteArray) (x5_1 : List ByteArray), v0 = .string x0_1 ∧ Aside0 (semver_zzSplit.l0 kq x0_1 a1 x5_1 = some r) ∧ Aside0 (kq ≤ k) ∧ Aside0 (Kd.R Kd.string 9 w' w.heap.size (fun _ => True) v5 x5_1) ∧ Aside0 (Below w.heap.size w w'))
  case atStart => exact ⟨(a0), (([] : List ByteArray)), (by first | rfl | (simp; done) | (simp [*]; done)), H', ⟨Nat.le_refl _⟩, ⟨by first | exact Kd.R_nil _ _ _ _ _ | exact Kd.N_nil _ _ _ _ _ | exact Kd.V_nil _ _ _ _ _ | exact Kd.Q_nil _ _ _ _ _ | exact Kd.S_nil _ _ _ _ _⟩, ⟨by repeat (first | (with_reducible first | exact HB.out | apply below_alloc | apply pw_below_drewN | apply below_drew1) | exact HB.out)⟩⟩
  case round =>
    clear H'
    try clear c1
    try clear p2
    obtain ⟨x0_1, x5_1, rfl, HA, HK1, HO_5, HB⟩ := hrel
    cases gk with
    | zero => exact absurd HA.out (by simp [semver_zzSplit.l0])
    | succ k1 =>
      have H := HA.out
      clear HA
      simp only [semver_zzSplit.l0] at H
      replace H := Option.bind_eq_some_iff.mp H
      obtain ⟨t130, A30, H⟩ := H
      replace H : (if t130 < 0 then (if x5_1.length < 8796093022208 then (some (x5_1 ++ [x0_1])) else (none)) else (if 0 ≤ t130 then (if t130 ≤ (x0_1.size : Int) then (if x5_1.length < 8796093022208 then (if 0 ≤ (wrap64 (t130 + (a1.size : Int))) then (if (wrap64 (t130 + (a1.size : Int))) ≤ (x0_1.size : Int) then (semver_zzSplit.l0 k1 (x0_1.extract ((wrap64 (t130 + (a1.size : Int))) : Int).toNat x0_1.size) a1 (x5_1 ++ [x0_1.extract 0 (t130 : Int).toNat])) else (none)) else (none)) else (none)) else (none)) else (none))) = some r := H
      have A3 := Aside0.mk A30
      clear A30
      by_cases c4 : t130 < 0
      · rw [if_pos c4] at H
        have c4b0 : decide (t130 < 0) = true := decide_eq_true c4
        clear c4
        by_cases c5 : x5_1.length < 8796093022208
        · rw [if_pos c5] at H
          have LMc5 := Aside0.mk c5
          clear c5
          obtain ⟨y131, hy131⟩ : ∃ y_ : List ByteArray, y_ = (x5_1 ++ [x0_1]) := ⟨_, rfl⟩
          replace H : (some y131) = some r := by first | (rw [hy131]; with_reducible exact H) | (have H2_ := (Option.bind_some _ _).symm.trans H; rw [hy131]; with_reducible exact H2_) | (have H2_ := (Option.bind_some _ _).symm.trans H; with_reducible exact H2_) | with_reducible exact H | (rw [hy131]; exact H) | exact H
          have Ny131 := Aside0.mk hy131
          clear hy131
          obtain rfl := Option.some.inj H
          go_wp2_with (first | ((with_reducible refine gate_callee (f := 34) rfl ?_); refine goesL_ (some 9) rfl rfl Tryz.func34 (by kernel_rfl) rfl #[.string x0_1, .string a1] rfl (by (try simp only [List.map_toArray, List.map_cons, List.map_nil]); first | done | rfl | (simp only [List.length_drop, List.length_take]; rfl)) ?_; (with_reducible refine (semver_zzIndex.calls k1 x0_1 a1 t130 _ A3.out).mono ?_); rintro e w' ⟨rfl, ⟨nd, rfl⟩⟩; refine ⟨_, rfl, ?_⟩) | ((with_reducible refine gate_builtin (b := .append) (xs := #[.tmp 12, .tmp 14]) rfl ?_); at_builtin; refine Kd.R_append Kd.string (w0 := w) w.heap.size rfl (.tmp 12) (.tmp 14) 22 9 (.string ⟨#[]⟩) 16 rfl Tryz.underlying22 info9 rfl (by decide) (by omega) u5 x5_1 x0_1 [.string x0_1] (fun _ => True) (fun _ => False) rfl rfl ?aP (fun _ hk => hk.elim) ?aF ?aO ?aB ?aS ?aL ?_; (case aP => exact rfl); (case aB => exact (by repeat (first | (with_reducible first | exact HB.out | apply below_alloc | apply pw_below_drewN | apply below_drew1) | exact HB.out))); (case aF => exact (fun _ _ => trivial)); (case aO => exact (by (with_reducible repeat (first | apply Kd.R_alloc | apply Kd.R_drewN | apply Kd.R_drew)); exact HO_5.out)); (case aS => exact (below_size (by repeat (first | (with_reducible first | exact HB.out | apply below_alloc | apply pw_below_drewN | apply below_drew1) | exact HB.out)))); (case aL => have := LMc5.out; omega); intro v132 w6 ho hb hg hat; rw [← Ny131.out] at ho; have n0_ := Aside0.mk (hb); have n1_ := Aside0.mk (ho); clear HB; clear HO_5; have HB := n0_; have HO133 := n1_; clear n0_ n1_; clear ho hb hg hat))
          go_ret
          exact ⟨_, by first | rfl | (simp [errW_none, errW_some] <;> rfl) | (simp [*, errW_none, errW_some] <;> rfl), by (with_reducible repeat (first | apply Kd.R_alloc | apply Kd.R_drewN | apply Kd.R_drew)); exact HO133.out, by repeat (first | (with_reducible first | exact HB.out | apply below_alloc | apply pw_below_drewN | apply below_drew1) | exact HB.out)⟩
        · rw [if_neg c5] at H
          exact absurd H (by simp)
      · rw [if_neg c4] at H
        have c4b0 : decide (t130 < 0) = false := decide_eq_false c4
        clear c4
        by_cases c7 : 0 ≤ t130
        · rw [if_pos c7] at H
          have c7b0 := eq_true c7
          have c7b1 : decide (0 ≤ t130) = true := decide_eq_true c7
          clear c7
          by_cases c8 : t130 ≤ (x0_1.size : Int)
          · rw [if_pos c8] at H
            have c8b0 := eq_true c8
            have c8b1 : decide (t130 ≤ (x0_1.size : Int)) = true := decide_eq_true c8
            clear c8
            by_cases c9 : x5_1.length < 8796093022208
            · rw [if_pos c9] at H
              have LMc9 := Aside0.mk c9
              clear c9
              obtain ⟨y134, hy134⟩ : ∃ y_ : List ByteArray, y_ = (x5_1 ++ [x0_1.extract 0 (t130 : Int).toNat]) := ⟨_, rfl⟩
              replace H : (if 0 ≤ (wrap64 (t130 + (a1.size : Int))) then (if (wrap64 (t130 + (a1.size : Int))) ≤ (x0_1.size : Int) then (semver_zzSplit.l0 k1 (x0_1.extract ((wrap64 (t130 + (a1.size : Int))) : Int).toNat x0_1.size) a1 y134) else (none)) else (none)) = some r := by first | (rw [hy134]; with_reducible exact H) | (have H2_ := (Option.bind_some _ _).symm.trans H; rw [hy134]; with_reducible exact H2_) | (have H2_ := (Option.bind_some _ _).symm.trans H; with_reducible exact H2_) | with_reducible exact H | (rw [hy134]; exact H) | exact H
              have Ny134 := Aside0.mk hy134
              clear hy134
              obtain ⟨ji10, hji10⟩ : ∃ j_ : Int, (wrap64 (t130 + (a1.size : Int))) = j_ := ⟨_, rfl⟩
              replace H : (if 0 ≤ (ji10) then (if (ji10) ≤ (x0_1.size : Int) then (semver_zzSplit.l0 k1 (x0_1.extract ((ji10) : Int).toNat x0_1.size) a1 y134) else (none)) else (none)) = some r := by first | (rw [hji10] at H; exact H) | (simp only [hji10] at H ⊢; exact H)
              (try rw [hji10] at A3)
              have hji10w : (IntKind.i64.wrap (t130 + (a1.size : Int))) = ji10 := (i64_w _).trans hji10
              by_cases c11 : 0 ≤ (ji10)
              · rw [if_pos c11] at H
                have c11b0 := eq_true c11
                have c11b1 : decide (0 ≤ (ji10)) = true := decide_eq_true c11
                clear c11
                by_cases c12 : (ji10) ≤ (x0_1.size : Int)
                · rw [if_pos c12] at H
                  have c12b0 := eq_true c12
                  have c12b1 : decide ((ji10) ≤ (x0_1.size : Int)) = true := decide_eq_true c12
                  clear c12
                  have H' := Aside0.mk H
                  clear H
                  go_wp2_with (first | ((with_reducible refine gate_callee (f := 34) rfl ?_); refine goesL_ (some 9) rfl rfl Tryz.func34 (by kernel_rfl) rfl #[.string x0_1, .string a1] rfl (by (try simp only [List.map_toArray, List.map_cons, List.map_nil]); first | done | rfl | (simp only [List.length_drop, List.length_take]; rfl)) ?_; (with_reducible refine (semver_zzIndex.calls k1 x0_1 a1 t130 _ A3.out).mono ?_); rintro e w' ⟨rfl, ⟨nd, rfl⟩⟩; refine ⟨_, rfl, ?_⟩) | ((with_reducible refine gate_builtin (b := .append) (xs := #[.tmp 16, .tmp 20]) rfl ?_); at_builtin; refine Kd.R_append Kd.string (w0 := w) w.heap.size rfl (.tmp 16) (.tmp 20) 22 9 (.string ⟨#[]⟩) 16 rfl Tryz.underlying22 info9 rfl (by decide) (by omega) u5 x5_1 (x0_1.extract 0 (t130 : Int).toNat) [.string (x0_1.extract 0 (t130 : Int).toNat)] (fun _ => True) (fun _ => False) rfl rfl ?aP (fun _ hk => hk.elim) ?aF ?aO ?aB ?aS ?aL ?_; (case aP => exact rfl); (case aB => exact (by repeat (first | (with_reducible first | exact HB.out | apply below_alloc | apply pw_below_drewN | apply below_drew1) | exact HB.out))); (case aF => exact (fun _ _ => trivial)); (case aO => exact (by (with_reducible repeat (first | apply Kd.R_alloc | apply Kd.R_drewN | apply Kd.R_drew)); exact HO_5.out)); (case aS => exact (below_size (by repeat (first | (with_reducible first | exact HB.out | apply below_alloc | apply pw_below_drewN | apply below_drew1) | exact HB.out)))); (case aL => have := LMc9.out; omega); intro v135 w13 ho hb hg hat; rw [← Ny134.out] at ho; have n0_ := Aside0.mk (hb); have n1_ := Aside0.mk (ho); clear HB; clear HO_5; have HB := n0_; have HO136 := n1_; clear n0_ n1_; clear ho hb hg hat))
                  go_roundg k1
                  case measure => have := HK1.out; omega
                  case rel => exact ⟨(x0_1.extract ((ji10) : Int).toNat x0_1.size), (y134), (by first | rfl | (simp; done) | (simp only [← hji10] <;> (first | rfl | simp)) | (simp [*]; done)), H', ⟨by have := HK1.out; omega⟩, ⟨by (with_reducible repeat (first | apply Kd.R_alloc | apply Kd.R_drewN | apply Kd.R_drew)); exact HO136.out⟩, ⟨by repeat (first | (with_reducible first | exact HB.out | apply below_alloc | apply pw_below_drewN | apply below_drew1) | exact HB.out)⟩⟩
                · rw [if_neg c12] at H
                  exact absurd H (by simp)
              · rw [if_neg c11] at H
                exact absurd H (by simp)
            · rw [if_neg c9] at H
              exact absurd H (by simp)
          · rw [if_neg c8] at H
            exact absurd H (by simp)
        · rw [if_neg c7] at H
          exact absurd H (by simp)

-- NOT PRINTED: function 35 (semver_zzConstraint)

-- NOT PRINTED: function 20 (semver_zzValid)

-- NOT PRINTED: function 21 (errors_New)

-- NOT PRINTED: function 22 (semver_zzFind)

/-! ### stringslite_HasPrefix: function 59 -/
def stringslite_HasPrefix.f (a0 : ByteArray) (a1 : ByteArray) : Option (Bool) := if (a0.size : Int) ≥ (a1.size : Int) then (if 0 ≤ (a1.size : Int) then (if (a1.size : Int) ≤ (a0.size : Int) then (some ((a0.extract 0 ((a1.size : Int) : Int).toNat).toList == a1.toList)) else (none)) else (none)) else (some false)
set_option maxHeartbeats 8000000 in
set_option maxRecDepth 100000 in
theorem stringslite_HasPrefix.calls (a0 : ByteArray) (a1 : ByteArray) (r : Bool) (w : World) (h : stringslite_HasPrefix.f a0 a1 = some r) :
    Calls Tryz.prog 59 #[.string a0, .string a1] w fun e w' => e = .returned (.bool r) ∧ Drawn0 w w' := by
  have H : (if (a0.size : Int) ≥ (a1.size : Int) then (if 0 ≤ (a1.size : Int) then (if (a1.size : Int) ≤ (a0.size : Int) then (some ((a0.extract 0 ((a1.size : Int) : Int).toNat).toList == a1.toList)) else (none)) else (none)) else (some false)) = some r := h
  clear h
  by_cases c3 : (a0.size : Int) ≥ (a1.size : Int)
  · rw [if_pos c3] at H
    have c3b0 : decide ((a1.size : Int) ≤ (a0.size : Int)) = true := decide_eq_true c3
    have c3b1 : decide (a1.size ≤ a0.size) = true := decide_eq_true (Int.ofNat_le.mp c3)
    clear c3
    by_cases c4 : 0 ≤ (a1.size : Int)
    · rw [if_pos c4] at H
      have c4b0 := eq_true c4
      have c4b1 : decide (0 ≤ (a1.size : Int)) = true := decide_eq_true c4
      clear c4
      by_cases c5 : (a1.size : Int) ≤ (a0.size : Int)
      · rw [if_pos c5] at H
        have c5b0 := eq_true c5
        have c5b1 : decide ((a1.size : Int) ≤ (a0.size : Int)) = true := decide_eq_true c5
        clear c5
        obtain rfl := Option.some.inj H
        go_enter Tryz.func59, Tryz.ntmps59
        go_wp2
        go_ret
        exact ⟨by first | rfl | (simp; done) | (simp [*]; done), by repeat (first | exact Drawn0.refl _ | apply Drawn0.step)⟩
      · rw [if_neg c5] at H
        exact absurd H (by simp)
    · rw [if_neg c4] at H
      exact absurd H (by simp)
  · rw [if_neg c3] at H
    have c3b0 : decide ((a1.size : Int) ≤ (a0.size : Int)) = false := decide_eq_false c3
    have c3b1 : decide (a1.size ≤ a0.size) = false := decide_eq_false (fun h => c3 (Int.ofNat_le.mpr h))
    clear c3
    obtain rfl := Option.some.inj H
    go_enter Tryz.func59, Tryz.ntmps59
    go_wp2
    go_ret
    exact ⟨by first | rfl | (simp; done) | (simp [*]; done), by repeat (first | exact Drawn0.refl _ | apply Drawn0.step)⟩

/-! ### stringslite_TrimPrefix: function 46 -/
def stringslite_TrimPrefix.f (a0 : ByteArray) (a1 : ByteArray) : Option (ByteArray) := (stringslite_HasPrefix.f a0 a1).bind fun t144 => (if t144 = true then (if 0 ≤ (a1.size : Int) then (if (a1.size : Int) ≤ (a0.size : Int) then (some (a0.extract ((a1.size : Int) : Int).toNat a0.size)) else (none)) else (none)) else (some a0))
set_option maxHeartbeats 8000000 in
set_option maxRecDepth 100000 in
theorem stringslite_TrimPrefix.calls (a0 : ByteArray) (a1 : ByteArray) (r : ByteArray) (w : World) (h : stringslite_TrimPrefix.f a0 a1 = some r) :
    Calls Tryz.prog 46 #[.string a0, .string a1] w fun e w' => e = .returned (.string r) ∧ Drawn0 w w' := by
  have H : ((stringslite_HasPrefix.f a0 a1).bind fun t144 => (if t144 = true then (if 0 ≤ (a1.size : Int) then (if (a1.size : Int) ≤ (a0.size : Int) then (some (a0.extract ((a1.size : Int) : Int).toNat a0.size)) else (none)) else (none)) else (some a0))) = some r := h
  clear h
  replace H := Option.bind_eq_some_iff.mp H
  obtain ⟨t144, A30, H⟩ := H
  replace H : (if t144 = true then (if 0 ≤ (a1.size : Int) then (if (a1.size : Int) ≤ (a0.size : Int) then (some (a0.extract ((a1.size : Int) : Int).toNat a0.size)) else (none)) else (none)) else (some a0)) = some r := H
  have A3 := Aside0.mk A30
  clear A30
  by_cases c4 : t144 = true
  · subst c4
    have H1 : (if 0 ≤ (a1.size : Int) then (if (a1.size : Int) ≤ (a0.size : Int) then (some (a0.extract ((a1.size : Int) : Int).toNat a0.size)) else (none)) else (none)) = some r := by rw [if_pos rfl] at H; exact H
    clear H
    have H := H1
    clear H1
    by_cases c5 : 0 ≤ (a1.size : Int)
    · rw [if_pos c5] at H
      have c5b0 := eq_true c5
      have c5b1 : decide (0 ≤ (a1.size : Int)) = true := decide_eq_true c5
      clear c5
      by_cases c6 : (a1.size : Int) ≤ (a0.size : Int)
      · rw [if_pos c6] at H
        have c6b0 := eq_true c6
        have c6b1 : decide ((a1.size : Int) ≤ (a0.size : Int)) = true := decide_eq_true c6
        clear c6
        obtain rfl := Option.some.inj H
        go_enter Tryz.func46, Tryz.ntmps46
        go_wp2_with (first | ((with_reducible refine gate_callee (f := 59) rfl ?_); refine goesL_ (some 7) rfl rfl Tryz.func59 (by kernel_rfl) rfl #[.string a0, .string a1] rfl (by (try simp only [List.map_toArray, List.map_cons, List.map_nil]); first | done | rfl | (simp only [List.length_drop, List.length_take]; rfl)) ?_; (with_reducible refine (stringslite_HasPrefix.calls a0 a1 true _ A3.out).mono ?_); rintro e w' ⟨rfl, ⟨nd, rfl⟩⟩; refine ⟨_, rfl, ?_⟩))
        go_ret
        exact ⟨by first | rfl | (simp; done) | (simp [*]; done), by repeat (first | exact Drawn0.refl _ | apply Drawn0.step)⟩
      · rw [if_neg c6] at H
        exact absurd H (by simp)
    · rw [if_neg c5] at H
      exact absurd H (by simp)
  · replace c4 := Bool.eq_false_iff.mpr c4
    subst c4
    have H1 : (some a0) = some r := by rw [if_neg (show ¬ (false = true) by decide)] at H; exact H
    clear H
    have H := H1
    clear H1
    obtain rfl := Option.some.inj H
    go_enter Tryz.func46, Tryz.ntmps46
    go_wp2_with (first | ((with_reducible refine gate_callee (f := 59) rfl ?_); refine goesL_ (some 7) rfl rfl Tryz.func59 (by kernel_rfl) rfl #[.string a0, .string a1] rfl (by (try simp only [List.map_toArray, List.map_cons, List.map_nil]); first | done | rfl | (simp only [List.length_drop, List.length_take]; rfl)) ?_; (with_reducible refine (stringslite_HasPrefix.calls a0 a1 false _ A3.out).mono ?_); rintro e w' ⟨rfl, ⟨nd, rfl⟩⟩; refine ⟨_, rfl, ?_⟩))
    go_ret
    exact ⟨by first | rfl | (simp; done) | (simp [*]; done), by repeat (first | exact Drawn0.refl _ | apply Drawn0.step)⟩

/-! ### strings_TrimPrefix: function 37 -/
def strings_TrimPrefix.f (a0 : ByteArray) (a1 : ByteArray) : Option (ByteArray) := (stringslite_TrimPrefix.f a0 a1).bind fun t145 => (some t145)
set_option maxHeartbeats 8000000 in
set_option maxRecDepth 100000 in
theorem strings_TrimPrefix.calls (a0 : ByteArray) (a1 : ByteArray) (r : ByteArray) (w : World) (h : strings_TrimPrefix.f a0 a1 = some r) :
    Calls Tryz.prog 37 #[.string a0, .string a1] w fun e w' => e = .returned (.string r) ∧ Drawn0 w w' := by
  have H : ((stringslite_TrimPrefix.f a0 a1).bind fun t145 => (some t145)) = some r := h
  clear h
  replace H := Option.bind_eq_some_iff.mp H
  obtain ⟨t145, A30, H⟩ := H
  replace H : (some t145) = some r := H
  have A3 := Aside0.mk A30
  clear A30
  obtain rfl := Option.some.inj H
  go_enter Tryz.func37, Tryz.ntmps37
  go_wp2_with (first | ((with_reducible refine gate_callee (f := 46) rfl ?_); refine goesL_ (some 7) rfl rfl Tryz.func46 (by kernel_rfl) rfl #[.string a0, .string a1] rfl (by (try simp only [List.map_toArray, List.map_cons, List.map_nil]); first | done | rfl | (simp only [List.length_drop, List.length_take]; rfl)) ?_; (with_reducible refine (stringslite_TrimPrefix.calls a0 a1 t145 _ A3.out).mono ?_); rintro e w' ⟨rfl, ⟨nd, rfl⟩⟩; refine ⟨_, rfl, ?_⟩))
  go_ret
  exact ⟨by first | rfl | (simp; done) | (simp [*]; done), by repeat (first | exact Drawn0.refl _ | apply Drawn0.step)⟩

-- NOT PRINTED: function 73 (semver_zzIndexRune)

-- NOT PRINTED: function 60 (semver_zzContainsRune)

-- NOT PRINTED: function 51 (semver_containsOnly)

-- NOT PRINTED: function 49 (semver_validateMetadata)

-- NOT PRINTED: function 50 (semver_validatePrerelease)

/-! ### semver_zzDigits: function 64 -/
def semver_zzDigits.l0 : Nat → ByteArray → Int → Option (Int)
  | 0, _, _ => none
  | k + 1, x0, x1 => if x1 < (x0.size : Int) then (if 0 ≤ x1 then (if (bt x0 x1) ≥ 48 then (if (bt x0 x1) ≤ 57 then (semver_zzDigits.l0 k x0 (wrap64 (x1 + 1))) else (some x1)) else (some x1)) else (none)) else (some x1)
def semver_zzDigits.f (k : Nat) (a0 : ByteArray) (a1 : Int) : Option (Int) := semver_zzDigits.l0 k a0 a1
theorem semver_zzDigits.mono_l : ∀ k, (∀ y0 y1, LeO (semver_zzDigits.l0 k y0 y1) (semver_zzDigits.l0 (k + 1) y0 y1))
  | 0 => fun _ _ r h => by simp [semver_zzDigits.l0] at h
  | k + 1 => by
    have ih0 := semver_zzDigits.mono_l k
    · intro y0 y1
      unfold semver_zzDigits.l0
      repeat' first
      | (with_reducible exact ih0 _ _)
      | (with_reducible exact LeO.refl _)
      | (with_reducible exact LeO.none _)
      | (with_reducible refine LeO.ite ?_ ?_)
      | (with_reducible refine LeO.bind ?_ (fun _ => ?_))
      | exact ih0 _ _
      | exact LeO.none _
      | refine LeO.ite ?_ ?_
      | refine LeO.bind ?_ (fun _ => ?_)
theorem semver_zzDigits.mono : ∀ a0 a1 k, LeO (semver_zzDigits.f k a0 a1) (semver_zzDigits.f (k + 1) a0 a1) := by
  intro a0 a1 k
  have ih0 := semver_zzDigits.mono_l k
  unfold semver_zzDigits.f
  repeat' first
      | (with_reducible exact ih0 _ _)
      | (with_reducible exact LeO.refl _)
      | (with_reducible exact LeO.none _)
      | (with_reducible refine LeO.ite ?_ ?_)
      | (with_reducible refine LeO.bind ?_ (fun _ => ?_))
      | exact ih0 _ _
      | exact LeO.none _
      | refine LeO.ite ?_ ?_
      | refine LeO.bind ?_ (fun _ => ?_)
set_option maxHeartbeats 8000000 in
set_option maxRecDepth 100000 in
theorem semver_zzDigits.calls (k : Nat) (a0 : ByteArray) (a1 : Int) (r : Int) (w : World) (h : semver_zzDigits.f k a0 a1 = some r) :
    Calls Tryz.prog 64 #[.string a0, .int .i64 a1] w fun e w' => e = .returned (.int .i64 r) ∧ Drawn0 w w' := by
  have H : (semver_zzDigits.l0 k a0 a1) = some r := h
  clear h
  have H' := Aside0.mk H
  clear H
  go_enter Tryz.func64, Tryz.ntmps64
  go_wp2
  go_loopg [1] k (fun kq v1 w' => ∃ (x1_1 : Int), v1 = .int .i64 x1_1 ∧ Aside0 (semver_zzDigits.l0 kq a0 x1_1 = some r) ∧ Aside0 (kq ≤ k) ∧ Drawn0 w w')
  case atStart => exact ⟨(a1), (by first | rfl | (simp; done) | (simp [*]; done)), H', ⟨Nat.le_refl _⟩, by repeat (first | exact Drawn0.refl _ | apply Drawn0.step)⟩
  case round =>
    clear H'
    try clear p2
    obtain ⟨x1_1, rfl, HA, HK1, ⟨m1, rfl⟩⟩ := hrel
    cases gk with
    | zero => exact absurd HA.out (by simp [semver_zzDigits.l0])
    | succ k1 =>
      have H := HA.out
      clear HA
      simp only [semver_zzDigits.l0] at H
      by_cases c3 : x1_1 < (a0.size : Int)
      · rw [if_pos c3] at H
        have c3b0 : decide (x1_1 < (a0.size : Int)) = true := decide_eq_true c3
        clear c3
        by_cases c4 : 0 ≤ x1_1
        · rw [if_pos c4] at H
          have c4b0 : decide (0 ≤ x1_1) = true := decide_eq_true c4
          clear c4
          by_cases c6 : (bt a0 x1_1) ≥ 48
          · rw [if_pos c6] at H
            have c6b0 : decide (48 ≤ (bt a0 x1_1)) = true := decide_eq_true c6
            clear c6
            by_cases c8 : (bt a0 x1_1) ≤ 57
            · rw [if_pos c8] at H
              have c8b0 : decide ((bt a0 x1_1) ≤ 57) = true := decide_eq_true c8
              clear c8
              have H' := Aside0.mk H
              clear H
              have p5 : 0 ≤ (x1_1 : Int) := of_decide_eq_true (by first | (with_reducible assumption) | assumption)
              have q5 : x1_1 < (a0.size : Int) := of_decide_eq_true (by first | (with_reducible assumption) | assumption)
              have hx5 := bt_at a0 x1_1
              replace p5 := eq_true p5
              replace q5 := eq_true q5
              have p7 : 0 ≤ (x1_1 : Int) := of_decide_eq_true (by first | (with_reducible assumption) | assumption)
              have q7 : x1_1 < (a0.size : Int) := of_decide_eq_true (by first | (with_reducible assumption) | assumption)
              have hx7 := bt_at a0 x1_1
              replace p7 := eq_true p7
              replace q7 := eq_true q7
              go_wp2
              go_roundg k1
              case measure => have := HK1.out; omega
              case rel => exact ⟨(wrap64 (x1_1 + 1)), (by first | rfl | (simp; done) | (simp [*]; done)), H', ⟨by have := HK1.out; omega⟩, by repeat (first | exact Drawn0.refl _ | apply Drawn0.step)⟩
            · rw [if_neg c8] at H
              have c8b0 : decide ((bt a0 x1_1) ≤ 57) = false := decide_eq_false c8
              clear c8
              obtain rfl := Option.some.inj H
              have p5 : 0 ≤ (x1_1 : Int) := of_decide_eq_true (by first | (with_reducible assumption) | assumption)
              have q5 : x1_1 < (a0.size : Int) := of_decide_eq_true (by first | (with_reducible assumption) | assumption)
              have hx5 := bt_at a0 x1_1
              replace p5 := eq_true p5
              replace q5 := eq_true q5
              have p7 : 0 ≤ (x1_1 : Int) := of_decide_eq_true (by first | (with_reducible assumption) | assumption)
              have q7 : x1_1 < (a0.size : Int) := of_decide_eq_true (by first | (with_reducible assumption) | assumption)
              have hx7 := bt_at a0 x1_1
              replace p7 := eq_true p7
              replace q7 := eq_true q7
              go_wp2
              go_ret
              exact ⟨by first | rfl | (simp; done) | (simp [*]; done), by repeat (first | exact Drawn0.refl _ | apply Drawn0.step)⟩
          · rw [if_neg c6] at H
            have c6b0 : decide (48 ≤ (bt a0 x1_1)) = false := decide_eq_false c6
            clear c6
            obtain rfl := Option.some.inj H
            have p5 : 0 ≤ (x1_1 : Int) := of_decide_eq_true (by first | (with_reducible assumption) | assumption)
            have q5 : x1_1 < (a0.size : Int) := of_decide_eq_true (by first | (with_reducible assumption) | assumption)
            have hx5 := bt_at a0 x1_1
            replace p5 := eq_true p5
            replace q5 := eq_true q5
            go_wp2
            go_ret
            exact ⟨by first | rfl | (simp; done) | (simp [*]; done), by repeat (first | exact Drawn0.refl _ | apply Drawn0.step)⟩
        · rw [if_neg c4] at H
          exact absurd H (by simp)
      · rw [if_neg c3] at H
        have c3b0 : decide (x1_1 < (a0.size : Int)) = false := decide_eq_false c3
        clear c3
        obtain rfl := Option.some.inj H
        go_wp2
        go_ret
        exact ⟨by first | rfl | (simp; done) | (simp [*]; done), by repeat (first | exact Drawn0.refl _ | apply Drawn0.step)⟩

/-! ### semver_isX: function 36 -/
def semver_isX.f (a0 : ByteArray) : Option (Bool) := if a0.toList = ([120] : List UInt8) then (some true) else (if a0.toList = ([42] : List UInt8) then (some true) else (if a0.toList = ([88] : List UInt8) then (some true) else (some false)))
set_option maxHeartbeats 8000000 in
set_option maxRecDepth 100000 in
theorem semver_isX.calls (a0 : ByteArray) (r : Bool) (w : World) (h : semver_isX.f a0 = some r) :
    Calls Tryz.prog 36 #[.string a0] w fun e w' => e = .returned (.bool r) ∧ Drawn0 w w' := by
  have H : (if a0.toList = ([120] : List UInt8) then (some true) else (if a0.toList = ([42] : List UInt8) then (some true) else (if a0.toList = ([88] : List UInt8) then (some true) else (some false)))) = some r := h
  clear h
  by_cases c2 : a0.toList = ([120] : List UInt8)
  · rw [if_pos c2] at H
    have c2b0 : (a0.toList == ([120] : List UInt8)) = true := beq_iff_eq.mpr c2
    have c2b1 : (a0.toList != ([120] : List UInt8)) = false := bne_eq_false_iff_eq.mpr c2
    clear c2
    obtain rfl := Option.some.inj H
    go_enter Tryz.func36, Tryz.ntmps36
    go_wp2
    go_ret
    exact ⟨by first | rfl | (simp; done) | (simp [*]; done), by repeat (first | exact Drawn0.refl _ | apply Drawn0.step)⟩
  · rw [if_neg c2] at H
    have c2b0 : (a0.toList == ([120] : List UInt8)) = false := beq_eq_false_iff_ne.mpr c2
    have c2b1 : (a0.toList != ([120] : List UInt8)) = true := bne_iff_ne.mpr c2
    by_cases c3 : a0.toList = ([42] : List UInt8)
    · rw [if_pos c3] at H
      have c3b0 : (a0.toList == ([42] : List UInt8)) = true := beq_iff_eq.mpr c3
      have c3b1 : (a0.toList != ([42] : List UInt8)) = false := bne_eq_false_iff_eq.mpr c3
      clear c3
      obtain rfl := Option.some.inj H
      go_enter Tryz.func36, Tryz.ntmps36
      go_wp2
      go_ret
      exact ⟨by first | rfl | (simp; done) | (simp [*]; done), by repeat (first | exact Drawn0.refl _ | apply Drawn0.step)⟩
    · rw [if_neg c3] at H
      have c3b0 : (a0.toList == ([42] : List UInt8)) = false := beq_eq_false_iff_ne.mpr c3
      have c3b1 : (a0.toList != ([42] : List UInt8)) = true := bne_iff_ne.mpr c3
      by_cases c4 : a0.toList = ([88] : List UInt8)
      · rw [if_pos c4] at H
        have c4b0 : (a0.toList == ([88] : List UInt8)) = true := beq_iff_eq.mpr c4
        have c4b1 : (a0.toList != ([88] : List UInt8)) = false := bne_eq_false_iff_eq.mpr c4
        clear c4
        obtain rfl := Option.some.inj H
        go_enter Tryz.func36, Tryz.ntmps36
        go_wp2
        go_ret
        exact ⟨by first | rfl | (simp; done) | (simp [*]; done), by repeat (first | exact Drawn0.refl _ | apply Drawn0.step)⟩
      · rw [if_neg c4] at H
        have c4b0 : (a0.toList == ([88] : List UInt8)) = false := beq_eq_false_iff_ne.mpr c4
        have c4b1 : (a0.toList != ([88] : List UInt8)) = true := bne_iff_ne.mpr c4
        obtain rfl := Option.some.inj H
        go_enter Tryz.func36, Tryz.ntmps36
        go_wp2
        go_ret
        exact ⟨by first | rfl | (simp; done) | (simp [*]; done), by repeat (first | exact Drawn0.refl _ | apply Drawn0.step)⟩

-- NOT PRINTED: function 47 (semver_zzSplitN)

/-! ### semver_zzContains: function 48 -/
def semver_zzContains.f (k : Nat) (a0 : ByteArray) (a1 : ByteArray) : Option (Bool) := (semver_zzIndex.f k a0 a1).bind fun t214 => (some (decide (t214 ≥ 0)))
theorem semver_zzContains.mono : ∀ a0 a1 k, LeO (semver_zzContains.f k a0 a1) (semver_zzContains.f (k + 1) a0 a1) := by
  intro a0 a1 k
  unfold semver_zzContains.f
  repeat' first
      | (with_reducible exact semver_zzIndex.mono _ _ _)
      | (with_reducible exact LeO.refl _)
      | (with_reducible exact LeO.none _)
      | (with_reducible refine LeO.ite ?_ ?_)
      | (with_reducible refine LeO.bind ?_ (fun _ => ?_))
      | exact semver_zzIndex.mono _ _ _
      | exact LeO.none _
      | refine LeO.ite ?_ ?_
      | refine LeO.bind ?_ (fun _ => ?_)
set_option maxHeartbeats 8000000 in
set_option maxRecDepth 100000 in
theorem semver_zzContains.calls (k : Nat) (a0 : ByteArray) (a1 : ByteArray) (r : Bool) (w : World) (h : semver_zzContains.f k a0 a1 = some r) :
    Calls Tryz.prog 48 #[.string a0, .string a1] w fun e w' => e = .returned (.bool r) ∧ Drawn0 w w' := by
  have H : ((semver_zzIndex.f k a0 a1).bind fun t214 => (some (decide (t214 ≥ 0)))) = some r := h
  clear h
  replace H := Option.bind_eq_some_iff.mp H
  obtain ⟨t214, A30, H⟩ := H
  replace H : (some (decide (t214 ≥ 0))) = some r := H
  have A3 := Aside0.mk A30
  clear A30
  obtain rfl := Option.some.inj H
  go_enter Tryz.func48, Tryz.ntmps48
  go_wp2_with (first | ((with_reducible refine gate_callee (f := 34) rfl ?_); refine goesL_ (some 7) rfl rfl Tryz.func34 (by kernel_rfl) rfl #[.string a0, .string a1] rfl (by (try simp only [List.map_toArray, List.map_cons, List.map_nil]); first | done | rfl | (simp only [List.length_drop, List.length_take]; rfl)) ?_; (with_reducible refine (semver_zzIndex.calls k a0 a1 t214 _ A3.out).mono ?_); rintro e w' ⟨rfl, ⟨nd, rfl⟩⟩; refine ⟨_, rfl, ?_⟩))
  go_ret
  exact ⟨by first | rfl | (simp; done) | (simp [*]; done), by repeat (first | exact Drawn0.refl _ | apply Drawn0.step)⟩

-- NOT PRINTED: function 38 (semver_StrictNewVersion)

-- NOT PRINTED: function 23 (semver_parseConstraint)

-- NOT PRINTED: function 14 (semver_NewConstraint)

/-! ### semver_Version_Prerelease: function 80 -/
def semver_Version_Prerelease.f (a0_0 : Int) (a0_1 : Int) (a0_2 : Int) (a0_3 : ByteArray) (a0_4 : ByteArray) (a0_5 : ByteArray) : Option (ByteArray) := some a0_3
set_option maxHeartbeats 8000000 in
set_option maxRecDepth 100000 in
theorem semver_Version_Prerelease.calls (a0_0 : Int) (a0_1 : Int) (a0_2 : Int) (a0_3 : ByteArray) (a0_4 : ByteArray) (a0_5 : ByteArray) (r : ByteArray) (w : World) (h : semver_Version_Prerelease.f a0_0 a0_1 a0_2 a0_3 a0_4 a0_5 = some r) :
    Calls Tryz.prog 80 #[.agg #[.int .u64 a0_0, .int .u64 a0_1, .int .u64 a0_2, .string a0_3, .string a0_4, .string a0_5]] w fun e w' => e = .returned (.string r) ∧ Below w.heap.size w w' := by
  have hu62 := Tryz.underlying62
  have HB := Aside0.mk (Below.refl w.heap.size w)
  have H : (some a0_3) = some r := h
  clear h
  obtain rfl := Option.some.inj H
  go_enter Tryz.func80, Tryz.ntmps80
  go_wp2_with (first | ((with_reducible refine gate_dst (N := 1) rfl ?_); refine box_event ?hg (N := 1) ?hd (cs := #[.int .u64 a0_0, .int .u64 a0_1, .int .u64 a0_2, .string a0_3, .string a0_4, .string a0_5]) (t := 62) ?hr ?_; (case hd => rfl); (case hg => rfl); (case hr => first | (go_simp; done) | (go_simp; rfl)); intro gb215 hg w2 hbox hb; have n0_ := Aside0.mk (below_step (by repeat (first | (with_reducible first | exact HB.out | apply below_alloc | apply pw_below_drewN | apply below_drew1) | exact HB.out)) hb); have n1_ := Aside0.mk (hbox); have n2_ := Aside0.mk ((by rw [hg]; exact (below_size (by repeat (first | (with_reducible first | exact HB.out | apply below_alloc | apply pw_below_drewN | apply below_drew1) | exact HB.out))) : w.heap.size ≤ gb215)); have n3_ := Aside0.mk ((by rw [hg]; exact (below_size (by repeat (first | (with_reducible first | exact HB.out | apply below_alloc | apply pw_below_drewN | apply below_drew1) | exact HB.out))) : w.heap.size ≤ gb215)); clear HB; have HB := n0_; have BK215 := n1_; have GW215 := n2_; have GE215 := n3_; clear n0_ n1_ n2_ n3_; clear hb hbox hg; have hcz3_0 : w2.cell? ⟨gb215, 0, none⟩ = some (.int .u64 a0_0) := (blk_cell BK215.out 0).trans rfl; have hcz3_1 : w2.cell? ⟨gb215, 1, none⟩ = some (.int .u64 a0_1) := (blk_cell BK215.out 1).trans rfl; have hcz3_2 : w2.cell? ⟨gb215, 2, none⟩ = some (.int .u64 a0_2) := (blk_cell BK215.out 2).trans rfl; have hcz3_3 : w2.cell? ⟨gb215, 3, none⟩ = some (.string a0_3) := (blk_cell BK215.out 3).trans rfl; have hcz3_4 : w2.cell? ⟨gb215, 4, none⟩ = some (.string a0_4) := (blk_cell BK215.out 4).trans rfl; have hcz3_5 : w2.cell? ⟨gb215, 5, none⟩ = some (.string a0_5) := (blk_cell BK215.out 5).trans rfl; have hfz3_0 := blk_frozen BK215.out 0; have hfz3_1 := blk_frozen BK215.out 1; have hfz3_2 := blk_frozen BK215.out 2; have hfz3_3 := blk_frozen BK215.out 3; have hfz3_4 := blk_frozen BK215.out 4; have hfz3_5 := blk_frozen BK215.out 5))
  go_ret
  exact ⟨by first | rfl | (simp [errW_none, errW_some] <;> rfl) | (simp [*, errW_none, errW_some] <;> rfl), by repeat (first | (with_reducible first | exact HB.out | apply below_alloc | apply pw_below_drewN | apply below_drew1 | refine below_set ?_ GE215.out) | exact HB.out)⟩

/-! ### semver_Version_Major: function 82 -/
def semver_Version_Major.f (a0_0 : Int) (a0_1 : Int) (a0_2 : Int) (a0_3 : ByteArray) (a0_4 : ByteArray) (a0_5 : ByteArray) : Option (Int) := some a0_0
set_option maxHeartbeats 8000000 in
set_option maxRecDepth 100000 in
theorem semver_Version_Major.calls (a0_0 : Int) (a0_1 : Int) (a0_2 : Int) (a0_3 : ByteArray) (a0_4 : ByteArray) (a0_5 : ByteArray) (r : Int) (w : World) (h : semver_Version_Major.f a0_0 a0_1 a0_2 a0_3 a0_4 a0_5 = some r) :
    Calls Tryz.prog 82 #[.agg #[.int .u64 a0_0, .int .u64 a0_1, .int .u64 a0_2, .string a0_3, .string a0_4, .string a0_5]] w fun e w' => e = .returned (.int .u64 r) ∧ Below w.heap.size w w' := by
  have hu62 := Tryz.underlying62
  have HB := Aside0.mk (Below.refl w.heap.size w)
  have H : (some a0_0) = some r := h
  clear h
  obtain rfl := Option.some.inj H
  go_enter Tryz.func82, Tryz.ntmps82
  go_wp2_with (first | ((with_reducible refine gate_dst (N := 1) rfl ?_); refine box_event ?hg (N := 1) ?hd (cs := #[.int .u64 a0_0, .int .u64 a0_1, .int .u64 a0_2, .string a0_3, .string a0_4, .string a0_5]) (t := 62) ?hr ?_; (case hd => rfl); (case hg => rfl); (case hr => first | (go_simp; done) | (go_simp; rfl)); intro gb216 hg w2 hbox hb; have n0_ := Aside0.mk (below_step (by repeat (first | (with_reducible first | exact HB.out | apply below_alloc | apply pw_below_drewN | apply below_drew1) | exact HB.out)) hb); have n1_ := Aside0.mk (hbox); have n2_ := Aside0.mk ((by rw [hg]; exact (below_size (by repeat (first | (with_reducible first | exact HB.out | apply below_alloc | apply pw_below_drewN | apply below_drew1) | exact HB.out))) : w.heap.size ≤ gb216)); have n3_ := Aside0.mk ((by rw [hg]; exact (below_size (by repeat (first | (with_reducible first | exact HB.out | apply below_alloc | apply pw_below_drewN | apply below_drew1) | exact HB.out))) : w.heap.size ≤ gb216)); clear HB; have HB := n0_; have BK216 := n1_; have GW216 := n2_; have GE216 := n3_; clear n0_ n1_ n2_ n3_; clear hb hbox hg; have hcz3_0 : w2.cell? ⟨gb216, 0, none⟩ = some (.int .u64 a0_0) := (blk_cell BK216.out 0).trans rfl; have hcz3_1 : w2.cell? ⟨gb216, 1, none⟩ = some (.int .u64 a0_1) := (blk_cell BK216.out 1).trans rfl; have hcz3_2 : w2.cell? ⟨gb216, 2, none⟩ = some (.int .u64 a0_2) := (blk_cell BK216.out 2).trans rfl; have hcz3_3 : w2.cell? ⟨gb216, 3, none⟩ = some (.string a0_3) := (blk_cell BK216.out 3).trans rfl; have hcz3_4 : w2.cell? ⟨gb216, 4, none⟩ = some (.string a0_4) := (blk_cell BK216.out 4).trans rfl; have hcz3_5 : w2.cell? ⟨gb216, 5, none⟩ = some (.string a0_5) := (blk_cell BK216.out 5).trans rfl; have hfz3_0 := blk_frozen BK216.out 0; have hfz3_1 := blk_frozen BK216.out 1; have hfz3_2 := blk_frozen BK216.out 2; have hfz3_3 := blk_frozen BK216.out 3; have hfz3_4 := blk_frozen BK216.out 4; have hfz3_5 := blk_frozen BK216.out 5))
  go_ret
  exact ⟨by first | rfl | (simp [errW_none, errW_some] <;> rfl) | (simp [*, errW_none, errW_some] <;> rfl), by repeat (first | (with_reducible first | exact HB.out | apply below_alloc | apply pw_below_drewN | apply below_drew1 | refine below_set ?_ GE216.out) | exact HB.out)⟩

/-! ### semver_Version_Minor: function 83 -/
def semver_Version_Minor.f (a0_0 : Int) (a0_1 : Int) (a0_2 : Int) (a0_3 : ByteArray) (a0_4 : ByteArray) (a0_5 : ByteArray) : Option (Int) := some a0_1
set_option maxHeartbeats 8000000 in
set_option maxRecDepth 100000 in
theorem semver_Version_Minor.calls (a0_0 : Int) (a0_1 : Int) (a0_2 : Int) (a0_3 : ByteArray) (a0_4 : ByteArray) (a0_5 : ByteArray) (r : Int) (w : World) (h : semver_Version_Minor.f a0_0 a0_1 a0_2 a0_3 a0_4 a0_5 = some r) :
    Calls Tryz.prog 83 #[.agg #[.int .u64 a0_0, .int .u64 a0_1, .int .u64 a0_2, .string a0_3, .string a0_4, .string a0_5]] w fun e w' => e = .returned (.int .u64 r) ∧ Below w.heap.size w w' := by
  have hu62 := Tryz.underlying62
  have HB := Aside0.mk (Below.refl w.heap.size w)
  have H : (some a0_1) = some r := h
  clear h
  obtain rfl := Option.some.inj H
  go_enter Tryz.func83, Tryz.ntmps83
  go_wp2_with (first | ((with_reducible refine gate_dst (N := 1) rfl ?_); refine box_event ?hg (N := 1) ?hd (cs := #[.int .u64 a0_0, .int .u64 a0_1, .int .u64 a0_2, .string a0_3, .string a0_4, .string a0_5]) (t := 62) ?hr ?_; (case hd => rfl); (case hg => rfl); (case hr => first | (go_simp; done) | (go_simp; rfl)); intro gb217 hg w2 hbox hb; have n0_ := Aside0.mk (below_step (by repeat (first | (with_reducible first | exact HB.out | apply below_alloc | apply pw_below_drewN | apply below_drew1) | exact HB.out)) hb); have n1_ := Aside0.mk (hbox); have n2_ := Aside0.mk ((by rw [hg]; exact (below_size (by repeat (first | (with_reducible first | exact HB.out | apply below_alloc | apply pw_below_drewN | apply below_drew1) | exact HB.out))) : w.heap.size ≤ gb217)); have n3_ := Aside0.mk ((by rw [hg]; exact (below_size (by repeat (first | (with_reducible first | exact HB.out | apply below_alloc | apply pw_below_drewN | apply below_drew1) | exact HB.out))) : w.heap.size ≤ gb217)); clear HB; have HB := n0_; have BK217 := n1_; have GW217 := n2_; have GE217 := n3_; clear n0_ n1_ n2_ n3_; clear hb hbox hg; have hcz3_0 : w2.cell? ⟨gb217, 0, none⟩ = some (.int .u64 a0_0) := (blk_cell BK217.out 0).trans rfl; have hcz3_1 : w2.cell? ⟨gb217, 1, none⟩ = some (.int .u64 a0_1) := (blk_cell BK217.out 1).trans rfl; have hcz3_2 : w2.cell? ⟨gb217, 2, none⟩ = some (.int .u64 a0_2) := (blk_cell BK217.out 2).trans rfl; have hcz3_3 : w2.cell? ⟨gb217, 3, none⟩ = some (.string a0_3) := (blk_cell BK217.out 3).trans rfl; have hcz3_4 : w2.cell? ⟨gb217, 4, none⟩ = some (.string a0_4) := (blk_cell BK217.out 4).trans rfl; have hcz3_5 : w2.cell? ⟨gb217, 5, none⟩ = some (.string a0_5) := (blk_cell BK217.out 5).trans rfl; have hfz3_0 := blk_frozen BK217.out 0; have hfz3_1 := blk_frozen BK217.out 1; have hfz3_2 := blk_frozen BK217.out 2; have hfz3_3 := blk_frozen BK217.out 3; have hfz3_4 := blk_frozen BK217.out 4; have hfz3_5 := blk_frozen BK217.out 5))
  go_ret
  exact ⟨by first | rfl | (simp [errW_none, errW_some] <;> rfl) | (simp [*, errW_none, errW_some] <;> rfl), by repeat (first | (with_reducible first | exact HB.out | apply below_alloc | apply pw_below_drewN | apply below_drew1 | refine below_set ?_ GE217.out) | exact HB.out)⟩

/-! ### semver_Version_Patch: function 84 -/
def semver_Version_Patch.f (a0_0 : Int) (a0_1 : Int) (a0_2 : Int) (a0_3 : ByteArray) (a0_4 : ByteArray) (a0_5 : ByteArray) : Option (Int) := some a0_2
set_option maxHeartbeats 8000000 in
set_option maxRecDepth 100000 in
theorem semver_Version_Patch.calls (a0_0 : Int) (a0_1 : Int) (a0_2 : Int) (a0_3 : ByteArray) (a0_4 : ByteArray) (a0_5 : ByteArray) (r : Int) (w : World) (h : semver_Version_Patch.f a0_0 a0_1 a0_2 a0_3 a0_4 a0_5 = some r) :
    Calls Tryz.prog 84 #[.agg #[.int .u64 a0_0, .int .u64 a0_1, .int .u64 a0_2, .string a0_3, .string a0_4, .string a0_5]] w fun e w' => e = .returned (.int .u64 r) ∧ Below w.heap.size w w' := by
  have hu62 := Tryz.underlying62
  have HB := Aside0.mk (Below.refl w.heap.size w)
  have H : (some a0_2) = some r := h
  clear h
  obtain rfl := Option.some.inj H
  go_enter Tryz.func84, Tryz.ntmps84
  go_wp2_with (first | ((with_reducible refine gate_dst (N := 1) rfl ?_); refine box_event ?hg (N := 1) ?hd (cs := #[.int .u64 a0_0, .int .u64 a0_1, .int .u64 a0_2, .string a0_3, .string a0_4, .string a0_5]) (t := 62) ?hr ?_; (case hd => rfl); (case hg => rfl); (case hr => first | (go_simp; done) | (go_simp; rfl)); intro gb218 hg w2 hbox hb; have n0_ := Aside0.mk (below_step (by repeat (first | (with_reducible first | exact HB.out | apply below_alloc | apply pw_below_drewN | apply below_drew1) | exact HB.out)) hb); have n1_ := Aside0.mk (hbox); have n2_ := Aside0.mk ((by rw [hg]; exact (below_size (by repeat (first | (with_reducible first | exact HB.out | apply below_alloc | apply pw_below_drewN | apply below_drew1) | exact HB.out))) : w.heap.size ≤ gb218)); have n3_ := Aside0.mk ((by rw [hg]; exact (below_size (by repeat (first | (with_reducible first | exact HB.out | apply below_alloc | apply pw_below_drewN | apply below_drew1) | exact HB.out))) : w.heap.size ≤ gb218)); clear HB; have HB := n0_; have BK218 := n1_; have GW218 := n2_; have GE218 := n3_; clear n0_ n1_ n2_ n3_; clear hb hbox hg; have hcz3_0 : w2.cell? ⟨gb218, 0, none⟩ = some (.int .u64 a0_0) := (blk_cell BK218.out 0).trans rfl; have hcz3_1 : w2.cell? ⟨gb218, 1, none⟩ = some (.int .u64 a0_1) := (blk_cell BK218.out 1).trans rfl; have hcz3_2 : w2.cell? ⟨gb218, 2, none⟩ = some (.int .u64 a0_2) := (blk_cell BK218.out 2).trans rfl; have hcz3_3 : w2.cell? ⟨gb218, 3, none⟩ = some (.string a0_3) := (blk_cell BK218.out 3).trans rfl; have hcz3_4 : w2.cell? ⟨gb218, 4, none⟩ = some (.string a0_4) := (blk_cell BK218.out 4).trans rfl; have hcz3_5 : w2.cell? ⟨gb218, 5, none⟩ = some (.string a0_5) := (blk_cell BK218.out 5).trans rfl; have hfz3_0 := blk_frozen BK218.out 0; have hfz3_1 := blk_frozen BK218.out 1; have hfz3_2 := blk_frozen BK218.out 2; have hfz3_3 := blk_frozen BK218.out 3; have hfz3_4 := blk_frozen BK218.out 4; have hfz3_5 := blk_frozen BK218.out 5))
  go_ret
  exact ⟨by first | rfl | (simp [errW_none, errW_some] <;> rfl) | (simp [*, errW_none, errW_some] <;> rfl), by repeat (first | (with_reducible first | exact HB.out | apply below_alloc | apply pw_below_drewN | apply below_drew1 | refine below_set ?_ GE218.out) | exact HB.out)⟩

-- NOT PRINTED: function 90 (semver_comparePrePart)

-- NOT PRINTED: function 85 (semver_comparePrerelease)

/-! ### semver_compareSegment: function 91 -/
def semver_compareSegment.f (a0 : Int) (a1 : Int) : Option (Int) := if a0 < a1 then (some (-1)) else (if a0 > a1 then (some 1) else (some 0))
set_option maxHeartbeats 8000000 in
set_option maxRecDepth 100000 in
theorem semver_compareSegment.calls (a0 : Int) (a1 : Int) (r : Int) (w : World) (h : semver_compareSegment.f a0 a1 = some r) :
    Calls Tryz.prog 91 #[.int .u64 a0, .int .u64 a1] w fun e w' => e = .returned (.int .i64 r) ∧ Drawn0 w w' := by
  have H : (if a0 < a1 then (some (-1)) else (if a0 > a1 then (some 1) else (some 0))) = some r := h
  clear h
  by_cases c3 : a0 < a1
  · rw [if_pos c3] at H
    have c3b0 : decide (a0 < a1) = true := decide_eq_true c3
    clear c3
    obtain rfl := Option.some.inj H
    go_enter Tryz.func91, Tryz.ntmps91
    go_wp2
    go_ret
    exact ⟨by first | rfl | (simp; done) | (simp [*]; done), by repeat (first | exact Drawn0.refl _ | apply Drawn0.step)⟩
  · rw [if_neg c3] at H
    have c3b0 : decide (a0 < a1) = false := decide_eq_false c3
    clear c3
    by_cases c4 : a0 > a1
    · rw [if_pos c4] at H
      have c4b0 : decide (a1 < a0) = true := decide_eq_true c4
      clear c4
      obtain rfl := Option.some.inj H
      go_enter Tryz.func91, Tryz.ntmps91
      go_wp2
      go_ret
      exact ⟨by first | rfl | (simp; done) | (simp [*]; done), by repeat (first | exact Drawn0.refl _ | apply Drawn0.step)⟩
    · rw [if_neg c4] at H
      have c4b0 : decide (a1 < a0) = false := decide_eq_false c4
      clear c4
      obtain rfl := Option.some.inj H
      go_enter Tryz.func91, Tryz.ntmps91
      go_wp2
      go_ret
      exact ⟨by first | rfl | (simp; done) | (simp [*]; done), by repeat (first | exact Drawn0.refl _ | apply Drawn0.step)⟩

-- NOT PRINTED: function 86 (semver_Version_Compare)

-- NOT PRINTED: function 87 (semver_Version_LessThan)

-- NOT PRINTED: function 71 (semver_constraintTilde)

-- NOT PRINTED: function 81 (semver_Version_Equal)

-- NOT PRINTED: function 65 (semver_constraintTildeOrEqual)

-- NOT PRINTED: function 66 (semver_constraintNotEqual)

-- NOT PRINTED: function 67 (semver_constraintGreaterThan)

-- NOT PRINTED: function 68 (semver_constraintLessThan)

-- NOT PRINTED: function 69 (semver_constraintGreaterThanEqual)

-- NOT PRINTED: function 70 (semver_constraintLessThanEqual)

-- NOT PRINTED: function 72 (semver_constraintCaret)

-- NOT PRINTED: function 56 (semver_zzOp)

-- NOT PRINTED: function 42 (semver_constraint_check)

-- NOT PRINTED: function 30 (semver_Constraints_Check)

-- NOT PRINTED: function 17 (sprig_semverCompare)

-- NOT PRINTED: function 13 (sprig_SemverCompare)

-- NOT PRINTED: function 9 (impl_SemverCompare)

-- NOT PRINTED: function 24 (strings_Builder_Reset)

-- NOT PRINTED: function 53 (abi_NoEscape)

-- NOT PRINTED: function 39 (strings_Builder_copyCheck)

-- NOT PRINTED: function 25 (strings_Builder_WriteString)

-- NOT PRINTED: function 26 (semver_constraint_string)

-- NOT PRINTED: function 27 (strings_Builder_String)

-- NOT PRINTED: function 63 (bytealg_MakeNoZero)

-- NOT PRINTED: function 54 (strings_Builder_grow)

-- NOT PRINTED: function 40 (strings_Builder_Grow)

-- NOT PRINTED: function 28 (strings_Join)

-- NOT PRINTED: function 15 (semver_Constraints_String)

-- NOT PRINTED: function 10 (impl_ConstraintText)

-- NOT PRINTED: function 3 (laws_FnSemverEither)




end Go.Proofs.YtoebognfkigooaaGreatDoor.PFnSemverEither
