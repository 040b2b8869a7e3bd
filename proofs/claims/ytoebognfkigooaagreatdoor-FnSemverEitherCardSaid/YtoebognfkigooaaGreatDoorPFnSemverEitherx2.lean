-- PRINTED BY print.sh 35421559b90ae4d0a3588c463048766b98c2df88dd9212a6774a882060cdf62d: not written by this session
import Derived.Test.YtoebognfkigooaaGreatDoorPFnSemverEitherx1
namespace Go.Proofs.YtoebognfkigooaaGreatDoor.PFnSemverEither
open Go.RowKit Go.Proofs.YtoebognfkigooaaGreatDoorW.PrintWords Go.Proofs.YtoebognfkigooaaGreatDoorW.PrintLast Go.Proofs.YtoebognfkigooaaGreatDoorW.PrintMore
attribute [local go_sem] max2_int min2_int max_two min_two max_three min_three max_four min_four   -- for this text's walks alone
set_option linter.unusedVariables false
set_option linter.unusedSimpArgs false

-- NOT PRINTED: function 41 (semver_coerceNewVersion)

-- NOT PRINTED: function 29 (semver_NewVersion)

/-! ### laws_zzFits2: function 4 -/
def laws_zzFits2.l0 : Nat → List ByteArray → Int → Int → Option (Bool)
  | 0, _, _, _ => none
  | k + 1, x8, x9, x10 => if x10 < x9 then (if 0 ≤ x10 then (if x10 < (x8.length : Int) then (if ((rdOf ByteArray.empty x8 x10).size : Int) > 2147483647 then (some false) else (laws_zzFits2.l0 k x8 x9 (wrap64 (x10 + 1)))) else (none)) else (none)) else (some true)
def laws_zzFits2.f (k : Nat) (l0 : List ByteArray) : Option (Bool) := if (l0.length : Int) > 2147483647 then (some false) else (laws_zzFits2.l0 k l0 (l0.length : Int) 0)
theorem laws_zzFits2.mono_l : ∀ k, (∀ y0 y1 y2, LeO (laws_zzFits2.l0 k y0 y1 y2) (laws_zzFits2.l0 (k + 1) y0 y1 y2))
  | 0 => fun _ _ _ r h => by simp [laws_zzFits2.l0] at h
  | k + 1 => by
    have ih0 := laws_zzFits2.mono_l k
    · intro y0 y1 y2
      unfold laws_zzFits2.l0
      repeat' first
      | (with_reducible exact ih0 _ _ _)
      | (with_reducible exact LeO.refl _)
      | (with_reducible exact LeO.none _)
      | (with_reducible refine LeO.ite ?_ ?_)
      | (with_reducible refine LeO.bind ?_ (fun _ => ?_))
      | exact ih0 _ _ _
      | exact LeO.none _
      | refine LeO.ite ?_ ?_
      | refine LeO.bind ?_ (fun _ => ?_)
theorem laws_zzFits2.mono : ∀ a0 k, LeO (laws_zzFits2.f k a0) (laws_zzFits2.f (k + 1) a0) := by
  intro a0 k
  have ih0 := laws_zzFits2.mono_l k
  unfold laws_zzFits2.f
  repeat' first
      | (with_reducible exact ih0 _ _ _)
      | (with_reducible exact LeO.refl _)
      | (with_reducible exact LeO.none _)
      | (with_reducible refine LeO.ite ?_ ?_)
      | (with_reducible refine LeO.bind ?_ (fun _ => ?_))
      | exact ih0 _ _ _
      | exact LeO.none _
      | refine LeO.ite ?_ ?_
      | refine LeO.bind ?_ (fun _ => ?_)
set_option maxHeartbeats 8000000 in
set_option maxRecDepth 100000 in
theorem laws_zzFits2.calls (k : Nat) (A0 : Option Addr) (c0 : Nat) (l0 : List ByteArray) (r : Bool) (w : World) (hr0 : Kd.C Kd.string w A0 l0.length l0) (hc0 : l0.length ≤ c0) (h : laws_zzFits2.f k l0 = some r) :
    Calls Tryz.prog 4 #[.slice A0 l0.length c0] w fun e w' => e = .returned (.bool r) ∧ Drawn0 w w' := by
  have HR0 := Aside0.mk hr0
  have HC0 := Aside0.mk hc0
  clear hr0 hc0
  have H : (if (l0.length : Int) > 2147483647 then (some false) else (laws_zzFits2.l0 k l0 (l0.length : Int) 0)) = some r := h
  clear h
  by_cases c2 : (l0.length : Int) > 2147483647
  · rw [if_pos c2] at H
    have c2b0 : decide (2147483647 < (l0.length : Int)) = true := decide_eq_true c2
    have c2b1 : decide (2147483647 < l0.length) = true := decide_eq_true (by omega)
    clear c2
    obtain rfl := Option.some.inj H
    go_enter Tryz.func4, Tryz.ntmps4
    go_wp2
    go_ret
    exact ⟨by first | rfl | (simp; done) | (simp [*]; done), by repeat (first | exact Drawn0.refl _ | apply Drawn0.step)⟩
  · rw [if_neg c2] at H
    have c2b0 : decide (2147483647 < (l0.length : Int)) = false := decide_eq_false c2
    have c2b1 : decide (2147483647 < l0.length) = false := decide_eq_false (by omega)
    clear c2
    have H' := Aside0.mk H
    clear H
    go_enter Tryz.func4, Tryz.ntmps4
    go_wp2
    go_loopg [10] k (fun kq v10 w' => ∃ (x10_1 : Int), v10 = .int .i64 x10_1 ∧ Aside0 (laws_zzFits2.l0 kq l0 (l0.length : Int) x10_1 = some r) ∧ Aside0 (kq ≤ k) ∧ Drawn0 w w')
    case atStart => exact ⟨(0), (by first | rfl | (simp; done) | (simp [*]; done)), H', ⟨Nat.le_refl _⟩, by repeat (first | exact Drawn0.refl _ | apply Drawn0.step)⟩
    case round =>
      clear H'
      try clear c2
      try clear c2b0
      try clear c2b1
      try clear p2
      obtain ⟨x10_1, rfl, HA, HK1, ⟨m1, rfl⟩⟩ := hrel
      cases gk with
      | zero => exact absurd HA.out (by simp [laws_zzFits2.l0])
      | succ k1 =>
        have H := HA.out
        clear HA
        simp only [laws_zzFits2.l0] at H
        by_cases c3 : x10_1 < (l0.length : Int)
        · rw [if_pos c3] at H
          have c3b0 : decide (x10_1 < (l0.length : Int)) = true := decide_eq_true c3
          clear c3
          by_cases c4 : 0 ≤ x10_1
          · rw [if_pos c4] at H
            have c4b0 : decide (0 ≤ x10_1) = true := decide_eq_true c4
            clear c4
            by_cases c5 : x10_1 < (l0.length : Int)
            · rw [if_pos c5] at H
              have c5b0 : decide (x10_1 < (l0.length : Int)) = true := decide_eq_true c5
              clear c5
              by_cases c6 : ((rdOf ByteArray.empty l0 x10_1).size : Int) > 2147483647
              · rw [if_pos c6] at H
                have c6b0 : decide (2147483647 < ((rdOf ByteArray.empty l0 x10_1).size : Int)) = true := decide_eq_true c6
                have c6b1 : decide (2147483647 < (rdOf ByteArray.empty l0 x10_1).size) = true := decide_eq_true (by omega)
                clear c6
                obtain rfl := Option.some.inj H
                have p101 : 0 ≤ (x10_1 : Int) := of_decide_eq_true (by first | (with_reducible assumption) | assumption)
                have q101 : x10_1 < (l0.length : Int) := of_decide_eq_true (by first | (with_reducible assumption) | assumption)
                obtain ⟨ad101, e101, hx101_0⟩ := Kd.at_string HR0.out x10_1 p101 q101
                cases e101
                replace p101 := eq_true p101
                replace q101 := eq_true q101
                go_wp2
                go_ret
                exact ⟨by first | rfl | (simp; done) | (simp [*]; done), by repeat (first | exact Drawn0.refl _ | apply Drawn0.step)⟩
              · rw [if_neg c6] at H
                have c6b0 : decide (2147483647 < ((rdOf ByteArray.empty l0 x10_1).size : Int)) = false := decide_eq_false c6
                have c6b1 : decide (2147483647 < (rdOf ByteArray.empty l0 x10_1).size) = false := decide_eq_false (by omega)
                clear c6
                have H' := Aside0.mk H
                clear H
                have p101 : 0 ≤ (x10_1 : Int) := of_decide_eq_true (by first | (with_reducible assumption) | assumption)
                have q101 : x10_1 < (l0.length : Int) := of_decide_eq_true (by first | (with_reducible assumption) | assumption)
                obtain ⟨ad101, e101, hx101_0⟩ := Kd.at_string HR0.out x10_1 p101 q101
                cases e101
                replace p101 := eq_true p101
                replace q101 := eq_true q101
                go_wp2
                go_roundg k1
                case measure => have := HK1.out; omega
                case rel => exact ⟨(wrap64 (x10_1 + 1)), (by first | rfl | (simp; done) | (simp [*]; done)), H', ⟨by have := HK1.out; omega⟩, by repeat (first | exact Drawn0.refl _ | apply Drawn0.step)⟩
            · rw [if_neg c5] at H
              exact absurd H (by simp)
          · rw [if_neg c4] at H
            exact absurd H (by simp)
        · rw [if_neg c3] at H
          have c3b0 : decide (x10_1 < (l0.length : Int)) = false := decide_eq_false c3
          clear c3
          obtain rfl := Option.some.inj H
          go_wp2
          go_ret
          exact ⟨by first | rfl | (simp; done) | (simp [*]; done), by repeat (first | exact Drawn0.refl _ | apply Drawn0.step)⟩

/-! ### spec_onlyDigits: function 16 -/
def spec_onlyDigits.l0 : Nat → ByteArray → Int → Option (Bool)
  | 0, _, _ => none
  | k + 1, x0, x3 => if x3 < (x0.size : Int) then (if 0 ≤ x3 then (if (bt x0 x3) < 48 then (some false) else (if (bt x0 x3) > 57 then (some false) else (spec_onlyDigits.l0 k x0 (wrap64 (x3 + 1))))) else (none)) else (some true)
def spec_onlyDigits.f (k : Nat) (a0 : ByteArray) : Option (Bool) := spec_onlyDigits.l0 k a0 0
theorem spec_onlyDigits.mono_l : ∀ k, (∀ y0 y1, LeO (spec_onlyDigits.l0 k y0 y1) (spec_onlyDigits.l0 (k + 1) y0 y1))
  | 0 => fun _ _ r h => by simp [spec_onlyDigits.l0] at h
  | k + 1 => by
    have ih0 := spec_onlyDigits.mono_l k
    · intro y0 y1
      unfold spec_onlyDigits.l0
      repeat' first
      | (with_reducible exact ih0 _ _)
      | (with_reducible exact LeO.refl _)
      | (with_reducible exact LeO.none _)
      | (with_reducible refine LeO.ite ?_ ?_)
      | (with_reducible refine LeO.bind ?_ (fun _ => ?_))
      | exact ih0 _ _
      | exact LeO.none _
      | refine LeO.ite ?_ ?_
      | refine LeO.bind ?_ (fun _ => ?_)
theorem spec_onlyDigits.mono : ∀ a0 k, LeO (spec_onlyDigits.f k a0) (spec_onlyDigits.f (k + 1) a0) := by
  intro a0 k
  have ih0 := spec_onlyDigits.mono_l k
  unfold spec_onlyDigits.f
  repeat' first
      | (with_reducible exact ih0 _ _)
      | (with_reducible exact LeO.refl _)
      | (with_reducible exact LeO.none _)
      | (with_reducible refine LeO.ite ?_ ?_)
      | (with_reducible refine LeO.bind ?_ (fun _ => ?_))
      | exact ih0 _ _
      | exact LeO.none _
      | refine LeO.ite ?_ ?_
      | refine LeO.bind ?_ (fun _ => ?_)
set_option maxHeartbeats 8000000 in
set_option maxRecDepth 100000 in
theorem spec_onlyDigits.calls (k : Nat) (a0 : ByteArray) (r : Bool) (w : World) (h : spec_onlyDigits.f k a0 = some r) :
    Calls Tryz.prog 16 #[.string a0] w fun e w' => e = .returned (.bool r) ∧ Drawn0 w w' := by
  have H : (spec_onlyDigits.l0 k a0 0) = some r := h
  clear h
  have H' := Aside0.mk H
  clear H
  go_enter Tryz.func16, Tryz.ntmps16
  go_wp2
  go_loopg [3] k (fun kq v3 w' => ∃ (x3_1 : Int), v3 = .int .i64 x3_1 ∧ Aside0 (spec_onlyDigits.l0 kq a0 x3_1 = some r) ∧ Aside0 (kq ≤ k) ∧ Drawn0 w w')
  case atStart => exact ⟨(0), (by first | rfl | (simp; done) | (simp [*]; done)), H', ⟨Nat.le_refl _⟩, by repeat (first | exact Drawn0.refl _ | apply Drawn0.step)⟩
  case round =>
    clear H'
    try clear c1
    obtain ⟨x3_1, rfl, HA, HK1, ⟨m1, rfl⟩⟩ := hrel
    cases gk with
    | zero => exact absurd HA.out (by simp [spec_onlyDigits.l0])
    | succ k1 =>
      have H := HA.out
      clear HA
      simp only [spec_onlyDigits.l0] at H
      by_cases c2 : x3_1 < (a0.size : Int)
      · rw [if_pos c2] at H
        have c2b0 : decide (x3_1 < (a0.size : Int)) = true := decide_eq_true c2
        clear c2
        by_cases c3 : 0 ≤ x3_1
        · rw [if_pos c3] at H
          have c3b0 : decide (0 ≤ x3_1) = true := decide_eq_true c3
          clear c3
          by_cases c5 : (bt a0 x3_1) < 48
          · rw [if_pos c5] at H
            have c5b0 : decide ((bt a0 x3_1) < 48) = true := decide_eq_true c5
            clear c5
            obtain rfl := Option.some.inj H
            have p4 : 0 ≤ (x3_1 : Int) := of_decide_eq_true (by first | (with_reducible assumption) | assumption)
            have q4 : x3_1 < (a0.size : Int) := of_decide_eq_true (by first | (with_reducible assumption) | assumption)
            have hx4 := bt_at a0 x3_1
            replace p4 := eq_true p4
            replace q4 := eq_true q4
            go_wp2
            go_ret
            exact ⟨by first | rfl | (simp; done) | (simp [*]; done), by repeat (first | exact Drawn0.refl _ | apply Drawn0.step)⟩
          · rw [if_neg c5] at H
            have c5b0 : decide ((bt a0 x3_1) < 48) = false := decide_eq_false c5
            clear c5
            by_cases c7 : (bt a0 x3_1) > 57
            · rw [if_pos c7] at H
              have c7b0 : decide (57 < (bt a0 x3_1)) = true := decide_eq_true c7
              clear c7
              obtain rfl := Option.some.inj H
              have p4 : 0 ≤ (x3_1 : Int) := of_decide_eq_true (by first | (with_reducible assumption) | assumption)
              have q4 : x3_1 < (a0.size : Int) := of_decide_eq_true (by first | (with_reducible assumption) | assumption)
              have hx4 := bt_at a0 x3_1
              replace p4 := eq_true p4
              replace q4 := eq_true q4
              have p6 : 0 ≤ (x3_1 : Int) := of_decide_eq_true (by first | (with_reducible assumption) | assumption)
              have q6 : x3_1 < (a0.size : Int) := of_decide_eq_true (by first | (with_reducible assumption) | assumption)
              have hx6 := bt_at a0 x3_1
              replace p6 := eq_true p6
              replace q6 := eq_true q6
              go_wp2
              go_ret
              exact ⟨by first | rfl | (simp; done) | (simp [*]; done), by repeat (first | exact Drawn0.refl _ | apply Drawn0.step)⟩
            · rw [if_neg c7] at H
              have c7b0 : decide (57 < (bt a0 x3_1)) = false := decide_eq_false c7
              clear c7
              have H' := Aside0.mk H
              clear H
              have p4 : 0 ≤ (x3_1 : Int) := of_decide_eq_true (by first | (with_reducible assumption) | assumption)
              have q4 : x3_1 < (a0.size : Int) := of_decide_eq_true (by first | (with_reducible assumption) | assumption)
              have hx4 := bt_at a0 x3_1
              replace p4 := eq_true p4
              replace q4 := eq_true q4
              have p6 : 0 ≤ (x3_1 : Int) := of_decide_eq_true (by first | (with_reducible assumption) | assumption)
              have q6 : x3_1 < (a0.size : Int) := of_decide_eq_true (by first | (with_reducible assumption) | assumption)
              have hx6 := bt_at a0 x3_1
              replace p6 := eq_true p6
              replace q6 := eq_true q6
              go_wp2
              go_roundg k1
              case measure => have := HK1.out; omega
              case rel => exact ⟨(wrap64 (x3_1 + 1)), (by first | rfl | (simp; done) | (simp [*]; done)), H', ⟨by have := HK1.out; omega⟩, by repeat (first | exact Drawn0.refl _ | apply Drawn0.step)⟩
        · rw [if_neg c3] at H
          exact absurd H (by simp)
      · rw [if_neg c2] at H
        have c2b0 : decide (x3_1 < (a0.size : Int)) = false := decide_eq_false c2
        clear c2
        obtain rfl := Option.some.inj H
        go_wp2
        go_ret
        exact ⟨by first | rfl | (simp; done) | (simp [*]; done), by repeat (first | exact Drawn0.refl _ | apply Drawn0.step)⟩

/-! ### spec_parts: function 11 -/
mutual
def spec_parts.l0 : Nat → ByteArray → Bool → Int → Int → Option (Bool)
  | 0, _, _, _, _ => none
  | k + 1, x0, x1, x5, x6 => if x6 ≤ (x0.size : Int) then (if x6 < (x0.size : Int) then (if 0 ≤ x6 then (spec_parts.j1 k x0 x1 x5 x6 ((bt x0 x6) != 46)) else (none)) else (spec_parts.j1 k x0 x1 x5 x6 false)) else (some true)
def spec_parts.j1 : Nat → ByteArray → Bool → Int → Int → Bool → Option (Bool)
  | 0, _, _, _, _, _ => none
  | k + 1, x0, x1, x5, x6, x23 => if x23 = true then (if 0 ≤ x6 then (if x6 < (x0.size : Int) then (if (bt x0 x6) ≥ 48 then (if (bt x0 x6) ≤ 57 then (spec_parts.j2 k x0 x1 x5 x6 (!true)) else (if (bt x0 x6) ≥ 97 then (if (bt x0 x6) ≤ 122 then (spec_parts.j2 k x0 x1 x5 x6 (!true)) else (if (bt x0 x6) ≥ 65 then (if (bt x0 x6) ≤ 90 then (spec_parts.j2 k x0 x1 x5 x6 (!true)) else (spec_parts.j2 k x0 x1 x5 x6 (!((bt x0 x6) == 45)))) else (spec_parts.j2 k x0 x1 x5 x6 (!((bt x0 x6) == 45))))) else (if (bt x0 x6) ≥ 65 then (if (bt x0 x6) ≤ 90 then (spec_parts.j2 k x0 x1 x5 x6 (!true)) else (spec_parts.j2 k x0 x1 x5 x6 (!((bt x0 x6) == 45)))) else (spec_parts.j2 k x0 x1 x5 x6 (!((bt x0 x6) == 45)))))) else (if (bt x0 x6) ≥ 97 then (if (bt x0 x6) ≤ 122 then (spec_parts.j2 k x0 x1 x5 x6 (!true)) else (if (bt x0 x6) ≥ 65 then (if (bt x0 x6) ≤ 90 then (spec_parts.j2 k x0 x1 x5 x6 (!true)) else (spec_parts.j2 k x0 x1 x5 x6 (!((bt x0 x6) == 45)))) else (spec_parts.j2 k x0 x1 x5 x6 (!((bt x0 x6) == 45))))) else (if (bt x0 x6) ≥ 65 then (if (bt x0 x6) ≤ 90 then (spec_parts.j2 k x0 x1 x5 x6 (!true)) else (spec_parts.j2 k x0 x1 x5 x6 (!((bt x0 x6) == 45)))) else (spec_parts.j2 k x0 x1 x5 x6 (!((bt x0 x6) == 45)))))) else (none)) else (none)) else (if x6 = x5 then (some false) else (if x1 = true then (if x6 > (wrap64 (x5 + 1)) then (if 0 ≤ x5 then (if x5 < (x0.size : Int) then (if (bt x0 x5) = 48 then (if x5 ≤ x6 then (if x6 ≤ (x0.size : Int) then ((spec_onlyDigits.f k (x0.extract (x5 : Int).toNat (x6 : Int).toNat)).bind fun t102 => (if t102 = true then (some false) else (spec_parts.l0 k x0 x1 (wrap64 (x6 + 1)) (wrap64 (x6 + 1))))) else (none)) else (none)) else (spec_parts.l0 k x0 x1 (wrap64 (x6 + 1)) (wrap64 (x6 + 1)))) else (none)) else (none)) else (spec_parts.l0 k x0 x1 (wrap64 (x6 + 1)) (wrap64 (x6 + 1)))) else (spec_parts.l0 k x0 x1 (wrap64 (x6 + 1)) (wrap64 (x6 + 1)))))
def spec_parts.j2 : Nat → ByteArray → Bool → Int → Int → Bool → Option (Bool)
  | 0, _, _, _, _, _ => none
  | k + 1, x0, x1, x5, x6, x53 => if x53 = true then (some false) else (spec_parts.l0 k x0 x1 x5 (wrap64 (x6 + 1)))
end
def spec_parts.f (k : Nat) (a0 : ByteArray) (a1 : Bool) : Option (Bool) := spec_parts.l0 k a0 a1 0 0
theorem spec_parts.mono_l : ∀ k, (∀ y0 y1 y2 y3, LeO (spec_parts.l0 k y0 y1 y2 y3) (spec_parts.l0 (k + 1) y0 y1 y2 y3)) ∧ (∀ y0 y1 y2 y3 y4, LeO (spec_parts.j1 k y0 y1 y2 y3 y4) (spec_parts.j1 (k + 1) y0 y1 y2 y3 y4)) ∧ (∀ y0 y1 y2 y3 y4, LeO (spec_parts.j2 k y0 y1 y2 y3 y4) (spec_parts.j2 (k + 1) y0 y1 y2 y3 y4))
  | 0 => ⟨fun _ _ _ _ r h => by simp [spec_parts.l0] at h, fun _ _ _ _ _ r h => by simp [spec_parts.j1] at h, fun _ _ _ _ _ r h => by simp [spec_parts.j2] at h⟩
  | k + 1 => by
    obtain ⟨ih0, ih1, ih2⟩ := spec_parts.mono_l k
    refine ⟨?_, ?_, ?_⟩
    · intro y0 y1 y2 y3
      unfold spec_parts.l0
      repeat' first
      | (with_reducible exact ih0 _ _ _ _)
      | (with_reducible exact ih1 _ _ _ _ _)
      | (with_reducible exact ih2 _ _ _ _ _)
      | (with_reducible exact spec_onlyDigits.mono _ _)
      | (with_reducible exact LeO.refl _)
      | (with_reducible exact LeO.none _)
      | (with_reducible refine LeO.ite ?_ ?_)
      | (with_reducible refine LeO.bind ?_ (fun _ => ?_))
      | exact ih0 _ _ _ _
      | exact ih1 _ _ _ _ _
      | exact ih2 _ _ _ _ _
      | exact spec_onlyDigits.mono _ _
      | exact LeO.none _
      | refine LeO.ite ?_ ?_
      | refine LeO.bind ?_ (fun _ => ?_)
    · intro y0 y1 y2 y3 y4
      unfold spec_parts.j1
      repeat' first
      | (with_reducible exact ih0 _ _ _ _)
      | (with_reducible exact ih1 _ _ _ _ _)
      | (with_reducible exact ih2 _ _ _ _ _)
      | (with_reducible exact spec_onlyDigits.mono _ _)
      | (with_reducible exact LeO.refl _)
      | (with_reducible exact LeO.none _)
      | (with_reducible refine LeO.ite ?_ ?_)
      | (with_reducible refine LeO.bind ?_ (fun _ => ?_))
      | exact ih0 _ _ _ _
      | exact ih1 _ _ _ _ _
      | exact ih2 _ _ _ _ _
      | exact spec_onlyDigits.mono _ _
      | exact LeO.none _
      | refine LeO.ite ?_ ?_
      | refine LeO.bind ?_ (fun _ => ?_)
    · intro y0 y1 y2 y3 y4
      unfold spec_parts.j2
      repeat' first
      | (with_reducible exact ih0 _ _ _ _)
      | (with_reducible exact ih1 _ _ _ _ _)
      | (with_reducible exact ih2 _ _ _ _ _)
      | (with_reducible exact spec_onlyDigits.mono _ _)
      | (with_reducible exact LeO.refl _)
      | (with_reducible exact LeO.none _)
      | (with_reducible refine LeO.ite ?_ ?_)
      | (with_reducible refine LeO.bind ?_ (fun _ => ?_))
      | exact ih0 _ _ _ _
      | exact ih1 _ _ _ _ _
      | exact ih2 _ _ _ _ _
      | exact spec_onlyDigits.mono _ _
      | exact LeO.none _
      | refine LeO.ite ?_ ?_
      | refine LeO.bind ?_ (fun _ => ?_)
theorem spec_parts.mono : ∀ a0 a1 k, LeO (spec_parts.f k a0 a1) (spec_parts.f (k + 1) a0 a1) := by
  intro a0 a1 k
  obtain ⟨ih0, ih1, ih2⟩ := spec_parts.mono_l k
  unfold spec_parts.f
  repeat' first
      | (with_reducible exact ih0 _ _ _ _)
      | (with_reducible exact ih1 _ _ _ _ _)
      | (with_reducible exact ih2 _ _ _ _ _)
      | (with_reducible exact spec_onlyDigits.mono _ _)
      | (with_reducible exact LeO.refl _)
      | (with_reducible exact LeO.none _)
      | (with_reducible refine LeO.ite ?_ ?_)
      | (with_reducible refine LeO.bind ?_ (fun _ => ?_))
      | exact ih0 _ _ _ _
      | exact ih1 _ _ _ _ _
      | exact ih2 _ _ _ _ _
      | exact spec_onlyDigits.mono _ _
      | exact LeO.none _
      | refine LeO.ite ?_ ?_
      | refine LeO.bind ?_ (fun _ => ?_)
set_option maxHeartbeats 8000000 in
set_option maxRecDepth 100000 in
theorem spec_parts.calls (k : Nat) (a0 : ByteArray) (a1 : Bool) (r : Bool) (w : World) (h : spec_parts.f k a0 a1 = some r) :
    Calls Tryz.prog 11 #[.string a0, .bool a1] w fun e w' => e = .returned (.bool r) ∧ Drawn0 w w' := by
  have H : (spec_parts.l0 k a0 a1 0 0) = some r := h
  clear h
  have H' := Aside0.mk H
  clear H
  go_enter Tryz.func11, Tryz.ntmps11
  go_wp2
  go_loopg [5, 6] k (fun kq v5 v6 w' => ∃ (x5_1 : Int) (x6_1 : Int), v5 = .int .i64 x5_1 ∧ v6 = .int .i64 x6_1 ∧ Aside0 (spec_parts.l0 kq a0 a1 x5_1 x6_1 = some r) ∧ Aside0 (kq ≤ k) ∧ Drawn0 w w')
  case atStart => exact ⟨(0), (0), (by first | rfl | (simp; done) | (simp [*]; done)), (by first | rfl | (simp; done) | (simp [*]; done)), H', ⟨Nat.le_refl _⟩, by repeat (first | exact Drawn0.refl _ | apply Drawn0.step)⟩
  case round =>
    clear H'
    try clear c1
    try clear p2
    obtain ⟨x5_1, x6_1, rfl, rfl, HA, HK1, ⟨m1, rfl⟩⟩ := hrel
    cases gk with
    | zero => exact absurd HA.out (by simp [spec_parts.l0])
    | succ k1 =>
      have H := HA.out
      clear HA
      simp only [spec_parts.l0] at H
      by_cases c3 : x6_1 ≤ (a0.size : Int)
      · rw [if_pos c3] at H
        have c3b0 : decide (x6_1 ≤ (a0.size : Int)) = true := decide_eq_true c3
        clear c3
        have HC4 := Aside0.mk H
        clear H
        go_upto_region 5 with (fail)
        go_cut [23] (fun v23 wc => ∃ (kq : Nat) (x23_3 : Bool), v23 = .bool x23_3 ∧ Aside0 (spec_parts.j1 kq a0 a1 x5_1 x6_1 x23_3 = some r) ∧ Aside0 (kq ≤ k1) ∧ Drawn0 w wc)
        case first =>
          have H := HC4.out
          clear HC4
          by_cases c5 : x6_1 < (a0.size : Int)
          · rw [if_pos c5] at H
            have c5b0 : decide (x6_1 < (a0.size : Int)) = true := decide_eq_true c5
            clear c5
            (first | rw [c5b0] | (simp only [i64_w, i32_w]; rw [c5b0]) | skip)
            by_cases c6 : 0 ≤ x6_1
            · rw [if_pos c6] at H
              have c6b0 : decide (0 ≤ x6_1) = true := decide_eq_true c6
              clear c6
              have H' := Aside0.mk H
              clear H
              have p7 : 0 ≤ (x6_1 : Int) := of_decide_eq_true (by first | (with_reducible assumption) | assumption)
              have q7 : x6_1 < (a0.size : Int) := of_decide_eq_true (by first | (with_reducible assumption) | assumption)
              have hx7 := bt_at a0 x6_1
              replace p7 := eq_true p7
              replace q7 := eq_true q7
              go_wp2
              go_meet
              case rel => exact ⟨_, (((bt a0 x6_1) != 46)), (by first | rfl | (simp; done) | (simp [*]; done)), H', ⟨by have := HK1.out; first | omega | exact Nat.le_refl _⟩, by repeat (first | exact Drawn0.refl _ | apply Drawn0.step)⟩
            · rw [if_neg c6] at H
              exact absurd H (by simp)
          · rw [if_neg c5] at H
            have c5b0 : decide (x6_1 < (a0.size : Int)) = false := decide_eq_false c5
            clear c5
            (first | rw [c5b0] | (simp only [i64_w, i32_w]; rw [c5b0]) | skip)
            have H' := Aside0.mk H
            clear H
            go_wp2
            go_meet
            case rel => exact ⟨_, (false), (by first | rfl | (simp; done) | (simp [*]; done)), H', ⟨by have := HK1.out; first | omega | exact Nat.le_refl _⟩, by repeat (first | exact Drawn0.refl _ | apply Drawn0.step)⟩
        case rest =>
          clear HC4
          try clear c1
          try clear p2
          try clear c3
          try clear c3b0
          try clear c5
          try clear c5b0
          try clear c6
          try clear c6b0
          try clear p7
          try clear q7
          try clear hx7
          try clear p2
          try clear p7
          try clear q7
          obtain ⟨kq, x23_3, rfl, HA, HJ3, ⟨mc3, rfl⟩⟩ := hcut
          cases kq with
          | zero => exact absurd HA.out (by simp [spec_parts.j1])
          | succ kj3 =>
            have H := HA.out
            clear HA
            simp only [spec_parts.j1] at H
            by_cases c8 : x23_3 = true
            · subst c8
              have H1 : (if 0 ≤ x6_1 then (if x6_1 < (a0.size : Int) then (if (bt a0 x6_1) ≥ 48 then (if (bt a0 x6_1) ≤ 57 then (spec_parts.j2 kj3 a0 a1 x5_1 x6_1 (!true)) else (if (bt a0 x6_1) ≥ 97 then (if (bt a0 x6_1) ≤ 122 then (spec_parts.j2 kj3 a0 a1 x5_1 x6_1 (!true)) else (if (bt a0 x6_1) ≥ 65 then (if (bt a0 x6_1) ≤ 90 then (spec_parts.j2 kj3 a0 a1 x5_1 x6_1 (!true)) else (spec_parts.j2 kj3 a0 a1 x5_1 x6_1 (!((bt a0 x6_1) == 45)))) else (spec_parts.j2 kj3 a0 a1 x5_1 x6_1 (!((bt a0 x6_1) == 45))))) else (if (bt a0 x6_1) ≥ 65 then (if (bt a0 x6_1) ≤ 90 then (spec_parts.j2 kj3 a0 a1 x5_1 x6_1 (!true)) else (spec_parts.j2 kj3 a0 a1 x5_1 x6_1 (!((bt a0 x6_1) == 45)))) else (spec_parts.j2 kj3 a0 a1 x5_1 x6_1 (!((bt a0 x6_1) == 45)))))) else (if (bt a0 x6_1) ≥ 97 then (if (bt a0 x6_1) ≤ 122 then (spec_parts.j2 kj3 a0 a1 x5_1 x6_1 (!true)) else (if (bt a0 x6_1) ≥ 65 then (if (bt a0 x6_1) ≤ 90 then (spec_parts.j2 kj3 a0 a1 x5_1 x6_1 (!true)) else (spec_parts.j2 kj3 a0 a1 x5_1 x6_1 (!((bt a0 x6_1) == 45)))) else (spec_parts.j2 kj3 a0 a1 x5_1 x6_1 (!((bt a0 x6_1) == 45))))) else (if (bt a0 x6_1) ≥ 65 then (if (bt a0 x6_1) ≤ 90 then (spec_parts.j2 kj3 a0 a1 x5_1 x6_1 (!true)) else (spec_parts.j2 kj3 a0 a1 x5_1 x6_1 (!((bt a0 x6_1) == 45)))) else (spec_parts.j2 kj3 a0 a1 x5_1 x6_1 (!((bt a0 x6_1) == 45)))))) else (none)) else (none)) = some r := by rw [if_pos rfl] at H; exact H
              clear H
              have H := H1
              clear H1
              by_cases c9 : 0 ≤ x6_1
              · rw [if_pos c9] at H
                have c9b0 : decide (0 ≤ x6_1) = true := decide_eq_true c9
                clear c9
                by_cases c10 : x6_1 < (a0.size : Int)
                · rw [if_pos c10] at H
                  have c10b0 : decide (x6_1 < (a0.size : Int)) = true := decide_eq_true c10
                  clear c10
                  have HC12 := Aside0.mk H
                  clear H
                  have p11 : 0 ≤ (x6_1 : Int) := of_decide_eq_true (by first | (with_reducible assumption) | assumption)
                  have q11 : x6_1 < (a0.size : Int) := of_decide_eq_true (by first | (with_reducible assumption) | assumption)
                  have hx11 := bt_at a0 x6_1
                  replace p11 := eq_true p11
                  replace q11 := eq_true q11
                  go_upto_region 7 with (fail)
                  go_cut [53] (fun v53 wc => ∃ (kq : Nat) (x53_11 : Bool), v53 = .bool x53_11 ∧ Aside0 (spec_parts.j2 kq a0 a1 x5_1 x6_1 x53_11 = some r) ∧ Aside0 (kq ≤ kj3) ∧ Drawn0 w wc)
                  case first =>
                    have H := HC12.out
                    clear HC12
                    by_cases c13 : (bt a0 x6_1) ≥ 48
                    · rw [if_pos c13] at H
                      have c13b0 : decide (48 ≤ (bt a0 x6_1)) = true := decide_eq_true c13
                      clear c13
                      (first | rw [c13b0] | (simp only [i64_w, i32_w]; rw [c13b0]) | skip)
                      by_cases c14 : (bt a0 x6_1) ≤ 57
                      · rw [if_pos c14] at H
                        have c14b0 : decide ((bt a0 x6_1) ≤ 57) = true := decide_eq_true c14
                        clear c14
                        have H' := Aside0.mk H
                        clear H
                        go_wp2
                        go_meet
                        case rel => exact ⟨_, (!true), (by first | rfl | (simp; done) | (simp [*]; done)), H', ⟨by have := HK1.out; have := HJ3.out; first | omega | exact Nat.le_refl _⟩, by repeat (first | exact Drawn0.refl _ | apply Drawn0.step)⟩
                      · rw [if_neg c14] at H
                        have c14b0 : decide ((bt a0 x6_1) ≤ 57) = false := decide_eq_false c14
                        clear c14
                        by_cases c15 : (bt a0 x6_1) ≥ 97
                        · rw [if_pos c15] at H
                          have c15b0 : decide (97 ≤ (bt a0 x6_1)) = true := decide_eq_true c15
                          clear c15
                          by_cases c16 : (bt a0 x6_1) ≤ 122
                          · rw [if_pos c16] at H
                            have c16b0 : decide ((bt a0 x6_1) ≤ 122) = true := decide_eq_true c16
                            clear c16
                            have H' := Aside0.mk H
                            clear H
                            go_wp2
                            go_meet
                            case rel => exact ⟨_, (!true), (by first | rfl | (simp; done) | (simp [*]; done)), H', ⟨by have := HK1.out; have := HJ3.out; first | omega | exact Nat.le_refl _⟩, by repeat (first | exact Drawn0.refl _ | apply Drawn0.step)⟩
                          · rw [if_neg c16] at H
                            have c16b0 : decide ((bt a0 x6_1) ≤ 122) = false := decide_eq_false c16
                            clear c16
                            by_cases c17 : (bt a0 x6_1) ≥ 65
                            · rw [if_pos c17] at H
                              have c17b0 : decide (65 ≤ (bt a0 x6_1)) = true := decide_eq_true c17
                              clear c17
                              by_cases c18 : (bt a0 x6_1) ≤ 90
                              · rw [if_pos c18] at H
                                have c18b0 : decide ((bt a0 x6_1) ≤ 90) = true := decide_eq_true c18
                                clear c18
                                have H' := Aside0.mk H
                                clear H
                                go_wp2
                                go_meet
                                case rel => exact ⟨_, (!true), (by first | rfl | (simp; done) | (simp [*]; done)), H', ⟨by have := HK1.out; have := HJ3.out; first | omega | exact Nat.le_refl _⟩, by repeat (first | exact Drawn0.refl _ | apply Drawn0.step)⟩
                              · rw [if_neg c18] at H
                                have c18b0 : decide ((bt a0 x6_1) ≤ 90) = false := decide_eq_false c18
                                clear c18
                                have H' := Aside0.mk H
                                clear H
                                go_wp2
                                go_meet
                                case rel => exact ⟨_, (!((bt a0 x6_1) == 45)), (by first | rfl | (simp; done) | (simp [*]; done)), H', ⟨by have := HK1.out; have := HJ3.out; first | omega | exact Nat.le_refl _⟩, by repeat (first | exact Drawn0.refl _ | apply Drawn0.step)⟩
                            · rw [if_neg c17] at H
                              have c17b0 : decide (65 ≤ (bt a0 x6_1)) = false := decide_eq_false c17
                              clear c17
                              have H' := Aside0.mk H
                              clear H
                              go_wp2
                              go_meet
                              case rel => exact ⟨_, (!((bt a0 x6_1) == 45)), (by first | rfl | (simp; done) | (simp [*]; done)), H', ⟨by have := HK1.out; have := HJ3.out; first | omega | exact Nat.le_refl _⟩, by repeat (first | exact Drawn0.refl _ | apply Drawn0.step)⟩
                        · rw [if_neg c15] at H
                          have c15b0 : decide (97 ≤ (bt a0 x6_1)) = false := decide_eq_false c15
                          clear c15
                          by_cases c19 : (bt a0 x6_1) ≥ 65
                          · rw [if_pos c19] at H
                            have c19b0 : decide (65 ≤ (bt a0 x6_1)) = true := decide_eq_true c19
                            clear c19
                            by_cases c20 : (bt a0 x6_1) ≤ 90
                            · rw [if_pos c20] at H
                              have c20b0 : decide ((bt a0 x6_1) ≤ 90) = true := decide_eq_true c20
                              clear c20
                              have H' := Aside0.mk H
                              clear H
                              go_wp2
                              go_meet
                              case rel => exact ⟨_, (!true), (by first | rfl | (simp; done) | (simp [*]; done)), H', ⟨by have := HK1.out; have := HJ3.out; first | omega | exact Nat.le_refl _⟩, by repeat (first | exact Drawn0.refl _ | apply Drawn0.step)⟩
                            · rw [if_neg c20] at H
                              have c20b0 : decide ((bt a0 x6_1) ≤ 90) = false := decide_eq_false c20
                              clear c20
                              have H' := Aside0.mk H
                              clear H
                              go_wp2
                              go_meet
                              case rel => exact ⟨_, (!((bt a0 x6_1) == 45)), (by first | rfl | (simp; done) | (simp [*]; done)), H', ⟨by have := HK1.out; have := HJ3.out; first | omega | exact Nat.le_refl _⟩, by repeat (first | exact Drawn0.refl _ | apply Drawn0.step)⟩
                          · rw [if_neg c19] at H
                            have c19b0 : decide (65 ≤ (bt a0 x6_1)) = false := decide_eq_false c19
                            clear c19
                            have H' := Aside0.mk H
                            clear H
                            go_wp2
                            go_meet
                            case rel => exact ⟨_, (!((bt a0 x6_1) == 45)), (by first | rfl | (simp; done) | (simp [*]; done)), H', ⟨by have := HK1.out; have := HJ3.out; first | omega | exact Nat.le_refl _⟩, by repeat (first | exact Drawn0.refl _ | apply Drawn0.step)⟩
                    · rw [if_neg c13] at H
                      have c13b0 : decide (48 ≤ (bt a0 x6_1)) = false := decide_eq_false c13
                      clear c13
                      (first | rw [c13b0] | (simp only [i64_w, i32_w]; rw [c13b0]) | skip)
                      by_cases c21 : (bt a0 x6_1) ≥ 97
                      · rw [if_pos c21] at H
                        have c21b0 : decide (97 ≤ (bt a0 x6_1)) = true := decide_eq_true c21
                        clear c21
                        by_cases c22 : (bt a0 x6_1) ≤ 122
                        · rw [if_pos c22] at H
                          have c22b0 : decide ((bt a0 x6_1) ≤ 122) = true := decide_eq_true c22
                          clear c22
                          have H' := Aside0.mk H
                          clear H
                          go_wp2
                          go_meet
                          case rel => exact ⟨_, (!true), (by first | rfl | (simp; done) | (simp [*]; done)), H', ⟨by have := HK1.out; have := HJ3.out; first | omega | exact Nat.le_refl _⟩, by repeat (first | exact Drawn0.refl _ | apply Drawn0.step)⟩
                        · rw [if_neg c22] at H
                          have c22b0 : decide ((bt a0 x6_1) ≤ 122) = false := decide_eq_false c22
                          clear c22
                          by_cases c23 : (bt a0 x6_1) ≥ 65
                          · rw [if_pos c23] at H
                            have c23b0 : decide (65 ≤ (bt a0 x6_1)) = true := decide_eq_true c23
                            clear c23
                            by_cases c24 : (bt a0 x6_1) ≤ 90
                            · rw [if_pos c24] at H
                              have c24b0 : decide ((bt a0 x6_1) ≤ 90) = true := decide_eq_true c24
                              clear c24
                              have H' := Aside0.mk H
                              clear H
                              go_wp2
                              go_meet
                              case rel => exact ⟨_, (!true), (by first | rfl | (simp; done) | (simp [*]; done)), H', ⟨by have := HK1.out; have := HJ3.out; first | omega | exact Nat.le_refl _⟩, by repeat (first | exact Drawn0.refl _ | apply Drawn0.step)⟩
                            · rw [if_neg c24] at H
                              have c24b0 : decide ((bt a0 x6_1) ≤ 90) = false := decide_eq_false c24
                              clear c24
                              have H' := Aside0.mk H
                              clear H
                              go_wp2
                              go_meet
                              case rel => exact ⟨_, (!((bt a0 x6_1) == 45)), (by first | rfl | (simp; done) | (simp [*]; done)), H', ⟨by have := HK1.out; have := HJ3.out; first | omega | exact Nat.le_refl _⟩, by repeat (first | exact Drawn0.refl _ | apply Drawn0.step)⟩
                          · rw [if_neg c23] at H
                            have c23b0 : decide (65 ≤ (bt a0 x6_1)) = false := decide_eq_false c23
                            clear c23
                            have H' := Aside0.mk H
                            clear H
                            go_wp2
                            go_meet
                            case rel => exact ⟨_, (!((bt a0 x6_1) == 45)), (by first | rfl | (simp; done) | (simp [*]; done)), H', ⟨by have := HK1.out; have := HJ3.out; first | omega | exact Nat.le_refl _⟩, by repeat (first | exact Drawn0.refl _ | apply Drawn0.step)⟩
                      · rw [if_neg c21] at H
                        have c21b0 : decide (97 ≤ (bt a0 x6_1)) = false := decide_eq_false c21
                        clear c21
                        by_cases c25 : (bt a0 x6_1) ≥ 65
                        · rw [if_pos c25] at H
                          have c25b0 : decide (65 ≤ (bt a0 x6_1)) = true := decide_eq_true c25
                          clear c25
                          by_cases c26 : (bt a0 x6_1) ≤ 90
                          · rw [if_pos c26] at H
                            have c26b0 : decide ((bt a0 x6_1) ≤ 90) = true := decide_eq_true c26
                            clear c26
                            have H' := Aside0.mk H
                            clear H
                            go_wp2
                            go_meet
                            case rel => exact ⟨_, (!true), (by first | rfl | (simp; done) | (simp [*]; done)), H', ⟨by have := HK1.out; have := HJ3.out; first | omega | exact Nat.le_refl _⟩, by repeat (first | exact Drawn0.refl _ | apply Drawn0.step)⟩
                          · rw [if_neg c26] at H
                            have c26b0 : decide ((bt a0 x6_1) ≤ 90) = false := decide_eq_false c26
                            clear c26
                            have H' := Aside0.mk H
                            clear H
                            go_wp2
                            go_meet
                            case rel => exact ⟨_, (!((bt a0 x6_1) == 45)), (by first | rfl | (simp; done) | (simp [*]; done)), H', ⟨by have := HK1.out; have := HJ3.out; first | omega | exact Nat.le_refl _⟩, by repeat (first | exact Drawn0.refl _ | apply Drawn0.step)⟩
                        · rw [if_neg c25] at H
                          have c25b0 : decide (65 ≤ (bt a0 x6_1)) = false := decide_eq_false c25
                          clear c25
                          have H' := Aside0.mk H
                          clear H
                          go_wp2
                          go_meet
                          case rel => exact ⟨_, (!((bt a0 x6_1) == 45)), (by first | rfl | (simp; done) | (simp [*]; done)), H', ⟨by have := HK1.out; have := HJ3.out; first | omega | exact Nat.le_refl _⟩, by repeat (first | exact Drawn0.refl _ | apply Drawn0.step)⟩
                  case rest =>
                    clear HC12
                    try clear c1
                    try clear p1
                    try clear q1
                    try clear hx1
                    try clear c2
                    try clear p2
                    try clear c3
                    try clear c3b0
                    try clear c5
                    try clear c5b0
                    try clear c6
                    try clear c6b0
                    try clear p7
                    try clear q7
                    try clear hx7
                    try clear c8
                    try clear c9
                    try clear c9b0
                    try clear c10
                    try clear c10b0
                    try clear c11
                    try clear p11
                    try clear q11
                    try clear hx11
                    try clear c13
                    try clear c13b0
                    try clear c14
                    try clear c14b0
                    try clear c15
                    try clear c15b0
                    try clear c16
                    try clear c16b0
                    try clear c17
                    try clear c17b0
                    try clear c18
                    try clear c18b0
                    try clear c19
                    try clear c19b0
                    try clear c20
                    try clear c20b0
                    try clear c21
                    try clear c21b0
                    try clear c22
                    try clear c22b0
                    try clear c23
                    try clear c23b0
                    try clear c24
                    try clear c24b0
                    try clear c25
                    try clear c25b0
                    try clear c26
                    try clear c26b0
                    try clear p11
                    try clear p2
                    try clear p7
                    try clear q11
                    try clear q7
                    obtain ⟨kq, x53_11, rfl, HA, HJ11, ⟨mc11, rfl⟩⟩ := hcut
                    cases kq with
                    | zero => exact absurd HA.out (by simp [spec_parts.j2])
                    | succ kj11 =>
                      have H := HA.out
                      clear HA
                      simp only [spec_parts.j2] at H
                      by_cases c27 : x53_11 = true
                      · subst c27
                        have H1 : (some false) = some r := by rw [if_pos rfl] at H; exact H
                        clear H
                        have H := H1
                        clear H1
                        obtain rfl := Option.some.inj H
                        go_wp2
                        go_ret
                        exact ⟨by first | rfl | (simp; done) | (simp [*]; done), by repeat (first | exact Drawn0.refl _ | apply Drawn0.step)⟩
                      · replace c27 := Bool.eq_false_iff.mpr c27
                        subst c27
                        have H1 : (spec_parts.l0 kj11 a0 a1 x5_1 (wrap64 (x6_1 + 1))) = some r := by rw [if_neg (show ¬ (false = true) by decide)] at H; exact H
                        clear H
                        have H := H1
                        clear H1
                        have H' := Aside0.mk H
                        clear H
                        go_wp2
                        go_roundg kj11
                        case measure => have := HK1.out; have := HJ3.out; have := HJ11.out; omega
                        case rel => exact ⟨(x5_1), (wrap64 (x6_1 + 1)), (by first | rfl | (simp; done) | (simp [*]; done)), (by first | rfl | (simp; done) | (simp [*]; done)), H', ⟨by have := HK1.out; have := HJ3.out; have := HJ11.out; omega⟩, by repeat (first | exact Drawn0.refl _ | apply Drawn0.step)⟩
                · rw [if_neg c10] at H
                  exact absurd H (by simp)
              · rw [if_neg c9] at H
                exact absurd H (by simp)
            · replace c8 := Bool.eq_false_iff.mpr c8
              subst c8
              have H1 : (if x6_1 = x5_1 then (some false) else (if a1 = true then (if x6_1 > (wrap64 (x5_1 + 1)) then (if 0 ≤ x5_1 then (if x5_1 < (a0.size : Int) then (if (bt a0 x5_1) = 48 then (if x5_1 ≤ x6_1 then (if x6_1 ≤ (a0.size : Int) then ((spec_onlyDigits.f kj3 (a0.extract (x5_1 : Int).toNat (x6_1 : Int).toNat)).bind fun t102 => (if t102 = true then (some false) else (spec_parts.l0 kj3 a0 a1 (wrap64 (x6_1 + 1)) (wrap64 (x6_1 + 1))))) else (none)) else (none)) else (spec_parts.l0 kj3 a0 a1 (wrap64 (x6_1 + 1)) (wrap64 (x6_1 + 1)))) else (none)) else (none)) else (spec_parts.l0 kj3 a0 a1 (wrap64 (x6_1 + 1)) (wrap64 (x6_1 + 1)))) else (spec_parts.l0 kj3 a0 a1 (wrap64 (x6_1 + 1)) (wrap64 (x6_1 + 1))))) = some r := by rw [if_neg (show ¬ (false = true) by decide)] at H; exact H
              clear H
              have H := H1
              clear H1
              by_cases c28 : x6_1 = x5_1
              · rw [if_pos c28] at H
                have c28b0 : (x6_1 == x5_1) = true := beq_iff_eq.mpr c28
                have c28b1 : (x6_1 != x5_1) = false := bne_eq_false_iff_eq.mpr c28
                clear c28
                obtain rfl := Option.some.inj H
                go_wp2
                go_ret
                exact ⟨by first | rfl | (simp; done) | (simp [*]; done), by repeat (first | exact Drawn0.refl _ | apply Drawn0.step)⟩
              · rw [if_neg c28] at H
                have c28b0 : (x6_1 == x5_1) = false := beq_eq_false_iff_ne.mpr c28
                have c28b1 : (x6_1 != x5_1) = true := bne_iff_ne.mpr c28
                by_cases c29 : a1 = true
                · subst c29
                  have H1 : (if x6_1 > (wrap64 (x5_1 + 1)) then (if 0 ≤ x5_1 then (if x5_1 < (a0.size : Int) then (if (bt a0 x5_1) = 48 then (if x5_1 ≤ x6_1 then (if x6_1 ≤ (a0.size : Int) then ((spec_onlyDigits.f kj3 (a0.extract (x5_1 : Int).toNat (x6_1 : Int).toNat)).bind fun t102 => (if t102 = true then (some false) else (spec_parts.l0 kj3 a0 true (wrap64 (x6_1 + 1)) (wrap64 (x6_1 + 1))))) else (none)) else (none)) else (spec_parts.l0 kj3 a0 true (wrap64 (x6_1 + 1)) (wrap64 (x6_1 + 1)))) else (none)) else (none)) else (spec_parts.l0 kj3 a0 true (wrap64 (x6_1 + 1)) (wrap64 (x6_1 + 1)))) = some r := by rw [if_pos rfl] at H; exact H
                  clear H
                  have H := H1
                  clear H1
                  by_cases c30 : x6_1 > (wrap64 (x5_1 + 1))
                  · rw [if_pos c30] at H
                    have c30b0 : decide ((wrap64 (x5_1 + 1)) < x6_1) = true := decide_eq_true c30
                    clear c30
                    by_cases c31 : 0 ≤ x5_1
                    · rw [if_pos c31] at H
                      have c31b0 : decide (0 ≤ x5_1) = true := decide_eq_true c31
                      clear c31
                      by_cases c32 : x5_1 < (a0.size : Int)
                      · rw [if_pos c32] at H
                        have c32b0 : decide (x5_1 < (a0.size : Int)) = true := decide_eq_true c32
                        clear c32
                        by_cases c34 : (bt a0 x5_1) = 48
                        · rw [if_pos c34] at H
                          have c34b0 : ((bt a0 x5_1) == 48) = true := beq_iff_eq.mpr c34
                          have c34b1 : ((bt a0 x5_1) != 48) = false := bne_eq_false_iff_eq.mpr c34
                          clear c34
                          have c35b0 := eq_true (of_decide_eq_true (by first | (with_reducible assumption) | assumption) : 0 ≤ x5_1)
                          by_cases c36 : x5_1 ≤ x6_1
                          · rw [if_pos c36] at H
                            have c36b0 := eq_true c36
                            have c36b1 : decide (x5_1 ≤ x6_1) = true := decide_eq_true c36
                            clear c36
                            by_cases c37 : x6_1 ≤ (a0.size : Int)
                            · rw [if_pos c37] at H
                              have c37b0 := eq_true c37
                              have c37b1 : decide (x6_1 ≤ (a0.size : Int)) = true := decide_eq_true c37
                              clear c37
                              replace H := Option.bind_eq_some_iff.mp H
                              obtain ⟨t102, A380, H⟩ := H
                              replace H : (if t102 = true then (some false) else (spec_parts.l0 kj3 a0 true (wrap64 (x6_1 + 1)) (wrap64 (x6_1 + 1)))) = some r := H
                              have A38 := Aside0.mk A380
                              clear A380
                              by_cases c39 : t102 = true
                              · subst c39
                                have H1 : (some false) = some r := by rw [if_pos rfl] at H; exact H
                                clear H
                                have H := H1
                                clear H1
                                obtain rfl := Option.some.inj H
                                have p33 : 0 ≤ (x5_1 : Int) := of_decide_eq_true (by first | (with_reducible assumption) | assumption)
                                have q33 : x5_1 < (a0.size : Int) := of_decide_eq_true (by first | (with_reducible assumption) | assumption)
                                have hx33 := bt_at a0 x5_1
                                replace p33 := eq_true p33
                                replace q33 := eq_true q33
                                go_wp2_with (first | (go_at_call 16; (with_reducible refine (spec_onlyDigits.calls kj3 (a0.extract (x5_1 : Int).toNat (x6_1 : Int).toNat) true _ A38.out).mono ?_); rintro e w' ⟨rfl, ⟨nd, rfl⟩⟩))
                                go_ret
                                exact ⟨by first | rfl | (simp; done) | (simp [*]; done), by repeat (first | exact Drawn0.refl _ | apply Drawn0.step)⟩
                              · replace c39 := Bool.eq_false_iff.mpr c39
                                subst c39
                                have H1 : (spec_parts.l0 kj3 a0 true (wrap64 (x6_1 + 1)) (wrap64 (x6_1 + 1))) = some r := by rw [if_neg (show ¬ (false = true) by decide)] at H; exact H
                                clear H
                                have H := H1
                                clear H1
                                have H' := Aside0.mk H
                                clear H
                                have p33 : 0 ≤ (x5_1 : Int) := of_decide_eq_true (by first | (with_reducible assumption) | assumption)
                                have q33 : x5_1 < (a0.size : Int) := of_decide_eq_true (by first | (with_reducible assumption) | assumption)
                                have hx33 := bt_at a0 x5_1
                                replace p33 := eq_true p33
                                replace q33 := eq_true q33
                                go_wp2_with (first | (go_at_call 16; (with_reducible refine (spec_onlyDigits.calls kj3 (a0.extract (x5_1 : Int).toNat (x6_1 : Int).toNat) false _ A38.out).mono ?_); rintro e w' ⟨rfl, ⟨nd, rfl⟩⟩))
                                go_roundg kj3
                                case measure => have := HK1.out; have := HJ3.out; omega
                                case rel => exact ⟨(wrap64 (x6_1 + 1)), (wrap64 (x6_1 + 1)), (by first | rfl | (simp; done) | (simp [*]; done)), (by first | rfl | (simp; done) | (simp [*]; done)), H', ⟨by have := HK1.out; have := HJ3.out; omega⟩, by repeat (first | exact Drawn0.refl _ | apply Drawn0.step)⟩
                            · rw [if_neg c37] at H
                              exact absurd H (by simp)
                          · rw [if_neg c36] at H
                            exact absurd H (by simp)
                        · rw [if_neg c34] at H
                          have c34b0 : ((bt a0 x5_1) == 48) = false := beq_eq_false_iff_ne.mpr c34
                          have c34b1 : ((bt a0 x5_1) != 48) = true := bne_iff_ne.mpr c34
                          have H' := Aside0.mk H
                          clear H
                          have p33 : 0 ≤ (x5_1 : Int) := of_decide_eq_true (by first | (with_reducible assumption) | assumption)
                          have q33 : x5_1 < (a0.size : Int) := of_decide_eq_true (by first | (with_reducible assumption) | assumption)
                          have hx33 := bt_at a0 x5_1
                          replace p33 := eq_true p33
                          replace q33 := eq_true q33
                          go_wp2
                          go_roundg kj3
                          case measure => have := HK1.out; have := HJ3.out; omega
                          case rel => exact ⟨(wrap64 (x6_1 + 1)), (wrap64 (x6_1 + 1)), (by first | rfl | (simp; done) | (simp [*]; done)), (by first | rfl | (simp; done) | (simp [*]; done)), H', ⟨by have := HK1.out; have := HJ3.out; omega⟩, by repeat (first | exact Drawn0.refl _ | apply Drawn0.step)⟩
                      · rw [if_neg c32] at H
                        exact absurd H (by simp)
                    · rw [if_neg c31] at H
                      exact absurd H (by simp)
                  · rw [if_neg c30] at H
                    have c30b0 : decide ((wrap64 (x5_1 + 1)) < x6_1) = false := decide_eq_false c30
                    clear c30
                    have H' := Aside0.mk H
                    clear H
                    go_wp2
                    go_roundg kj3
                    case measure => have := HK1.out; have := HJ3.out; omega
                    case rel => exact ⟨(wrap64 (x6_1 + 1)), (wrap64 (x6_1 + 1)), (by first | rfl | (simp; done) | (simp [*]; done)), (by first | rfl | (simp; done) | (simp [*]; done)), H', ⟨by have := HK1.out; have := HJ3.out; omega⟩, by repeat (first | exact Drawn0.refl _ | apply Drawn0.step)⟩
                · replace c29 := Bool.eq_false_iff.mpr c29
                  subst c29
                  have H1 : (spec_parts.l0 kj3 a0 false (wrap64 (x6_1 + 1)) (wrap64 (x6_1 + 1))) = some r := by rw [if_neg (show ¬ (false = true) by decide)] at H; exact H
                  clear H
                  have H := H1
                  clear H1
                  have H' := Aside0.mk H
                  clear H
                  go_wp2
                  go_roundg kj3
                  case measure => have := HK1.out; have := HJ3.out; omega
                  case rel => exact ⟨(wrap64 (x6_1 + 1)), (wrap64 (x6_1 + 1)), (by first | rfl | (simp; done) | (simp [*]; done)), (by first | rfl | (simp; done) | (simp [*]; done)), H', ⟨by have := HK1.out; have := HJ3.out; omega⟩, by repeat (first | exact Drawn0.refl _ | apply Drawn0.step)⟩
      · rw [if_neg c3] at H
        have c3b0 : decide (x6_1 ≤ (a0.size : Int)) = false := decide_eq_false c3
        clear c3
        obtain rfl := Option.some.inj H
        go_wp2
        go_ret
        exact ⟨by first | rfl | (simp; done) | (simp [*]; done), by repeat (first | exact Drawn0.refl _ | apply Drawn0.step)⟩

/-! ### spec_number: function 12 -/
mutual
def spec_number.l0 : Nat → ByteArray → Int → Int → Option (Int × ByteArray × Bool)
  | 0, _, _, _ => none
  | k + 1, x0, x2, x5 => if x5 < (x0.size : Int) then (if 0 ≤ x5 then (if (bt x0 x5) ≥ 48 then (spec_number.j1 k x0 x2 x5 (decide ((bt x0 x5) ≤ 57))) else (spec_number.j1 k x0 x2 x5 false)) else (none)) else (spec_number.j1 k x0 x2 x5 false)
def spec_number.j1 : Nat → ByteArray → Int → Int → Bool → Option (Int × ByteArray × Bool)
  | 0, _, _, _, _ => none
  | k + 1, x0, x2, x5, x21 => if x21 = true then (if 0 ≤ x5 then (if x5 < (x0.size : Int) then (if (wrap64 (x5 + 1)) > 9 then (some (0, x0, false)) else (spec_number.l0 k x0 (IntKind.u64.wrap ((IntKind.u64.wrap (x2 * 10)) + (((bt x0 x5) - 48) % 256))) (wrap64 (x5 + 1)))) else (none)) else (none)) else (if 0 ≤ x5 then (if x5 ≤ (x0.size : Int) then (if x5 > 0 then (if x5 = 1 then (some (x2, x0.extract (x5 : Int).toNat x0.size, true)) else (if 0 < (x0.size : Int) then (some (x2, x0.extract (x5 : Int).toNat x0.size, ((bt x0 0) != 48))) else (none))) else (some (x2, x0.extract (x5 : Int).toNat x0.size, false))) else (none)) else (none))
end
def spec_number.f (k : Nat) (a0 : ByteArray) : Option (Int × ByteArray × Bool) := spec_number.l0 k a0 0 0
theorem spec_number.mono_l : ∀ k, (∀ y0 y1 y2, LeO (spec_number.l0 k y0 y1 y2) (spec_number.l0 (k + 1) y0 y1 y2)) ∧ (∀ y0 y1 y2 y3, LeO (spec_number.j1 k y0 y1 y2 y3) (spec_number.j1 (k + 1) y0 y1 y2 y3))
  | 0 => ⟨fun _ _ _ r h => by simp [spec_number.l0] at h, fun _ _ _ _ r h => by simp [spec_number.j1] at h⟩
  | k + 1 => by
    obtain ⟨ih0, ih1⟩ := spec_number.mono_l k
    refine ⟨?_, ?_⟩
    · intro y0 y1 y2
      unfold spec_number.l0
      repeat' first
      | (with_reducible exact ih0 _ _ _)
      | (with_reducible exact ih1 _ _ _ _)
      | (with_reducible exact LeO.refl _)
      | (with_reducible exact LeO.none _)
      | (with_reducible refine LeO.ite ?_ ?_)
      | (with_reducible refine LeO.bind ?_ (fun _ => ?_))
      | exact ih0 _ _ _
      | exact ih1 _ _ _ _
      | exact LeO.none _
      | refine LeO.ite ?_ ?_
      | refine LeO.bind ?_ (fun _ => ?_)
    · intro y0 y1 y2 y3
      unfold spec_number.j1
      repeat' first
      | (with_reducible exact ih0 _ _ _)
      | (with_reducible exact ih1 _ _ _ _)
      | (with_reducible exact LeO.refl _)
      | (with_reducible exact LeO.none _)
      | (with_reducible refine LeO.ite ?_ ?_)
      | (with_reducible refine LeO.bind ?_ (fun _ => ?_))
      | exact ih0 _ _ _
      | exact ih1 _ _ _ _
      | exact LeO.none _
      | refine LeO.ite ?_ ?_
      | refine LeO.bind ?_ (fun _ => ?_)
theorem spec_number.mono : ∀ a0 k, LeO (spec_number.f k a0) (spec_number.f (k + 1) a0) := by
  intro a0 k
  obtain ⟨ih0, ih1⟩ := spec_number.mono_l k
  unfold spec_number.f
  repeat' first
      | (with_reducible exact ih0 _ _ _)
      | (with_reducible exact ih1 _ _ _ _)
      | (with_reducible exact LeO.refl _)
      | (with_reducible exact LeO.none _)
      | (with_reducible refine LeO.ite ?_ ?_)
      | (with_reducible refine LeO.bind ?_ (fun _ => ?_))
      | exact ih0 _ _ _
      | exact ih1 _ _ _ _
      | exact LeO.none _
      | refine LeO.ite ?_ ?_
      | refine LeO.bind ?_ (fun _ => ?_)
set_option maxHeartbeats 8000000 in
set_option maxRecDepth 100000 in
theorem spec_number.calls (k : Nat) (a0 : ByteArray) (r1 : Int) (r2 : ByteArray) (r3 : Bool) (w : World) (h : spec_number.f k a0 = some (r1, r2, r3)) :
    Calls Tryz.prog 12 #[.string a0] w fun e w' => e = .returned (.tuple #[.int .u64 r1, .string r2, .bool r3]) ∧ Drawn0 w w' := by
  have H : (spec_number.l0 k a0 0 0) = some (r1, r2, r3) := h
  clear h
  have H' := Aside0.mk H
  clear H
  go_enter Tryz.func12, Tryz.ntmps12
  go_wp2
  repeat (go_quiet (fail); try go_wp2)
  go_loopg [2, 5] k (fun kq v2 v5 w' => ∃ (x2_1 : Int) (x5_1 : Int), v2 = .int .u64 x2_1 ∧ v5 = .int .i64 x5_1 ∧ Aside0 (spec_number.l0 kq a0 x2_1 x5_1 = some (r1, r2, r3)) ∧ Aside0 (kq ≤ k) ∧ Drawn0 w w')
  case atStart => exact ⟨(0), (0), (by first | rfl | (simp; done) | (simp [*]; done)), (by first | rfl | (simp; done) | (simp [*]; done)), H', ⟨Nat.le_refl _⟩, by repeat (first | exact Drawn0.refl _ | apply Drawn0.step)⟩
  case round =>
    clear H'
    try clear c1
    obtain ⟨x2_1, x5_1, rfl, rfl, HA, HK1, ⟨m1, rfl⟩⟩ := hrel
    cases gk with
    | zero => exact absurd HA.out (by simp [spec_number.l0])
    | succ k1 =>
      have H := HA.out
      clear HA
      simp only [spec_number.l0] at H
      have HC2 := Aside0.mk H
      clear H
      go_upto_region 2 with (fail)
      repeat (go_quiet (fail); go_upto_region 2 with (fail))
      go_cut [21] (fun v21 wc => ∃ (kq : Nat) (x21_1 : Bool), v21 = .bool x21_1 ∧ Aside0 (spec_number.j1 kq a0 x2_1 x5_1 x21_1 = some (r1, r2, r3)) ∧ Aside0 (kq ≤ k1) ∧ Drawn0 w wc)
      case first =>
        have H := HC2.out
        clear HC2
        by_cases c3 : x5_1 < (a0.size : Int)
        · rw [if_pos c3] at H
          have c3b0 : decide (x5_1 < (a0.size : Int)) = true := decide_eq_true c3
          clear c3
          (first | rw [c3b0] | (simp only [i64_w, i32_w]; rw [c3b0]) | skip)
          by_cases c4 : 0 ≤ x5_1
          · rw [if_pos c4] at H
            have c4b0 : decide (0 ≤ x5_1) = true := decide_eq_true c4
            clear c4
            by_cases c6 : (bt a0 x5_1) ≥ 48
            · rw [if_pos c6] at H
              have c6b0 : decide (48 ≤ (bt a0 x5_1)) = true := decide_eq_true c6
              clear c6
              have H' := Aside0.mk H
              clear H
              have p5 : 0 ≤ (x5_1 : Int) := of_decide_eq_true (by first | (with_reducible assumption) | assumption)
              have q5 : x5_1 < (a0.size : Int) := of_decide_eq_true (by first | (with_reducible assumption) | assumption)
              have hx5 := bt_at a0 x5_1
              replace p5 := eq_true p5
              replace q5 := eq_true q5
              have p7 : 0 ≤ (x5_1 : Int) := of_decide_eq_true (by first | (with_reducible assumption) | assumption)
              have q7 : x5_1 < (a0.size : Int) := of_decide_eq_true (by first | (with_reducible assumption) | assumption)
              have hx7 := bt_at a0 x5_1
              replace p7 := eq_true p7
              replace q7 := eq_true q7
              go_wp2
              repeat (go_quiet (fail); try go_wp2)
              go_meet
              case rel => exact ⟨_, (decide ((bt a0 x5_1) ≤ 57)), (by first | rfl | (simp; done) | (simp [*]; done)), H', ⟨by have := HK1.out; first | omega | exact Nat.le_refl _⟩, by repeat (first | exact Drawn0.refl _ | apply Drawn0.step)⟩
            · rw [if_neg c6] at H
              have c6b0 : decide (48 ≤ (bt a0 x5_1)) = false := decide_eq_false c6
              clear c6
              have H' := Aside0.mk H
              clear H
              have p5 : 0 ≤ (x5_1 : Int) := of_decide_eq_true (by first | (with_reducible assumption) | assumption)
              have q5 : x5_1 < (a0.size : Int) := of_decide_eq_true (by first | (with_reducible assumption) | assumption)
              have hx5 := bt_at a0 x5_1
              replace p5 := eq_true p5
              replace q5 := eq_true q5
              go_wp2
              repeat (go_quiet (fail); try go_wp2)
              go_meet
              case rel => exact ⟨_, (false), (by first | rfl | (simp; done) | (simp [*]; done)), H', ⟨by have := HK1.out; first | omega | exact Nat.le_refl _⟩, by repeat (first | exact Drawn0.refl _ | apply Drawn0.step)⟩
          · rw [if_neg c4] at H
            exact absurd H (by simp)
        · rw [if_neg c3] at H
          have c3b0 : decide (x5_1 < (a0.size : Int)) = false := decide_eq_false c3
          clear c3
          (first | rw [c3b0] | (simp only [i64_w, i32_w]; rw [c3b0]) | skip)
          have H' := Aside0.mk H
          clear H
          go_wp2
          repeat (go_quiet (fail); try go_wp2)
          go_meet
          case rel => exact ⟨_, (false), (by first | rfl | (simp; done) | (simp [*]; done)), H', ⟨by have := HK1.out; first | omega | exact Nat.le_refl _⟩, by repeat (first | exact Drawn0.refl _ | apply Drawn0.step)⟩
      case rest =>
        clear HC2
        try clear c1
        try clear p2
        try clear c3
        try clear c3b0
        try clear c4
        try clear c4b0
        try clear p5
        try clear q5
        try clear hx5
        try clear c6
        try clear c6b0
        try clear p7
        try clear q7
        try clear hx7
        try clear p5
        try clear p7
        try clear q5
        try clear q7
        obtain ⟨kq, x21_1, rfl, HA, HJ1, ⟨mc1, rfl⟩⟩ := hcut
        cases kq with
        | zero => exact absurd HA.out (by simp [spec_number.j1])
        | succ kj1 =>
          have H := HA.out
          clear HA
          simp only [spec_number.j1] at H
          by_cases c8 : x21_1 = true
          · subst c8
            have H1 : (if 0 ≤ x5_1 then (if x5_1 < (a0.size : Int) then (if (wrap64 (x5_1 + 1)) > 9 then (some (0, a0, false)) else (spec_number.l0 kj1 a0 (IntKind.u64.wrap ((IntKind.u64.wrap (x2_1 * 10)) + (((bt a0 x5_1) - 48) % 256))) (wrap64 (x5_1 + 1)))) else (none)) else (none)) = some (r1, r2, r3) := by rw [if_pos rfl] at H; exact H
            clear H
            have H := H1
            clear H1
            by_cases c9 : 0 ≤ x5_1
            · rw [if_pos c9] at H
              have c9b0 : decide (0 ≤ x5_1) = true := decide_eq_true c9
              clear c9
              by_cases c10 : x5_1 < (a0.size : Int)
              · rw [if_pos c10] at H
                have c10b0 : decide (x5_1 < (a0.size : Int)) = true := decide_eq_true c10
                clear c10
                by_cases c12 : (wrap64 (x5_1 + 1)) > 9
                · rw [if_pos c12] at H
                  have c12b0 : decide (9 < (wrap64 (x5_1 + 1))) = true := decide_eq_true c12
                  clear c12
                  simp only [Option.some.injEq, Prod.mk.injEq] at H
                  obtain ⟨rfl, rfl, rfl⟩ := H
                  have p11 : 0 ≤ (x5_1 : Int) := of_decide_eq_true (by first | (with_reducible assumption) | assumption)
                  have q11 : x5_1 < (a0.size : Int) := of_decide_eq_true (by first | (with_reducible assumption) | assumption)
                  have hx11 := bt_at a0 x5_1
                  replace p11 := eq_true p11
                  replace q11 := eq_true q11
                  go_wp2
                  repeat (go_quiet (fail); try go_wp2)
                  go_ret3
                  exact ⟨by first | rfl | (simp; done) | (simp [*]; done), by repeat (first | exact Drawn0.refl _ | apply Drawn0.step)⟩
                · rw [if_neg c12] at H
                  have c12b0 : decide (9 < (wrap64 (x5_1 + 1))) = false := decide_eq_false c12
                  clear c12
                  have H' := Aside0.mk H
                  clear H
                  have p11 : 0 ≤ (x5_1 : Int) := of_decide_eq_true (by first | (with_reducible assumption) | assumption)
                  have q11 : x5_1 < (a0.size : Int) := of_decide_eq_true (by first | (with_reducible assumption) | assumption)
                  have hx11 := bt_at a0 x5_1
                  replace p11 := eq_true p11
                  replace q11 := eq_true q11
                  go_wp2
                  repeat (go_quiet (fail); try go_wp2)
                  go_roundg kj1
                  case measure => have := HK1.out; have := HJ1.out; omega
                  case rel => exact ⟨(IntKind.u64.wrap ((IntKind.u64.wrap (x2_1 * 10)) + (((bt a0 x5_1) - 48) % 256))), (wrap64 (x5_1 + 1)), (by first | rfl | (simp; done) | (simp [*]; done)), (by first | rfl | (simp; done) | (simp [*]; done)), H', ⟨by have := HK1.out; have := HJ1.out; omega⟩, by repeat (first | exact Drawn0.refl _ | apply Drawn0.step)⟩
              · rw [if_neg c10] at H
                exact absurd H (by simp)
            · rw [if_neg c9] at H
              exact absurd H (by simp)
          · replace c8 := Bool.eq_false_iff.mpr c8
            subst c8
            have H1 : (if 0 ≤ x5_1 then (if x5_1 ≤ (a0.size : Int) then (if x5_1 > 0 then (if x5_1 = 1 then (some (x2_1, a0.extract (x5_1 : Int).toNat a0.size, true)) else (if 0 < (a0.size : Int) then (some (x2_1, a0.extract (x5_1 : Int).toNat a0.size, ((bt a0 0) != 48))) else (none))) else (some (x2_1, a0.extract (x5_1 : Int).toNat a0.size, false))) else (none)) else (none)) = some (r1, r2, r3) := by rw [if_neg (show ¬ (false = true) by decide)] at H; exact H
            clear H
            have H := H1
            clear H1
            by_cases c13 : 0 ≤ x5_1
            · rw [if_pos c13] at H
              have c13b0 := eq_true c13
              have c13b1 : decide (0 ≤ x5_1) = true := decide_eq_true c13
              clear c13
              by_cases c14 : x5_1 ≤ (a0.size : Int)
              · rw [if_pos c14] at H
                have c14b0 := eq_true c14
                have c14b1 : decide (x5_1 ≤ (a0.size : Int)) = true := decide_eq_true c14
                clear c14
                by_cases c15 : x5_1 > 0
                · rw [if_pos c15] at H
                  have c15b0 : decide (0 < x5_1) = true := decide_eq_true c15
                  clear c15
                  by_cases c16 : x5_1 = 1
                  · rw [if_pos c16] at H
                    have c16b0 : (x5_1 == 1) = true := beq_iff_eq.mpr c16
                    have c16b1 : (x5_1 != 1) = false := bne_eq_false_iff_eq.mpr c16
                    clear c16
                    simp only [Option.some.injEq, Prod.mk.injEq] at H
                    obtain ⟨rfl, rfl, rfl⟩ := H
                    go_wp2
                    repeat (go_quiet (fail); try go_wp2)
                    go_ret3
                    exact ⟨by first | rfl | (simp; done) | (simp [*]; done), by repeat (first | exact Drawn0.refl _ | apply Drawn0.step)⟩
                  · rw [if_neg c16] at H
                    have c16b0 : (x5_1 == 1) = false := beq_eq_false_iff_ne.mpr c16
                    have c16b1 : (x5_1 != 1) = true := bne_iff_ne.mpr c16
                    by_cases c17 : 0 < (a0.size : Int)
                    · rw [if_pos c17] at H
                      have c17b0 : decide (0 < (a0.size : Int)) = true := decide_eq_true c17
                      have c17b1 : decide (0 < a0.size) = true := decide_eq_true (by omega)
                      clear c17
                      simp only [Option.some.injEq, Prod.mk.injEq] at H
                      obtain ⟨rfl, rfl, rfl⟩ := H
                      have p18 : 0 ≤ (0 : Int) := (by omega)
                      have q18 : 0 < a0.size := (by have : (0 : Int) < (a0.size : Int) := of_decide_eq_true (by first | (with_reducible assumption) | assumption); omega)
                      have hx18 : ∀ h : 0 < a0.size, ((a0[0]'h).toNat : Int) = bt a0 0 := bt_at a0 0
                      clear p18
                      have qi18 : (0 < (a0.size : Int)) = True := eq_true (of_decide_eq_true (by first | (with_reducible assumption) | assumption))
                      replace q18 := eq_true q18
                      go_wp2
                      repeat (go_quiet (fail); try go_wp2)
                      go_ret3
                      exact ⟨by first | rfl | (simp; done) | (simp [*]; done), by repeat (first | exact Drawn0.refl _ | apply Drawn0.step)⟩
                    · rw [if_neg c17] at H
                      exact absurd H (by simp)
                · rw [if_neg c15] at H
                  have c15b0 : decide (0 < x5_1) = false := decide_eq_false c15
                  clear c15
                  simp only [Option.some.injEq, Prod.mk.injEq] at H
                  obtain ⟨rfl, rfl, rfl⟩ := H
                  go_wp2
                  repeat (go_quiet (fail); try go_wp2)
                  go_ret3
                  exact ⟨by first | rfl | (simp; done) | (simp [*]; done), by repeat (first | exact Drawn0.refl _ | apply Drawn0.step)⟩
              · rw [if_neg c14] at H
                exact absurd H (by simp)
            · rw [if_neg c13] at H
              exact absurd H (by simp)

/-! ### spec_ParseVersion: function 5 -/
mutual
def spec_ParseVersion.j1 : Nat → ByteArray → Int → Int → Int → ByteArray → ByteArray → Option (Int × Int × Int × ByteArray × ByteArray × Bool)
  | 0, _, _, _, _, _, _ => none
  | k + 1, x0, x104000, x104001, x104002, x104003, x104004 => (spec_number.f k x0).bind fun bt105 => (if bt105.2.2 = true then (if (bt105.2.1.size : Int) = 0 then (spec_ParseVersion.j2 k bt105.2.1 true bt105.1 x104001 x104002 x104003 x104004) else (if 0 < (bt105.2.1.size : Int) then (spec_ParseVersion.j2 k bt105.2.1 ((bt bt105.2.1 0) != 46) bt105.1 x104001 x104002 x104003 x104004) else (none))) else (spec_ParseVersion.j2 k bt105.2.1 true bt105.1 x104001 x104002 x104003 x104004))
def spec_ParseVersion.j2 : Nat → ByteArray → Bool → Int → Int → Int → ByteArray → ByteArray → Option (Int × Int × Int × ByteArray × ByteArray × Bool)
  | 0, _, _, _, _, _, _, _ => none
  | k + 1, x5, x53, x104000, x104001, x104002, x104003, x104004 => if x53 = true then (some (0, 0, 0, (⟨#[]⟩ : ByteArray), (⟨#[]⟩ : ByteArray), false)) else (if 1 ≤ (x5.size : Int) then ((spec_number.f k (x5.extract 1 x5.size)).bind fun bt108 => (if bt108.2.2 = true then (if (bt108.2.1.size : Int) = 0 then (spec_ParseVersion.j3 k bt108.2.1 true x104000 bt108.1 x104002 x104003 x104004) else (if 0 < (bt108.2.1.size : Int) then (spec_ParseVersion.j3 k bt108.2.1 ((bt bt108.2.1 0) != 46) x104000 bt108.1 x104002 x104003 x104004) else (none))) else (spec_ParseVersion.j3 k bt108.2.1 true x104000 bt108.1 x104002 x104003 x104004))) else (none))
def spec_ParseVersion.j3 : Nat → ByteArray → Bool → Int → Int → Int → ByteArray → ByteArray → Option (Int × Int × Int × ByteArray × ByteArray × Bool)
  | 0, _, _, _, _, _, _, _ => none
  | k + 1, x5, x74, x104000, x104001, x104002, x104003, x104004 => if x74 = true then (some (0, 0, 0, (⟨#[]⟩ : ByteArray), (⟨#[]⟩ : ByteArray), false)) else (if 1 ≤ (x5.size : Int) then ((spec_number.f k (x5.extract 1 x5.size)).bind fun bt111 => (if bt111.2.2 = true then (if (bt111.2.1.size : Int) > 0 then (if 0 < (bt111.2.1.size : Int) then (if (bt bt111.2.1 0) = 45 then (if 1 ≤ (bt111.2.1.size : Int) then ((spec_parts.f k (bt111.2.1.extract 1 bt111.2.1.size) true).bind fun t114 => (if t114 = true then (some (x104000, x104001, bt111.1, bt111.2.1.extract 1 bt111.2.1.size, x104004, true)) else (some (0, 0, 0, (⟨#[]⟩ : ByteArray), (⟨#[]⟩ : ByteArray), false)))) else (none)) else (some (0, 0, 0, (⟨#[]⟩ : ByteArray), (⟨#[]⟩ : ByteArray), false))) else (none)) else (some (x104000, x104001, bt111.1, x104003, x104004, true))) else (some (0, 0, 0, (⟨#[]⟩ : ByteArray), (⟨#[]⟩ : ByteArray), false)))) else (none))
def spec_ParseVersion.l0 : Nat → ByteArray → Int → Int → Int → Int → ByteArray → ByteArray → Option (Int × Int × Int × ByteArray × ByteArray × Bool)
  | 0, _, _, _, _, _, _, _ => none
  | k + 1, x0, x4, x104000, x104001, x104002, x104003, x104004 => if x4 < (x0.size : Int) then (if 0 ≤ x4 then (if (bt x0 x4) = 43 then (if 0 ≤ (wrap64 (x4 + 1)) then (if (wrap64 (x4 + 1)) ≤ (x0.size : Int) then (if x4 ≤ (x0.size : Int) then ((spec_parts.f k (x0.extract ((wrap64 (x4 + 1)) : Int).toNat x0.size) false).bind fun t104 => (if t104 = true then (spec_ParseVersion.j1 k (x0.extract 0 (x4 : Int).toNat) x104000 x104001 x104002 x104003 (x0.extract ((wrap64 (x4 + 1)) : Int).toNat x0.size)) else (some (0, 0, 0, (⟨#[]⟩ : ByteArray), (⟨#[]⟩ : ByteArray), false)))) else (none)) else (none)) else (none)) else (spec_ParseVersion.l0 k x0 (wrap64 (x4 + 1)) x104000 x104001 x104002 x104003 x104004)) else (none)) else (spec_ParseVersion.j1 k x0 x104000 x104001 x104002 x104003 x104004)
end
def spec_ParseVersion.f (k : Nat) (a0 : ByteArray) : Option (Int × Int × Int × ByteArray × ByteArray × Bool) := if (a0.size : Int) > 100 then (some (0, 0, 0, (⟨#[]⟩ : ByteArray), (⟨#[]⟩ : ByteArray), false)) else (spec_ParseVersion.l0 k a0 0 0 0 0 (⟨#[]⟩ : ByteArray) (⟨#[]⟩ : ByteArray))
theorem spec_ParseVersion.mono_l : ∀ k, (∀ y0 y1 y2 y3 y4 y5, LeO (spec_ParseVersion.j1 k y0 y1 y2 y3 y4 y5) (spec_ParseVersion.j1 (k + 1) y0 y1 y2 y3 y4 y5)) ∧ (∀ y0 y1 y2 y3 y4 y5 y6, LeO (spec_ParseVersion.j2 k y0 y1 y2 y3 y4 y5 y6) (spec_ParseVersion.j2 (k + 1) y0 y1 y2 y3 y4 y5 y6)) ∧ (∀ y0 y1 y2 y3 y4 y5 y6, LeO (spec_ParseVersion.j3 k y0 y1 y2 y3 y4 y5 y6) (spec_ParseVersion.j3 (k + 1) y0 y1 y2 y3 y4 y5 y6)) ∧ (∀ y0 y1 y2 y3 y4 y5 y6, LeO (spec_ParseVersion.l0 k y0 y1 y2 y3 y4 y5 y6) (spec_ParseVersion.l0 (k + 1) y0 y1 y2 y3 y4 y5 y6))
  | 0 => ⟨fun _ _ _ _ _ _ r h => by simp [spec_ParseVersion.j1] at h, fun _ _ _ _ _ _ _ r h => by simp [spec_ParseVersion.j2] at h, fun _ _ _ _ _ _ _ r h => by simp [spec_ParseVersion.j3] at h, fun _ _ _ _ _ _ _ r h => by simp [spec_ParseVersion.l0] at h⟩
  | k + 1 => by
    obtain ⟨ih0, ih1, ih2, ih3⟩ := spec_ParseVersion.mono_l k
    refine ⟨?_, ?_, ?_, ?_⟩
    · intro y0 y1 y2 y3 y4 y5
      unfold spec_ParseVersion.j1
      repeat' first
      | (with_reducible exact ih0 _ _ _ _ _ _)
      | (with_reducible exact ih1 _ _ _ _ _ _ _)
      | (with_reducible exact ih2 _ _ _ _ _ _ _)
      | (with_reducible exact ih3 _ _ _ _ _ _ _)
      | (with_reducible exact spec_number.mono _ _)
      | (with_reducible exact spec_parts.mono _ _ _)
      | (with_reducible exact LeO.refl _)
      | (with_reducible exact LeO.none _)
      | (with_reducible refine LeO.ite ?_ ?_)
      | (with_reducible refine LeO.bind ?_ (fun _ => ?_))
      | exact ih0 _ _ _ _ _ _
      | exact ih1 _ _ _ _ _ _ _
      | exact ih2 _ _ _ _ _ _ _
      | exact ih3 _ _ _ _ _ _ _
      | exact spec_number.mono _ _
      | exact spec_parts.mono _ _ _
      | exact LeO.none _
      | refine LeO.ite ?_ ?_
      | refine LeO.bind ?_ (fun _ => ?_)
    · intro y0 y1 y2 y3 y4 y5 y6
      unfold spec_ParseVersion.j2
      repeat' first
      | (with_reducible exact ih0 _ _ _ _ _ _)
      | (with_reducible exact ih1 _ _ _ _ _ _ _)
      | (with_reducible exact ih2 _ _ _ _ _ _ _)
      | (with_reducible exact ih3 _ _ _ _ _ _ _)
      | (with_reducible exact spec_number.mono _ _)
      | (with_reducible exact spec_parts.mono _ _ _)
      | (with_reducible exact LeO.refl _)
      | (with_reducible exact LeO.none _)
      | (with_reducible refine LeO.ite ?_ ?_)
      | (with_reducible refine LeO.bind ?_ (fun _ => ?_))
      | exact ih0 _ _ _ _ _ _
      | exact ih1 _ _ _ _ _ _ _
      | exact ih2 _ _ _ _ _ _ _
      | exact ih3 _ _ _ _ _ _ _
      | exact spec_number.mono _ _
      | exact spec_parts.mono _ _ _
      | exact LeO.none _
      | refine LeO.ite ?_ ?_
      | refine LeO.bind ?_ (fun _ => ?_)
    · intro y0 y1 y2 y3 y4 y5 y6
      unfold spec_ParseVersion.j3
      repeat' first
      | (with_reducible exact ih0 _ _ _ _ _ _)
      | (with_reducible exact ih1 _ _ _ _ _ _ _)
      | (with_reducible exact ih2 _ _ _ _ _ _ _)
      | (with_reducible exact ih3 _ _ _ _ _ _ _)
      | (with_reducible exact spec_number.mono _ _)
      | (with_reducible exact spec_parts.mono _ _ _)
      | (with_reducible exact LeO.refl _)
      | (with_reducible exact LeO.none _)
      | (with_reducible refine LeO.ite ?_ ?_)
      | (with_reducible refine LeO.bind ?_ (fun _ => ?_))
      | exact ih0 _ _ _ _ _ _
      | exact ih1 _ _ _ _ _ _ _
      | exact ih2 _ _ _ _ _ _ _
      | exact ih3 _ _ _ _ _ _ _
      | exact spec_number.mono _ _
      | exact spec_parts.mono _ _ _
      | exact LeO.none _
      | refine LeO.ite ?_ ?_
      | refine LeO.bind ?_ (fun _ => ?_)
    · intro y0 y1 y2 y3 y4 y5 y6
      unfold spec_ParseVersion.l0
      repeat' first
      | (with_reducible exact ih0 _ _ _ _ _ _)
      | (with_reducible exact ih1 _ _ _ _ _ _ _)
      | (with_reducible exact ih2 _ _ _ _ _ _ _)
      | (with_reducible exact ih3 _ _ _ _ _ _ _)
      | (with_reducible exact spec_number.mono _ _)
      | (with_reducible exact spec_parts.mono _ _ _)
      | (with_reducible exact LeO.refl _)
      | (with_reducible exact LeO.none _)
      | (with_reducible refine LeO.ite ?_ ?_)
      | (with_reducible refine LeO.bind ?_ (fun _ => ?_))
      | exact ih0 _ _ _ _ _ _
      | exact ih1 _ _ _ _ _ _ _
      | exact ih2 _ _ _ _ _ _ _
      | exact ih3 _ _ _ _ _ _ _
      | exact spec_number.mono _ _
      | exact spec_parts.mono _ _ _
      | exact LeO.none _
      | refine LeO.ite ?_ ?_
      | refine LeO.bind ?_ (fun _ => ?_)
theorem spec_ParseVersion.mono : ∀ a0 k, LeO (spec_ParseVersion.f k a0) (spec_ParseVersion.f (k + 1) a0) := by
  intro a0 k
  obtain ⟨ih0, ih1, ih2, ih3⟩ := spec_ParseVersion.mono_l k
  unfold spec_ParseVersion.f
  repeat' first
      | (with_reducible exact ih0 _ _ _ _ _ _)
      | (with_reducible exact ih1 _ _ _ _ _ _ _)
      | (with_reducible exact ih2 _ _ _ _ _ _ _)
      | (with_reducible exact ih3 _ _ _ _ _ _ _)
      | (with_reducible exact spec_number.mono _ _)
      | (with_reducible exact spec_parts.mono _ _ _)
      | (with_reducible exact LeO.refl _)
      | (with_reducible exact LeO.none _)
      | (with_reducible refine LeO.ite ?_ ?_)
      | (with_reducible refine LeO.bind ?_ (fun _ => ?_))
      | exact ih0 _ _ _ _ _ _
      | exact ih1 _ _ _ _ _ _ _
      | exact ih2 _ _ _ _ _ _ _
      | exact ih3 _ _ _ _ _ _ _
      | exact spec_number.mono _ _
      | exact spec_parts.mono _ _ _
      | exact LeO.none _
      | refine LeO.ite ?_ ?_
      | refine LeO.bind ?_ (fun _ => ?_)
def spec_ParseVersion.T7 : Bool × List (List Nat × List Nat) := (true, [([], []), ([], []), ([1], [1]), ([0, 2], [0, 2]), ([], []), ([], []), ([4, 5], [4, 5]), ([0, 1, 2, 3], []), ([7, 3, 0, 1, 2, 3], [3, 7]), ([6, 8, 0, 1, 2, 3, 4, 5, 6, 7, 8], [0, 4, 6])])
def spec_ParseVersion.B7 : List Nat := [0, 0, 2, 7, 0, 0, 48, 15, 143, 511]
theorem spec_ParseVersion.tab7 : rtab .any (opsOf Tryz.f5 7) = spec_ParseVersion.T7 := by kernel_rfl
theorem spec_ParseVersion.bits7 : waitsOk spec_ParseVersion.T7.2 spec_ParseVersion.B7 = true := by kernel_rfl
set_option maxHeartbeats 8000000 in
set_option maxRecDepth 100000 in
theorem spec_ParseVersion.calls (k : Nat) (a0 : ByteArray) (r1 : Int) (r2 : Int) (r3 : Int) (r4 : ByteArray) (r5 : ByteArray) (r6 : Bool) (w : World) (h : spec_ParseVersion.f k a0 = some (r1, r2, r3, r4, r5, r6)) :
    Calls Tryz.prog 5 #[.string a0] w fun e w' => e = .returned (.tuple #[.agg #[.int .u64 r1, .int .u64 r2, .int .u64 r3, .string r4, .string r5], .bool r6]) ∧ Below w.heap.size w w' := by
  have hu26 := Tryz.underlying26
  have HB := Aside0.mk (Below.refl w.heap.size w)
  have H : (if (a0.size : Int) > 100 then (some (0, 0, 0, (⟨#[]⟩ : ByteArray), (⟨#[]⟩ : ByteArray), false)) else (spec_ParseVersion.l0 k a0 0 0 0 0 (⟨#[]⟩ : ByteArray) (⟨#[]⟩ : ByteArray))) = some (r1, r2, r3, r4, r5, r6) := h
  clear h
  by_cases c2 : (a0.size : Int) > 100
  · rw [if_pos c2] at H
    have c2b0 : decide (100 < (a0.size : Int)) = true := decide_eq_true c2
    have c2b1 : decide (100 < a0.size) = true := decide_eq_true (by omega)
    clear c2
    simp only [Option.some.injEq, Prod.mk.injEq] at H
    obtain ⟨rfl, rfl, rfl, rfl, rfl, rfl⟩ := H
    go_enter Tryz.func5, Tryz.ntmps5
    go_wp2_with (first | ((with_reducible refine gate_dst (N := 2) rfl ?_); (try (refine gate_guard (by rfl) ?_; dsimp only)); refine box_event ?hg (N := 2) ?hd (cs := #[.int .u64 0, .int .u64 0, .int .u64 0, .string (⟨#[]⟩ : ByteArray), .string (⟨#[]⟩ : ByteArray)]) (t := 26) ?hr ?_; (case hd => rfl); (case hg => rfl); (case hr => first | (go_simp; done) | (go_simp; rfl)); intro gb103 hg w3 hbox hb; have n0_ := Aside0.mk (below_step (by repeat (first | (with_reducible first | exact HB.out | apply below_alloc | apply pw_below_drewN | apply below_drew1) | exact HB.out)) hb); have n1_ := Aside0.mk (hbox); have n2_ := Aside0.mk ((by rw [hg]; exact (below_size (by repeat (first | (with_reducible first | exact HB.out | apply below_alloc | apply pw_below_drewN | apply below_drew1) | exact HB.out))) : w.heap.size ≤ gb103)); have n3_ := Aside0.mk ((by rw [hg]; exact (below_size (by repeat (first | (with_reducible first | exact HB.out | apply below_alloc | apply pw_below_drewN | apply below_drew1) | exact HB.out))) : w.heap.size ≤ gb103)); clear HB; have HB := n0_; have BK103 := n1_; have GW103 := n2_; have GE103 := n3_; clear n0_ n1_ n2_ n3_; clear hb hbox hg; have hcz4_0 : w3.cell? ⟨gb103, 0, none⟩ = some (.int .u64 0) := (blk_cell BK103.out 0).trans rfl; have hcz4_1 : w3.cell? ⟨gb103, 1, none⟩ = some (.int .u64 0) := (blk_cell BK103.out 1).trans rfl; have hcz4_2 : w3.cell? ⟨gb103, 2, none⟩ = some (.int .u64 0) := (blk_cell BK103.out 2).trans rfl; have hcz4_3 : w3.cell? ⟨gb103, 3, none⟩ = some (.string (⟨#[]⟩ : ByteArray)) := (blk_cell BK103.out 3).trans rfl; have hcz4_4 : w3.cell? ⟨gb103, 4, none⟩ = some (.string (⟨#[]⟩ : ByteArray)) := (blk_cell BK103.out 4).trans rfl; have hfz4_0 := blk_frozen BK103.out 0; have hfz4_1 := blk_frozen BK103.out 1; have hfz4_2 := blk_frozen BK103.out 2; have hfz4_3 := blk_frozen BK103.out 3; have hfz4_4 := blk_frozen BK103.out 4))
    refine bodyPost_ret (results_ct rfl _ _ gb103 26 #[.int .u64 0, .int .u64 0, .int .u64 0, .string (⟨#[]⟩ : ByteArray), .string (⟨#[]⟩ : ByteArray)] (0, 0) _ rfl (by (with_reducible repeat (first | refine blk_drewN ?_ _ | refine blk_drew ?_ | refine blk_alloc ?_ _)); refine blk_put (cs := #[.int .u64 0, .int .u64 0, .int .u64 0, .string (⟨#[]⟩ : ByteArray), .string (⟨#[]⟩ : ByteArray)]) ?_ 4 _ rfl; (with_reducible repeat (first | refine blk_drewN ?_ _ | refine blk_drew ?_ | refine blk_alloc ?_ _)); refine blk_put (cs := #[.int .u64 0, .int .u64 0, .int .u64 0, .string (⟨#[]⟩ : ByteArray), .string (⟨#[]⟩ : ByteArray)]) ?_ 3 _ rfl; (with_reducible repeat (first | refine blk_drewN ?_ _ | refine blk_drew ?_ | refine blk_alloc ?_ _)); refine blk_put (cs := #[.int .u64 0, .int .u64 0, .int .u64 0, .string (⟨#[]⟩ : ByteArray), .string (⟨#[]⟩ : ByteArray)]) ?_ 2 _ rfl; (with_reducible repeat (first | refine blk_drewN ?_ _ | refine blk_drew ?_ | refine blk_alloc ?_ _)); refine blk_put (cs := #[.int .u64 0, .int .u64 0, .int .u64 0, .string (⟨#[]⟩ : ByteArray), .string (⟨#[]⟩ : ByteArray)]) ?_ 1 _ rfl; (with_reducible repeat (first | refine blk_drewN ?_ _ | refine blk_drew ?_ | refine blk_alloc ?_ _)); refine blk_put (cs := #[.int .u64 0, .int .u64 0, .int .u64 0, .string (⟨#[]⟩ : ByteArray), .string (⟨#[]⟩ : ByteArray)]) ?_ 0 _ rfl; (with_reducible repeat (first | refine blk_drewN ?_ _ | refine blk_drew ?_ | refine blk_alloc ?_ _)); exact BK103.out) Tryz.underlying26 rfl (by kernel_rfl)) rfl ?_
    exact ⟨by first | rfl | (simp [errW_none, errW_some] <;> rfl) | (simp [*, errW_none, errW_some] <;> rfl), by repeat (first | (with_reducible first | exact HB.out | apply below_alloc | apply pw_below_drewN | apply below_drew1 | refine below_set ?_ GE103.out) | exact HB.out)⟩
  · rw [if_neg c2] at H
    have c2b0 : decide (100 < (a0.size : Int)) = false := decide_eq_false c2
    have c2b1 : decide (100 < a0.size) = false := decide_eq_false (by omega)
    clear c2
    have HC5 := Aside0.mk H
    clear H
    go_enter Tryz.func5, Tryz.ntmps5
    go_upto_block 0 with (first | ((with_reducible refine gate_dst (N := 2) rfl ?_); (try (refine gate_guard (by rfl) ?_; dsimp only)); refine box_event ?hg (N := 2) ?hd (cs := #[.int .u64 0, .int .u64 0, .int .u64 0, .string (⟨#[]⟩ : ByteArray), .string (⟨#[]⟩ : ByteArray)]) (t := 26) ?hr ?_; (case hd => rfl); (case hg => rfl); (case hr => first | (go_simp; done) | (go_simp; rfl)); intro gb103 hg w6 hbox hb; have n0_ := Aside0.mk (below_step (by repeat (first | (with_reducible first | exact HB.out | apply below_alloc | apply pw_below_drewN | apply below_drew1) | exact HB.out)) hb); have n1_ := Aside0.mk (hbox); have n2_ := Aside0.mk ((by rw [hg]; exact (below_size (by repeat (first | (with_reducible first | exact HB.out | apply below_alloc | apply pw_below_drewN | apply below_drew1) | exact HB.out))) : w.heap.size ≤ gb103)); have n3_ := Aside0.mk ((by rw [hg]; exact (below_size (by repeat (first | (with_reducible first | exact HB.out | apply below_alloc | apply pw_below_drewN | apply below_drew1) | exact HB.out))) : w.heap.size ≤ gb103)); clear HB; have HB := n0_; have BK103 := n1_; have GW103 := n2_; have GE103 := n3_; clear n0_ n1_ n2_ n3_; clear hb hbox hg))
    (try simp only [Act.put, List.setIfInBounds_toArray, List.set_cons_zero, List.set_cons_succ])
    go_cut [0] (fun v0 wc => ∃ (kq : Nat) (x0_4 : ByteArray) (x104000_4 : Int) (x104001_4 : Int) (x104002_4 : Int) (x104003_4 : ByteArray) (x104004_4 : ByteArray), v0 = .string x0_4 ∧ Aside0 (spec_ParseVersion.j1 kq x0_4 x104000_4 x104001_4 x104002_4 x104003_4 x104004_4 = some (r1, r2, r3, r4, r5, r6)) ∧ Aside0 (kq ≤ k) ∧ Aside0 (wc.heap[gb103]? = some (.cells #[.int .u64 x104000_4, .int .u64 x104001_4, .int .u64 x104002_4, .string x104003_4, .string x104004_4] 26 (0, 0))) ∧ Aside0 (Below w.heap.size w wc))
    case first =>
      have H := HC5.out
      clear HC5
      have H' := Aside0.mk H
      clear H
      go_wp2
      go_loopg [0, 4] k (fun kq v0 v4 w' => ∃ (x0_1 : ByteArray) (x4_1 : Int) (x104000_1 : Int) (x104001_1 : Int) (x104002_1 : Int) (x104003_1 : ByteArray) (x104004_1 : ByteArray), v0 = .string x0_1 ∧ v4 = .int .i64 x4_1 ∧ Aside0 (spec_ParseVersion.l0 kq x0_1 x4_1 x104000_1 x104001_1 x104002_1 x104003_1 x104004_1 = some (r1, r2, r3, r4, r5, r6)) ∧ Aside0 (kq ≤ k) ∧ Aside0 (w'.heap[gb103]? = some (.cells #[.int .u64 x104000_1, .int .u64 x104001_1, .int .u64 x104002_1, .string x104003_1, .string x104004_1] 26 (0, 0))) ∧ Aside0 (Below w.heap.size w w'))
      case atStart => exact ⟨(a0), (0), (0), (0), (0), ((⟨#[]⟩ : ByteArray)), ((⟨#[]⟩ : ByteArray)), (by first | rfl | (simp; done) | (simp [*]; done)), (by first | rfl | (simp; done) | (simp [*]; done)), H', ⟨Nat.le_refl _⟩, ⟨by (with_reducible repeat (first | refine blk_drewN ?_ _ | refine blk_drew ?_ | refine blk_alloc ?_ _)); exact BK103.out⟩, ⟨by repeat (first | (with_reducible first | exact HB.out | apply below_alloc | apply pw_below_drewN | apply below_drew1 | refine below_set ?_ GE103.out) | exact HB.out)⟩⟩
      case round =>
        clear H'
        try clear c2
        try clear c2b0
        try clear c2b1
        try clear p2
        try clear c5
        try clear hcz4_0
        try clear hcz4_1
        try clear hcz4_2
        try clear hcz4_3
        try clear hcz4_4
        try clear hfz4_0
        try clear hfz4_1
        try clear hfz4_2
        try clear hfz4_3
        try clear hfz4_4
        obtain ⟨x0_1, x4_1, x104000_1, x104001_1, x104002_1, x104003_1, x104004_1, rfl, rfl, HA, HK1, BK103, HB⟩ := hrel
        cases gk with
        | zero => exact absurd HA.out (by simp [spec_ParseVersion.l0])
        | succ k1 =>
          have H := HA.out
          clear HA
          simp only [spec_ParseVersion.l0] at H
          by_cases c7 : x4_1 < (x0_1.size : Int)
          · rw [if_pos c7] at H
            have c7b0 : decide (x4_1 < (x0_1.size : Int)) = true := decide_eq_true c7
            clear c7
            (first | rw [c7b0] | (simp only [i64_w, i32_w]; rw [c7b0]) | skip)
            by_cases c8 : 0 ≤ x4_1
            · rw [if_pos c8] at H
              have c8b0 : decide (0 ≤ x4_1) = true := decide_eq_true c8
              clear c8
              by_cases c10 : (bt x0_1 x4_1) = 43
              · rw [if_pos c10] at H
                have c10b0 : ((bt x0_1 x4_1) == 43) = true := beq_iff_eq.mpr c10
                have c10b1 : ((bt x0_1 x4_1) != 43) = false := bne_eq_false_iff_eq.mpr c10
                clear c10
                obtain ⟨ji11, hji11⟩ : ∃ j_ : Int, (wrap64 (x4_1 + 1)) = j_ := ⟨_, rfl⟩
                replace H : (if 0 ≤ (ji11) then (if (ji11) ≤ (x0_1.size : Int) then (if x4_1 ≤ (x0_1.size : Int) then ((spec_parts.f k1 (x0_1.extract ((ji11) : Int).toNat x0_1.size) false).bind fun t104 => (if t104 = true then (spec_ParseVersion.j1 k1 (x0_1.extract 0 (x4_1 : Int).toNat) x104000_1 x104001_1 x104002_1 x104003_1 (x0_1.extract ((ji11) : Int).toNat x0_1.size)) else (some (0, 0, 0, (⟨#[]⟩ : ByteArray), (⟨#[]⟩ : ByteArray), false)))) else (none)) else (none)) else (none)) = some (r1, r2, r3, r4, r5, r6) := by first | (rw [hji11] at H; exact H) | (simp only [hji11] at H ⊢; exact H)
                have hji11w : (IntKind.i64.wrap (x4_1 + 1)) = ji11 := (i64_w _).trans hji11
                by_cases c12 : 0 ≤ (ji11)
                · rw [if_pos c12] at H
                  have c12b0 := eq_true c12
                  have c12b1 : decide (0 ≤ (ji11)) = true := decide_eq_true c12
                  clear c12
                  by_cases c13 : (ji11) ≤ (x0_1.size : Int)
                  · rw [if_pos c13] at H
                    have c13b0 := eq_true c13
                    have c13b1 : decide ((ji11) ≤ (x0_1.size : Int)) = true := decide_eq_true c13
                    clear c13
                    have c14b0 := eq_true (of_decide_eq_true (by first | (with_reducible assumption) | assumption) : 0 ≤ x4_1)
                    by_cases c15 : x4_1 ≤ (x0_1.size : Int)
                    · rw [if_pos c15] at H
                      have c15b0 := eq_true c15
                      have c15b1 : decide (x4_1 ≤ (x0_1.size : Int)) = true := decide_eq_true c15
                      clear c15
                      replace H := Option.bind_eq_some_iff.mp H
                      obtain ⟨t104, A160, H⟩ := H
                      replace H : (if t104 = true then (spec_ParseVersion.j1 k1 (x0_1.extract 0 (x4_1 : Int).toNat) x104000_1 x104001_1 x104002_1 x104003_1 (x0_1.extract ((ji11) : Int).toNat x0_1.size)) else (some (0, 0, 0, (⟨#[]⟩ : ByteArray), (⟨#[]⟩ : ByteArray), false))) = some (r1, r2, r3, r4, r5, r6) := H
                      have A16 := Aside0.mk A160
                      clear A160
                      by_cases c17 : t104 = true
                      · subst c17
                        have H1 : (spec_ParseVersion.j1 k1 (x0_1.extract 0 (x4_1 : Int).toNat) x104000_1 x104001_1 x104002_1 x104003_1 (x0_1.extract ((ji11) : Int).toNat x0_1.size)) = some (r1, r2, r3, r4, r5, r6) := by rw [if_pos rfl] at H; exact H
                        clear H
                        have H := H1
                        clear H1
                        have H' := Aside0.mk H
                        clear H
                        have p9 : 0 ≤ (x4_1 : Int) := of_decide_eq_true (by first | (with_reducible assumption) | assumption)
                        have q9 : x4_1 < (x0_1.size : Int) := of_decide_eq_true (by first | (with_reducible assumption) | assumption)
                        have hx9 := bt_at x0_1 x4_1
                        replace p9 := eq_true p9
                        replace q9 := eq_true q9
                        try go_wp2
                        have n0_ := Aside0.mk (blk_drew BK103.out)
                        have n1_ := Aside0.mk (below_drew1 HB.out)
                        clear BK103
                        clear HB
                        have BK103 := n0_
                        have HB := n1_
                        clear n0_ n1_
                        refine start_ (n := 10) (S := fun w' => True) (ds := []) #[false, false, false, false, false, false, false, false, false, false] (by kernel_rfl) rfl rfl trivial (fun hHeld => ?_); refine with_tabW spec_ParseVersion.tab7 spec_ParseVersion.bits7 (fun HT_ HW_ => ?_)
                        generalize wr.drew = w18 at BK103 HB hHeld ⊢
                        refine pure_ (i := 0) (N := some 21) (v := ?_) (a' := ?_) #[true, false, false, false, false, false, false, false, false, false] rfl rfl (any_of HT_.out (by kernel_rfl)) (fun _ _ _ h => h) (Or.inl ⟨by rfl, ?_⟩) ?_ ?_
                        rotate_left
                        · intro w'
                          go_simp
                          with_reducible rfl
                        rotate_left
                        · simp only [Act.put, List.setIfInBounds_toArray, List.set_cons_zero, List.set_cons_succ, i64_w, i32_w]
                          rfl
                        refine pure_ (i := 1) (N := some 22) (v := ?_) (a' := ?_) #[true, true, false, false, false, false, false, false, false, false] rfl rfl (any_of HT_.out (by kernel_rfl)) (fun _ _ _ h => h) (Or.inl ⟨by rfl, ?_⟩) ?_ ?_
                        rotate_left
                        · intro w'
                          go_simp
                          with_reducible rfl
                        rotate_left
                        · simp only [Act.put, List.setIfInBounds_toArray, List.set_cons_zero, List.set_cons_succ, i64_w, i32_w]
                          rfl
                        refine pure_ (i := 2) (N := some 23) (v := ?_) (a' := ?_) #[true, true, true, false, false, false, false, false, false, false] rfl rfl (any_of HT_.out (by kernel_rfl)) (fun _ _ _ h => h) (Or.inl ⟨by rfl, ?_⟩) ?_ ?_
                        rotate_left
                        · intro w'
                          go_simp
                          with_reducible rfl
                        rotate_left
                        · simp only [Act.put, List.setIfInBounds_toArray, List.set_cons_zero, List.set_cons_succ, i64_w, i32_w]
                          rfl
                        refine pure_ (i := 3) (N := some 24) (v := ?_) (a' := ?_) #[true, true, true, true, false, false, false, false, false, false] rfl rfl (any_of HT_.out (by kernel_rfl)) (fun _ _ _ h => h) (Or.inl ⟨by rfl, ?_⟩) ?_ ?_
                        rotate_left
                        · intro w'
                          go_simp
                          with_reducible rfl
                        rotate_left
                        · simp only [Act.put, List.setIfInBounds_toArray, List.set_cons_zero, List.set_cons_succ, i64_w, i32_w]
                          rfl
                        refine pure_ (i := 4) (N := some 25) (v := ?_) (a' := ?_) #[true, true, true, true, true, false, false, false, false, false] rfl rfl (any_of HT_.out (by kernel_rfl)) (fun _ _ _ h => h) (Or.inl ⟨by rfl, ?_⟩) ?_ ?_
                        rotate_left
                        · intro w'
                          go_simp
                          with_reducible rfl
                        rotate_left
                        · simp only [Act.put, List.setIfInBounds_toArray, List.set_cons_zero, List.set_cons_succ, i64_w, i32_w]
                          rfl
                        refine pure_ (i := 5) (N := some 26) (v := ?_) (a' := ?_) #[true, true, true, true, true, true, false, false, false, false] rfl rfl (any_of HT_.out (by kernel_rfl)) (fun _ _ _ h => h) (Or.inl ⟨by rfl, ?_⟩) ?_ ?_
                        rotate_left
                        · intro w'
                          go_simp
                          with_reducible rfl
                        rotate_left
                        · simp only [Act.put, List.setIfInBounds_toArray, List.set_cons_zero, List.set_cons_succ, i64_w, i32_w]
                          rfl
                        refine pure_ (i := 6) (N := some 27) (v := ?_) (a' := ?_) #[true, true, true, true, true, true, true, false, false, false] rfl rfl (any_of HT_.out (by kernel_rfl)) (fun _ _ _ h => h) (Or.inl ⟨by rfl, ?_⟩) ?_ ?_
                        rotate_left
                        · intro w'
                          go_simp
                          with_reducible rfl
                        rotate_left
                        · simp only [Act.put, List.setIfInBounds_toArray, List.set_cons_zero, List.set_cons_succ, i64_w, i32_w]
                          rfl
                        refine pure_ (i := 7) (N := some 28) (v := ?_) (a' := ?_) #[true, true, true, true, true, true, true, true, false, false] rfl rfl (any_of HT_.out (by kernel_rfl)) (fun _ _ _ h => h) (Or.inl ⟨by rfl, ?_⟩) ?_ ?_
                        rotate_left
                        · intro w'
                          go_simp
                          with_reducible rfl
                        rotate_left
                        · simp only [Act.put, List.setIfInBounds_toArray, List.set_cons_zero, List.set_cons_succ, i64_w, i32_w]
                          rfl
                        refine one_ (i := 8) (N := none) #[true, true, true, true, true, true, true, true, true, false] rfl rfl (one_of HT_.out (by kernel_rfl)) (by decide) (fun K hK => ?_)
                        have hs19 : w18.cell? ⟨gb103, 4, none⟩ = some (.string x104004_1) := (blk_cell BK103.out 4).trans rfl
                        have hfs19 := blk_frozen BK103.out 4
                        refine skip_ (w1 := ?_) (by rfl) rfl ?_ ?_
                        rotate_left
                        · go_simp
                          rfl
                        refine hK.out _ _ trivial (fun hHeld => ?_)
                        clear hK K
                        refine pure_ (i := 9) (N := some 0) (v := ?_) (a' := ?_) #[true, true, true, true, true, true, true, true, true, true] rfl rfl (any_of HT_.out (by kernel_rfl)) (fun _ _ _ h => h) (Or.inl ⟨by rfl, ?_⟩) ?_ ?_
                        rotate_left
                        · intro w'
                          go_simp
                          with_reducible rfl
                        rotate_left
                        · simp only [Act.put, List.setIfInBounds_toArray, List.set_cons_zero, List.set_cons_succ, i64_w, i32_w]
                          rfl
                        refine done_ (done_of HT_.out (by kernel_rfl)) ?_
                        have hcz20_0 : w18.cell? ⟨gb103, 0, none⟩ = some (.int .u64 x104000_1) := (blk_cell BK103.out 0).trans rfl
                        have hcz20_1 : w18.cell? ⟨gb103, 1, none⟩ = some (.int .u64 x104001_1) := (blk_cell BK103.out 1).trans rfl
                        have hcz20_2 : w18.cell? ⟨gb103, 2, none⟩ = some (.int .u64 x104002_1) := (blk_cell BK103.out 2).trans rfl
                        have hcz20_3 : w18.cell? ⟨gb103, 3, none⟩ = some (.string x104003_1) := (blk_cell BK103.out 3).trans rfl
                        have hcz20_4 : w18.cell? ⟨gb103, 4, none⟩ = some (.string x104004_1) := (blk_cell BK103.out 4).trans rfl
                        have hfz20_0 := blk_frozen BK103.out 0
                        have hfz20_1 := blk_frozen BK103.out 1
                        have hfz20_2 := blk_frozen BK103.out 2
                        have hfz20_3 := blk_frozen BK103.out 3
                        have hfz20_4 := blk_frozen BK103.out 4
                        try go_wp2_with (first | ((with_reducible refine gate_callee (f := 11) rfl ?_); refine goesL_ (some 31) rfl rfl Tryz.func11 (by kernel_rfl) rfl #[.string (x0_1.extract ((ji11) : Int).toNat x0_1.size), .bool false] rfl (by (try simp only [List.map_toArray, List.map_cons, List.map_nil]); first | done | (simp only [hji11]; rfl) | rfl | (simp only [List.length_drop, List.length_take]; rfl)) ?_; (with_reducible refine (spec_parts.calls k1 (x0_1.extract ((ji11) : Int).toNat x0_1.size) false true _ A16.out).mono ?_); rintro e w' ⟨rfl, ⟨nd, rfl⟩⟩; refine ⟨_, rfl, ?_⟩))
                        go_meet
                        case rel => exact ⟨_, (x0_1.extract 0 (x4_1 : Int).toNat), (x104000_1), (x104001_1), (x104002_1), (x104003_1), (x0_1.extract ((ji11) : Int).toNat x0_1.size), (by first | rfl | (simp; done) | (simp [*]; done)), H', ⟨by have := HK1.out; first | omega | exact Nat.le_refl _⟩, ⟨by (with_reducible repeat (first | refine blk_drewN ?_ _ | refine blk_drew ?_ | refine blk_alloc ?_ _)); refine blk_put (cs := #[.int .u64 x104000_1, .int .u64 x104001_1, .int .u64 x104002_1, .string x104003_1, .string x104004_1]) ?_ 4 _ rfl; (with_reducible repeat (first | refine blk_drewN ?_ _ | refine blk_drew ?_ | refine blk_alloc ?_ _)); exact BK103.out⟩, ⟨by repeat (first | (with_reducible first | exact HB.out | apply below_alloc | apply pw_below_drewN | apply below_drew1 | refine below_set ?_ GE103.out) | exact HB.out)⟩⟩
                      · replace c17 := Bool.eq_false_iff.mpr c17
                        subst c17
                        have H1 : (some (0, 0, 0, (⟨#[]⟩ : ByteArray), (⟨#[]⟩ : ByteArray), false)) = some (r1, r2, r3, r4, r5, r6) := by rw [if_neg (show ¬ (false = true) by decide)] at H; exact H
                        clear H
                        have H := H1
                        clear H1
                        simp only [Option.some.injEq, Prod.mk.injEq] at H
                        obtain ⟨rfl, rfl, rfl, rfl, rfl, rfl⟩ := H
                        have p9 : 0 ≤ (x4_1 : Int) := of_decide_eq_true (by first | (with_reducible assumption) | assumption)
                        have q9 : x4_1 < (x0_1.size : Int) := of_decide_eq_true (by first | (with_reducible assumption) | assumption)
                        have hx9 := bt_at x0_1 x4_1
                        replace p9 := eq_true p9
                        replace q9 := eq_true q9
                        try go_wp2
                        have n0_ := Aside0.mk (blk_drew BK103.out)
                        have n1_ := Aside0.mk (below_drew1 HB.out)
                        clear BK103
                        clear HB
                        have BK103 := n0_
                        have HB := n1_
                        clear n0_ n1_
                        refine start_ (n := 10) (S := fun w' => True) (ds := []) #[false, false, false, false, false, false, false, false, false, false] (by kernel_rfl) rfl rfl trivial (fun hHeld => ?_); refine with_tabW spec_ParseVersion.tab7 spec_ParseVersion.bits7 (fun HT_ HW_ => ?_)
                        generalize wr.drew = w21 at BK103 HB hHeld ⊢
                        refine pure_ (i := 0) (N := some 21) (v := ?_) (a' := ?_) #[true, false, false, false, false, false, false, false, false, false] rfl rfl (any_of HT_.out (by kernel_rfl)) (fun _ _ _ h => h) (Or.inl ⟨by rfl, ?_⟩) ?_ ?_
                        rotate_left
                        · intro w'
                          go_simp
                          with_reducible rfl
                        rotate_left
                        · simp only [Act.put, List.setIfInBounds_toArray, List.set_cons_zero, List.set_cons_succ, i64_w, i32_w]
                          rfl
                        refine pure_ (i := 1) (N := some 22) (v := ?_) (a' := ?_) #[true, true, false, false, false, false, false, false, false, false] rfl rfl (any_of HT_.out (by kernel_rfl)) (fun _ _ _ h => h) (Or.inl ⟨by rfl, ?_⟩) ?_ ?_
                        rotate_left
                        · intro w'
                          go_simp
                          with_reducible rfl
                        rotate_left
                        · simp only [Act.put, List.setIfInBounds_toArray, List.set_cons_zero, List.set_cons_succ, i64_w, i32_w]
                          rfl
                        refine pure_ (i := 2) (N := some 23) (v := ?_) (a' := ?_) #[true, true, true, false, false, false, false, false, false, false] rfl rfl (any_of HT_.out (by kernel_rfl)) (fun _ _ _ h => h) (Or.inl ⟨by rfl, ?_⟩) ?_ ?_
                        rotate_left
                        · intro w'
                          go_simp
                          with_reducible rfl
                        rotate_left
                        · simp only [Act.put, List.setIfInBounds_toArray, List.set_cons_zero, List.set_cons_succ, i64_w, i32_w]
                          rfl
                        refine pure_ (i := 3) (N := some 24) (v := ?_) (a' := ?_) #[true, true, true, true, false, false, false, false, false, false] rfl rfl (any_of HT_.out (by kernel_rfl)) (fun _ _ _ h => h) (Or.inl ⟨by rfl, ?_⟩) ?_ ?_
                        rotate_left
                        · intro w'
                          go_simp
                          with_reducible rfl
                        rotate_left
                        · simp only [Act.put, List.setIfInBounds_toArray, List.set_cons_zero, List.set_cons_succ, i64_w, i32_w]
                          rfl
                        refine pure_ (i := 4) (N := some 25) (v := ?_) (a' := ?_) #[true, true, true, true, true, false, false, false, false, false] rfl rfl (any_of HT_.out (by kernel_rfl)) (fun _ _ _ h => h) (Or.inl ⟨by rfl, ?_⟩) ?_ ?_
                        rotate_left
                        · intro w'
                          go_simp
                          with_reducible rfl
                        rotate_left
                        · simp only [Act.put, List.setIfInBounds_toArray, List.set_cons_zero, List.set_cons_succ, i64_w, i32_w]
                          rfl
                        refine pure_ (i := 5) (N := some 26) (v := ?_) (a' := ?_) #[true, true, true, true, true, true, false, false, false, false] rfl rfl (any_of HT_.out (by kernel_rfl)) (fun _ _ _ h => h) (Or.inl ⟨by rfl, ?_⟩) ?_ ?_
                        rotate_left
                        · intro w'
                          go_simp
                          with_reducible rfl
                        rotate_left
                        · simp only [Act.put, List.setIfInBounds_toArray, List.set_cons_zero, List.set_cons_succ, i64_w, i32_w]
                          rfl
                        refine pure_ (i := 6) (N := some 27) (v := ?_) (a' := ?_) #[true, true, true, true, true, true, true, false, false, false] rfl rfl (any_of HT_.out (by kernel_rfl)) (fun _ _ _ h => h) (Or.inl ⟨by rfl, ?_⟩) ?_ ?_
                        rotate_left
                        · intro w'
                          go_simp
                          with_reducible rfl
                        rotate_left
                        · simp only [Act.put, List.setIfInBounds_toArray, List.set_cons_zero, List.set_cons_succ, i64_w, i32_w]
                          rfl
                        refine pure_ (i := 7) (N := some 28) (v := ?_) (a' := ?_) #[true, true, true, true, true, true, true, true, false, false] rfl rfl (any_of HT_.out (by kernel_rfl)) (fun _ _ _ h => h) (Or.inl ⟨by rfl, ?_⟩) ?_ ?_
                        rotate_left
                        · intro w'
                          go_simp
                          with_reducible rfl
                        rotate_left
                        · simp only [Act.put, List.setIfInBounds_toArray, List.set_cons_zero, List.set_cons_succ, i64_w, i32_w]
                          rfl
                        refine one_ (i := 8) (N := none) #[true, true, true, true, true, true, true, true, true, false] rfl rfl (one_of HT_.out (by kernel_rfl)) (by decide) (fun K hK => ?_)
                        have hs22 : w21.cell? ⟨gb103, 4, none⟩ = some (.string x104004_1) := (blk_cell BK103.out 4).trans rfl
                        have hfs22 := blk_frozen BK103.out 4
                        refine skip_ (w1 := ?_) (by rfl) rfl ?_ ?_
                        rotate_left
                        · go_simp
                          rfl
                        refine hK.out _ _ trivial (fun hHeld => ?_)
                        clear hK K
                        refine pure_ (i := 9) (N := some 0) (v := ?_) (a' := ?_) #[true, true, true, true, true, true, true, true, true, true] rfl rfl (any_of HT_.out (by kernel_rfl)) (fun _ _ _ h => h) (Or.inl ⟨by rfl, ?_⟩) ?_ ?_
                        rotate_left
                        · intro w'
                          go_simp
                          with_reducible rfl
                        rotate_left
                        · simp only [Act.put, List.setIfInBounds_toArray, List.set_cons_zero, List.set_cons_succ, i64_w, i32_w]
                          rfl
                        refine done_ (done_of HT_.out (by kernel_rfl)) ?_
                        have hcz23_0 : w21.cell? ⟨gb103, 0, none⟩ = some (.int .u64 x104000_1) := (blk_cell BK103.out 0).trans rfl
                        have hcz23_1 : w21.cell? ⟨gb103, 1, none⟩ = some (.int .u64 x104001_1) := (blk_cell BK103.out 1).trans rfl
                        have hcz23_2 : w21.cell? ⟨gb103, 2, none⟩ = some (.int .u64 x104002_1) := (blk_cell BK103.out 2).trans rfl
                        have hcz23_3 : w21.cell? ⟨gb103, 3, none⟩ = some (.string x104003_1) := (blk_cell BK103.out 3).trans rfl
                        have hcz23_4 : w21.cell? ⟨gb103, 4, none⟩ = some (.string x104004_1) := (blk_cell BK103.out 4).trans rfl
                        have hfz23_0 := blk_frozen BK103.out 0
                        have hfz23_1 := blk_frozen BK103.out 1
                        have hfz23_2 := blk_frozen BK103.out 2
                        have hfz23_3 := blk_frozen BK103.out 3
                        have hfz23_4 := blk_frozen BK103.out 4
                        try go_wp2_with (first | ((with_reducible refine gate_callee (f := 11) rfl ?_); refine goesL_ (some 31) rfl rfl Tryz.func11 (by kernel_rfl) rfl #[.string (x0_1.extract ((ji11) : Int).toNat x0_1.size), .bool false] rfl (by (try simp only [List.map_toArray, List.map_cons, List.map_nil]); first | done | (simp only [hji11]; rfl) | rfl | (simp only [List.length_drop, List.length_take]; rfl)) ?_; (with_reducible refine (spec_parts.calls k1 (x0_1.extract ((ji11) : Int).toNat x0_1.size) false false _ A16.out).mono ?_); rintro e w' ⟨rfl, ⟨nd, rfl⟩⟩; refine ⟨_, rfl, ?_⟩))
                        refine bodyPost_ret (results_ct rfl _ _ gb103 26 #[.int .u64 0, .int .u64 0, .int .u64 0, .string (⟨#[]⟩ : ByteArray), .string (⟨#[]⟩ : ByteArray)] (0, 0) _ rfl (by (with_reducible repeat (first | refine blk_drewN ?_ _ | refine blk_drew ?_ | refine blk_alloc ?_ _)); refine blk_put (cs := #[.int .u64 0, .int .u64 0, .int .u64 0, .string (⟨#[]⟩ : ByteArray), .string (x0_1.extract ((ji11) : Int).toNat x0_1.size)]) ?_ 4 _ rfl; (with_reducible repeat (first | refine blk_drewN ?_ _ | refine blk_drew ?_ | refine blk_alloc ?_ _)); refine blk_put (cs := #[.int .u64 0, .int .u64 0, .int .u64 0, .string x104003_1, .string (x0_1.extract ((ji11) : Int).toNat x0_1.size)]) ?_ 3 _ rfl; (with_reducible repeat (first | refine blk_drewN ?_ _ | refine blk_drew ?_ | refine blk_alloc ?_ _)); refine blk_put (cs := #[.int .u64 0, .int .u64 0, .int .u64 x104002_1, .string x104003_1, .string (x0_1.extract ((ji11) : Int).toNat x0_1.size)]) ?_ 2 _ rfl; (with_reducible repeat (first | refine blk_drewN ?_ _ | refine blk_drew ?_ | refine blk_alloc ?_ _)); refine blk_put (cs := #[.int .u64 0, .int .u64 x104001_1, .int .u64 x104002_1, .string x104003_1, .string (x0_1.extract ((ji11) : Int).toNat x0_1.size)]) ?_ 1 _ rfl; (with_reducible repeat (first | refine blk_drewN ?_ _ | refine blk_drew ?_ | refine blk_alloc ?_ _)); refine blk_put (cs := #[.int .u64 x104000_1, .int .u64 x104001_1, .int .u64 x104002_1, .string x104003_1, .string (x0_1.extract ((ji11) : Int).toNat x0_1.size)]) ?_ 0 _ rfl; (with_reducible repeat (first | refine blk_drewN ?_ _ | refine blk_drew ?_ | refine blk_alloc ?_ _)); refine blk_put (cs := #[.int .u64 x104000_1, .int .u64 x104001_1, .int .u64 x104002_1, .string x104003_1, .string x104004_1]) ?_ 4 _ rfl; (with_reducible repeat (first | refine blk_drewN ?_ _ | refine blk_drew ?_ | refine blk_alloc ?_ _)); exact BK103.out) Tryz.underlying26 rfl (by kernel_rfl)) rfl ?_
                        exact ⟨by first | rfl | (simp [errW_none, errW_some] <;> rfl) | (simp only [← hji11]; first | rfl | (simp [errW_none, errW_some] <;> rfl)) | (simp [*, errW_none, errW_some] <;> rfl), by repeat (first | (with_reducible first | exact HB.out | apply below_alloc | apply pw_below_drewN | apply below_drew1 | refine below_set ?_ GE103.out) | exact HB.out)⟩
                    · rw [if_neg c15] at H
                      exact absurd H (by simp)
                  · rw [if_neg c13] at H
                    exact absurd H (by simp)
                · rw [if_neg c12] at H
                  exact absurd H (by simp)
              · rw [if_neg c10] at H
                have c10b0 : ((bt x0_1 x4_1) == 43) = false := beq_eq_false_iff_ne.mpr c10
                have c10b1 : ((bt x0_1 x4_1) != 43) = true := bne_iff_ne.mpr c10
                have H' := Aside0.mk H
                clear H
                have p9 : 0 ≤ (x4_1 : Int) := of_decide_eq_true (by first | (with_reducible assumption) | assumption)
                have q9 : x4_1 < (x0_1.size : Int) := of_decide_eq_true (by first | (with_reducible assumption) | assumption)
                have hx9 := bt_at x0_1 x4_1
                replace p9 := eq_true p9
                replace q9 := eq_true q9
                go_wp2
                go_roundg k1
                case measure => have := HK1.out; omega
                case rel => exact ⟨(x0_1), (wrap64 (x4_1 + 1)), (x104000_1), (x104001_1), (x104002_1), (x104003_1), (x104004_1), (by first | rfl | (simp; done) | (simp [*]; done)), (by first | rfl | (simp; done) | (simp [*]; done)), H', ⟨by have := HK1.out; omega⟩, ⟨by (with_reducible repeat (first | refine blk_drewN ?_ _ | refine blk_drew ?_ | refine blk_alloc ?_ _)); exact BK103.out⟩, ⟨by repeat (first | (with_reducible first | exact HB.out | apply below_alloc | apply pw_below_drewN | apply below_drew1 | refine below_set ?_ GE103.out) | exact HB.out)⟩⟩
            · rw [if_neg c8] at H
              exact absurd H (by simp)
          · rw [if_neg c7] at H
            have c7b0 : decide (x4_1 < (x0_1.size : Int)) = false := decide_eq_false c7
            clear c7
            (first | rw [c7b0] | (simp only [i64_w, i32_w]; rw [c7b0]) | skip)
            have H' := Aside0.mk H
            clear H
            go_wp2
            go_meet
            case rel => exact ⟨_, (x0_1), (x104000_1), (x104001_1), (x104002_1), (x104003_1), (x104004_1), (by first | rfl | (simp; done) | (simp [*]; done)), H', ⟨by have := HK1.out; first | omega | exact Nat.le_refl _⟩, ⟨by (with_reducible repeat (first | refine blk_drewN ?_ _ | refine blk_drew ?_ | refine blk_alloc ?_ _)); exact BK103.out⟩, ⟨by repeat (first | (with_reducible first | exact HB.out | apply below_alloc | apply pw_below_drewN | apply below_drew1 | refine below_set ?_ GE103.out) | exact HB.out)⟩⟩
    case rest =>
      clear HC5
      try clear c1
      try clear c2
      try clear c2b0
      try clear c2b1
      try clear p2
      try clear c5
      try clear p6
      try clear c7
      try clear c7b0
      try clear c8
      try clear c8b0
      try clear p9
      try clear q9
      try clear hx9
      try clear c10
      try clear c10b0
      try clear c10b1
      try clear c11
      try clear c12
      try clear c12b0
      try clear c12b1
      try clear c13
      try clear c13b0
      try clear c13b1
      try clear c14
      try clear c14b0
      try clear c15
      try clear c15b0
      try clear c15b1
      try clear c17
      try clear hcz20_0
      try clear hcz20_1
      try clear hcz20_2
      try clear hcz20_3
      try clear hcz20_4
      try clear hcz23_0
      try clear hcz23_1
      try clear hcz23_2
      try clear hcz23_3
      try clear hcz23_4
      try clear hcz4_0
      try clear hcz4_1
      try clear hcz4_2
      try clear hcz4_3
      try clear hcz4_4
      try clear hfz20_0
      try clear hfz20_1
      try clear hfz20_2
      try clear hfz20_3
      try clear hfz20_4
      try clear hfz23_0
      try clear hfz23_1
      try clear hfz23_2
      try clear hfz23_3
      try clear hfz23_4
      try clear hfz4_0
      try clear hfz4_1
      try clear hfz4_2
      try clear hfz4_3
      try clear hfz4_4
      try clear p2
      try clear p9
      try clear q9
      obtain ⟨kq, x0_4, x104000_4, x104001_4, x104002_4, x104003_4, x104004_4, rfl, HA, HJ4, BK103, HB⟩ := hcut
      cases kq with
      | zero => exact absurd HA.out (by simp [spec_ParseVersion.j1])
      | succ kj4 =>
        have H := HA.out
        clear HA
        simp only [spec_ParseVersion.j1] at H
        replace H := Option.bind_eq_some_iff.mp H
        obtain ⟨⟨t105, t106, t107⟩, A240, H⟩ := H
        replace H : (if t107 = true then (if (t106.size : Int) = 0 then (spec_ParseVersion.j2 kj4 t106 true t105 x104001_4 x104002_4 x104003_4 x104004_4) else (if 0 < (t106.size : Int) then (spec_ParseVersion.j2 kj4 t106 ((bt t106 0) != 46) t105 x104001_4 x104002_4 x104003_4 x104004_4) else (none))) else (spec_ParseVersion.j2 kj4 t106 true t105 x104001_4 x104002_4 x104003_4 x104004_4)) = some (r1, r2, r3, r4, r5, r6) := H
        have A24 := Aside0.mk A240
        clear A240
        have HC25 := Aside0.mk H
        clear H
        go_upto_region 12 with (first | ((with_reducible refine gate_callee (f := 12) rfl ?_); refine goesL_ (some 37) rfl rfl Tryz.func12 (by kernel_rfl) rfl #[.string x0_4] rfl (by (try simp only [List.map_toArray, List.map_cons, List.map_nil]); first | done | rfl | (simp only [List.length_drop, List.length_take]; rfl)) ?_; (with_reducible refine (spec_number.calls kj4 x0_4 t105 t106 t107 _ A24.out).mono ?_); rintro e w' ⟨rfl, ⟨nd, rfl⟩⟩; refine ⟨_, rfl, ?_⟩; (try (rw [drewN_self wc]; generalize hq_ : World.drewN wc _ = wc; have n0_ : Aside0 (wc.heap[gb103]? = some (.cells #[.int .u64 x104000_4, .int .u64 x104001_4, .int .u64 x104002_4, .string x104003_4, .string x104004_4] 26 (0, 0))) := ⟨by rw [← hq_]; exact (by (with_reducible repeat (first | refine blk_drewN ?_ _ | refine blk_drew ?_ | refine blk_alloc ?_ _)); exact BK103.out)⟩; have n1_ : Aside0 (Below w.heap.size w wc) := ⟨by rw [← hq_]; exact (by repeat (first | (with_reducible first | exact HB.out | apply below_alloc | apply pw_below_drewN | apply below_drew1 | refine below_set ?_ GE103.out) | exact HB.out))⟩; clear BK103 HB hq_; have BK103 := n0_; have HB := n1_; clear n0_ n1_)); have hcz26_0 : wc.cell? ⟨gb103, 0, none⟩ = some (.int .u64 x104000_4) := (blk_cell BK103.out 0).trans rfl; have hcz26_1 : wc.cell? ⟨gb103, 1, none⟩ = some (.int .u64 x104001_4) := (blk_cell BK103.out 1).trans rfl; have hcz26_2 : wc.cell? ⟨gb103, 2, none⟩ = some (.int .u64 x104002_4) := (blk_cell BK103.out 2).trans rfl; have hcz26_3 : wc.cell? ⟨gb103, 3, none⟩ = some (.string x104003_4) := (blk_cell BK103.out 3).trans rfl; have hcz26_4 : wc.cell? ⟨gb103, 4, none⟩ = some (.string x104004_4) := (blk_cell BK103.out 4).trans rfl; have hfz26_0 := blk_frozen BK103.out 0; have hfz26_1 := blk_frozen BK103.out 1; have hfz26_2 := blk_frozen BK103.out 2; have hfz26_3 := blk_frozen BK103.out 3; have hfz26_4 := blk_frozen BK103.out 4))
        (try simp only [Act.put, List.setIfInBounds_toArray, List.set_cons_zero, List.set_cons_succ])
        go_cut [53] (fun v53 wc => ∃ (kq : Nat) (x53_24 : Bool), v53 = .bool x53_24 ∧ Aside0 (spec_ParseVersion.j2 kq t106 x53_24 t105 x104001_4 x104002_4 x104003_4 x104004_4 = some (r1, r2, r3, r4, r5, r6)) ∧ Aside0 (kq ≤ kj4) ∧ Aside0 (wc.heap[gb103]? = some (.cells #[.int .u64 t105, .int .u64 x104001_4, .int .u64 x104002_4, .string x104003_4, .string x104004_4] 26 (0, 0))) ∧ Aside0 (Below w.heap.size w wc))
        case first =>
          have H := HC25.out
          clear HC25
          by_cases c27 : t107 = true
          · subst c27
            have H1 : (if (t106.size : Int) = 0 then (spec_ParseVersion.j2 kj4 t106 true t105 x104001_4 x104002_4 x104003_4 x104004_4) else (if 0 < (t106.size : Int) then (spec_ParseVersion.j2 kj4 t106 ((bt t106 0) != 46) t105 x104001_4 x104002_4 x104003_4 x104004_4) else (none))) = some (r1, r2, r3, r4, r5, r6) := by rw [if_pos rfl] at H; exact H
            clear H
            have H := H1
            clear H1
            by_cases c28 : (t106.size : Int) = 0
            · rw [if_pos c28] at H
              have c28b0 : ((t106.size : Int) == 0) = true := beq_iff_eq.mpr c28
              have c28b1 : ((t106.size : Int) != 0) = false := bne_eq_false_iff_eq.mpr c28
              clear c28
              (first | rw [c28b0] | (simp only [i64_w, i32_w]; rw [c28b0]) | skip)
              have H' := Aside0.mk H
              clear H
              go_wp2
              go_meet
              case rel => exact ⟨_, (true), (by first | rfl | (simp; done) | (simp [*]; done)), H', ⟨by have := HJ4.out; first | omega | exact Nat.le_refl _⟩, ⟨by (with_reducible repeat (first | refine blk_drewN ?_ _ | refine blk_drew ?_ | refine blk_alloc ?_ _)); refine blk_put (cs := #[.int .u64 x104000_4, .int .u64 x104001_4, .int .u64 x104002_4, .string x104003_4, .string x104004_4]) ?_ 0 _ rfl; (with_reducible repeat (first | refine blk_drewN ?_ _ | refine blk_drew ?_ | refine blk_alloc ?_ _)); exact BK103.out⟩, ⟨by repeat (first | (with_reducible first | exact HB.out | apply below_alloc | apply pw_below_drewN | apply below_drew1 | refine below_set ?_ GE103.out) | exact HB.out)⟩⟩
            · rw [if_neg c28] at H
              have c28b0 : ((t106.size : Int) == 0) = false := beq_eq_false_iff_ne.mpr c28
              have c28b1 : ((t106.size : Int) != 0) = true := bne_iff_ne.mpr c28
              (first | rw [c28b0] | (simp only [i64_w, i32_w]; rw [c28b0]) | skip)
              by_cases c29 : 0 < (t106.size : Int)
              · rw [if_pos c29] at H
                have c29b0 : decide (0 < (t106.size : Int)) = true := decide_eq_true c29
                have c29b1 : decide (0 < t106.size) = true := decide_eq_true (by omega)
                clear c29
                have H' := Aside0.mk H
                clear H
                have p30 : 0 ≤ (0 : Int) := (by omega)
                have q30 : 0 < t106.size := (by have : (0 : Int) < (t106.size : Int) := of_decide_eq_true (by first | (with_reducible assumption) | assumption); omega)
                have hx30 : ∀ h : 0 < t106.size, ((t106[0]'h).toNat : Int) = bt t106 0 := bt_at t106 0
                clear p30
                have qi30 : (0 < (t106.size : Int)) = True := eq_true (of_decide_eq_true (by first | (with_reducible assumption) | assumption))
                replace q30 := eq_true q30
                go_wp2
                go_meet
                case rel => exact ⟨_, (((bt t106 0) != 46)), (by first | rfl | (simp; done) | (simp [*]; done)), H', ⟨by have := HJ4.out; first | omega | exact Nat.le_refl _⟩, ⟨by (with_reducible repeat (first | refine blk_drewN ?_ _ | refine blk_drew ?_ | refine blk_alloc ?_ _)); refine blk_put (cs := #[.int .u64 x104000_4, .int .u64 x104001_4, .int .u64 x104002_4, .string x104003_4, .string x104004_4]) ?_ 0 _ rfl; (with_reducible repeat (first | refine blk_drewN ?_ _ | refine blk_drew ?_ | refine blk_alloc ?_ _)); exact BK103.out⟩, ⟨by repeat (first | (with_reducible first | exact HB.out | apply below_alloc | apply pw_below_drewN | apply below_drew1 | refine below_set ?_ GE103.out) | exact HB.out)⟩⟩
              · rw [if_neg c29] at H
                exact absurd H (by simp)
          · replace c27 := Bool.eq_false_iff.mpr c27
            subst c27
            have H1 : (spec_ParseVersion.j2 kj4 t106 true t105 x104001_4 x104002_4 x104003_4 x104004_4) = some (r1, r2, r3, r4, r5, r6) := by rw [if_neg (show ¬ (false = true) by decide)] at H; exact H
            clear H
            have H := H1
            clear H1
            have H' := Aside0.mk H
            clear H
            go_wp2
            go_meet
            case rel => exact ⟨_, (true), (by first | rfl | (simp; done) | (simp [*]; done)), H', ⟨by have := HJ4.out; first | omega | exact Nat.le_refl _⟩, ⟨by (with_reducible repeat (first | refine blk_drewN ?_ _ | refine blk_drew ?_ | refine blk_alloc ?_ _)); refine blk_put (cs := #[.int .u64 x104000_4, .int .u64 x104001_4, .int .u64 x104002_4, .string x104003_4, .string x104004_4]) ?_ 0 _ rfl; (with_reducible repeat (first | refine blk_drewN ?_ _ | refine blk_drew ?_ | refine blk_alloc ?_ _)); exact BK103.out⟩, ⟨by repeat (first | (with_reducible first | exact HB.out | apply below_alloc | apply pw_below_drewN | apply below_drew1 | refine below_set ?_ GE103.out) | exact HB.out)⟩⟩
        case rest =>
          clear HC25
          try clear c1
          try clear c2
          try clear c2b0
          try clear c2b1
          try clear p2
          try clear p3
          try clear q3
          try clear hx3
          try clear qi3
          try clear c5
          try clear p6
          try clear c7
          try clear c7b0
          try clear c8
          try clear c8b0
          try clear p9
          try clear q9
          try clear hx9
          try clear c10
          try clear c10b0
          try clear c10b1
          try clear c11
          try clear c12
          try clear c12b0
          try clear c12b1
          try clear c13
          try clear c13b0
          try clear c13b1
          try clear c14
          try clear c14b0
          try clear c15
          try clear c15b0
          try clear c15b1
          try clear c17
          try clear c27
          try clear c28
          try clear c28b0
          try clear c28b1
          try clear c29
          try clear c29b0
          try clear c29b1
          try clear p30
          try clear q30
          try clear hx30
          try clear qi30
          try clear hcz20_0
          try clear hcz20_1
          try clear hcz20_2
          try clear hcz20_3
          try clear hcz20_4
          try clear hcz23_0
          try clear hcz23_1
          try clear hcz23_2
          try clear hcz23_3
          try clear hcz23_4
          try clear hcz26_0
          try clear hcz26_1
          try clear hcz26_2
          try clear hcz26_3
          try clear hcz26_4
          try clear hcz4_0
          try clear hcz4_1
          try clear hcz4_2
          try clear hcz4_3
          try clear hcz4_4
          try clear hfz20_0
          try clear hfz20_1
          try clear hfz20_2
          try clear hfz20_3
          try clear hfz20_4
          try clear hfz23_0
          try clear hfz23_1
          try clear hfz23_2
          try clear hfz23_3
          try clear hfz23_4
          try clear hfz26_0
          try clear hfz26_1
          try clear hfz26_2
          try clear hfz26_3
          try clear hfz26_4
          try clear hfz4_0
          try clear hfz4_1
          try clear hfz4_2
          try clear hfz4_3
          try clear hfz4_4
          try clear p2
          try clear p30
          try clear p6
          try clear p9
          try clear q30
          try clear q9
          obtain ⟨kq, x53_24, rfl, HA, HJ24, BK103, HB⟩ := hcut
          cases kq with
          | zero => exact absurd HA.out (by simp [spec_ParseVersion.j2])
          | succ kj24 =>
            have H := HA.out
            clear HA
            simp only [spec_ParseVersion.j2] at H
            by_cases c31 : x53_24 = true
            · subst c31
              have H1 : (some (0, 0, 0, (⟨#[]⟩ : ByteArray), (⟨#[]⟩ : ByteArray), false)) = some (r1, r2, r3, r4, r5, r6) := by rw [if_pos rfl] at H; exact H
              clear H
              have H := H1
              clear H1
              simp only [Option.some.injEq, Prod.mk.injEq] at H
              obtain ⟨rfl, rfl, rfl, rfl, rfl, rfl⟩ := H
              have hcz32_0 : wc.cell? ⟨gb103, 0, none⟩ = some (.int .u64 t105) := (blk_cell BK103.out 0).trans rfl
              have hcz32_1 : wc.cell? ⟨gb103, 1, none⟩ = some (.int .u64 x104001_4) := (blk_cell BK103.out 1).trans rfl
              have hcz32_2 : wc.cell? ⟨gb103, 2, none⟩ = some (.int .u64 x104002_4) := (blk_cell BK103.out 2).trans rfl
              have hcz32_3 : wc.cell? ⟨gb103, 3, none⟩ = some (.string x104003_4) := (blk_cell BK103.out 3).trans rfl
              have hcz32_4 : wc.cell? ⟨gb103, 4, none⟩ = some (.string x104004_4) := (blk_cell BK103.out 4).trans rfl
              have hfz32_0 := blk_frozen BK103.out 0
              have hfz32_1 := blk_frozen BK103.out 1
              have hfz32_2 := blk_frozen BK103.out 2
              have hfz32_3 := blk_frozen BK103.out 3
              have hfz32_4 := blk_frozen BK103.out 4
              go_wp2
              refine bodyPost_ret (results_ct rfl _ _ gb103 26 #[.int .u64 0, .int .u64 0, .int .u64 0, .string (⟨#[]⟩ : ByteArray), .string (⟨#[]⟩ : ByteArray)] (0, 0) _ rfl (by (with_reducible repeat (first | refine blk_drewN ?_ _ | refine blk_drew ?_ | refine blk_alloc ?_ _)); refine blk_put (cs := #[.int .u64 0, .int .u64 0, .int .u64 0, .string (⟨#[]⟩ : ByteArray), .string x104004_4]) ?_ 4 _ rfl; (with_reducible repeat (first | refine blk_drewN ?_ _ | refine blk_drew ?_ | refine blk_alloc ?_ _)); refine blk_put (cs := #[.int .u64 0, .int .u64 0, .int .u64 0, .string x104003_4, .string x104004_4]) ?_ 3 _ rfl; (with_reducible repeat (first | refine blk_drewN ?_ _ | refine blk_drew ?_ | refine blk_alloc ?_ _)); refine blk_put (cs := #[.int .u64 0, .int .u64 0, .int .u64 x104002_4, .string x104003_4, .string x104004_4]) ?_ 2 _ rfl; (with_reducible repeat (first | refine blk_drewN ?_ _ | refine blk_drew ?_ | refine blk_alloc ?_ _)); refine blk_put (cs := #[.int .u64 0, .int .u64 x104001_4, .int .u64 x104002_4, .string x104003_4, .string x104004_4]) ?_ 1 _ rfl; (with_reducible repeat (first | refine blk_drewN ?_ _ | refine blk_drew ?_ | refine blk_alloc ?_ _)); refine blk_put (cs := #[.int .u64 t105, .int .u64 x104001_4, .int .u64 x104002_4, .string x104003_4, .string x104004_4]) ?_ 0 _ rfl; (with_reducible repeat (first | refine blk_drewN ?_ _ | refine blk_drew ?_ | refine blk_alloc ?_ _)); exact BK103.out) Tryz.underlying26 rfl (by kernel_rfl)) rfl ?_
              exact ⟨by first | rfl | (simp [errW_none, errW_some] <;> rfl) | (simp [*, errW_none, errW_some] <;> rfl), by repeat (first | (with_reducible first | exact HB.out | apply below_alloc | apply pw_below_drewN | apply below_drew1 | refine below_set ?_ GE103.out) | exact HB.out)⟩
            · replace c31 := Bool.eq_false_iff.mpr c31
              subst c31
              have H1 : (if 1 ≤ (t106.size : Int) then ((spec_number.f kj24 (t106.extract 1 t106.size)).bind fun bt108 => (if bt108.2.2 = true then (if (bt108.2.1.size : Int) = 0 then (spec_ParseVersion.j3 kj24 bt108.2.1 true t105 bt108.1 x104002_4 x104003_4 x104004_4) else (if 0 < (bt108.2.1.size : Int) then (spec_ParseVersion.j3 kj24 bt108.2.1 ((bt bt108.2.1 0) != 46) t105 bt108.1 x104002_4 x104003_4 x104004_4) else (none))) else (spec_ParseVersion.j3 kj24 bt108.2.1 true t105 bt108.1 x104002_4 x104003_4 x104004_4))) else (none)) = some (r1, r2, r3, r4, r5, r6) := by rw [if_neg (show ¬ (false = true) by decide)] at H; exact H
              clear H
              have H := H1
              clear H1
              by_cases c33 : 1 ≤ (t106.size : Int)
              · rw [if_pos c33] at H
                have c33b0 := eq_true c33
                have c33b1 : decide (1 ≤ (t106.size : Int)) = true := decide_eq_true c33
                clear c33
                replace H := Option.bind_eq_some_iff.mp H
                obtain ⟨⟨t108, t109, t110⟩, A340, H⟩ := H
                replace H : (if t110 = true then (if (t109.size : Int) = 0 then (spec_ParseVersion.j3 kj24 t109 true t105 t108 x104002_4 x104003_4 x104004_4) else (if 0 < (t109.size : Int) then (spec_ParseVersion.j3 kj24 t109 ((bt t109 0) != 46) t105 t108 x104002_4 x104003_4 x104004_4) else (none))) else (spec_ParseVersion.j3 kj24 t109 true t105 t108 x104002_4 x104003_4 x104004_4)) = some (r1, r2, r3, r4, r5, r6) := H
                have A34 := Aside0.mk A340
                clear A340
                have HC35 := Aside0.mk H
                clear H
                go_upto_region 15 with (first | ((with_reducible refine gate_callee (f := 12) rfl ?_); refine goesL_ (some 58) rfl rfl Tryz.func12 (by kernel_rfl) rfl #[.string (t106.extract 1 t106.size)] rfl (by (try simp only [List.map_toArray, List.map_cons, List.map_nil]); first | done | rfl | (simp only [List.length_drop, List.length_take]; rfl)) ?_; (with_reducible refine (spec_number.calls kj24 (t106.extract 1 t106.size) t108 t109 t110 _ A34.out).mono ?_); rintro e w' ⟨rfl, ⟨nd, rfl⟩⟩; refine ⟨_, rfl, ?_⟩; (try (rw [drewN_self wc]; generalize hq_ : World.drewN wc _ = wc; have n0_ : Aside0 (wc.heap[gb103]? = some (.cells #[.int .u64 t105, .int .u64 x104001_4, .int .u64 x104002_4, .string x104003_4, .string x104004_4] 26 (0, 0))) := ⟨by rw [← hq_]; exact (by (with_reducible repeat (first | refine blk_drewN ?_ _ | refine blk_drew ?_ | refine blk_alloc ?_ _)); exact BK103.out)⟩; have n1_ : Aside0 (Below w.heap.size w wc) := ⟨by rw [← hq_]; exact (by repeat (first | (with_reducible first | exact HB.out | apply below_alloc | apply pw_below_drewN | apply below_drew1 | refine below_set ?_ GE103.out) | exact HB.out))⟩; clear BK103 HB hq_; have BK103 := n0_; have HB := n1_; clear n0_ n1_)); have hcz36_0 : wc.cell? ⟨gb103, 0, none⟩ = some (.int .u64 t105) := (blk_cell BK103.out 0).trans rfl; have hcz36_1 : wc.cell? ⟨gb103, 1, none⟩ = some (.int .u64 x104001_4) := (blk_cell BK103.out 1).trans rfl; have hcz36_2 : wc.cell? ⟨gb103, 2, none⟩ = some (.int .u64 x104002_4) := (blk_cell BK103.out 2).trans rfl; have hcz36_3 : wc.cell? ⟨gb103, 3, none⟩ = some (.string x104003_4) := (blk_cell BK103.out 3).trans rfl; have hcz36_4 : wc.cell? ⟨gb103, 4, none⟩ = some (.string x104004_4) := (blk_cell BK103.out 4).trans rfl; have hfz36_0 := blk_frozen BK103.out 0; have hfz36_1 := blk_frozen BK103.out 1; have hfz36_2 := blk_frozen BK103.out 2; have hfz36_3 := blk_frozen BK103.out 3; have hfz36_4 := blk_frozen BK103.out 4))
                (try simp only [Act.put, List.setIfInBounds_toArray, List.set_cons_zero, List.set_cons_succ])
                go_cut [74] (fun v74 wc => ∃ (kq : Nat) (x74_34 : Bool), v74 = .bool x74_34 ∧ Aside0 (spec_ParseVersion.j3 kq t109 x74_34 t105 t108 x104002_4 x104003_4 x104004_4 = some (r1, r2, r3, r4, r5, r6)) ∧ Aside0 (kq ≤ kj24) ∧ Aside0 (wc.heap[gb103]? = some (.cells #[.int .u64 t105, .int .u64 t108, .int .u64 x104002_4, .string x104003_4, .string x104004_4] 26 (0, 0))) ∧ Aside0 (Below w.heap.size w wc))
                case first =>
                  have H := HC35.out
                  clear HC35
                  by_cases c37 : t110 = true
                  · subst c37
                    have H1 : (if (t109.size : Int) = 0 then (spec_ParseVersion.j3 kj24 t109 true t105 t108 x104002_4 x104003_4 x104004_4) else (if 0 < (t109.size : Int) then (spec_ParseVersion.j3 kj24 t109 ((bt t109 0) != 46) t105 t108 x104002_4 x104003_4 x104004_4) else (none))) = some (r1, r2, r3, r4, r5, r6) := by rw [if_pos rfl] at H; exact H
                    clear H
                    have H := H1
                    clear H1
                    by_cases c38 : (t109.size : Int) = 0
                    · rw [if_pos c38] at H
                      have c38b0 : ((t109.size : Int) == 0) = true := beq_iff_eq.mpr c38
                      have c38b1 : ((t109.size : Int) != 0) = false := bne_eq_false_iff_eq.mpr c38
                      clear c38
                      (first | rw [c38b0] | (simp only [i64_w, i32_w]; rw [c38b0]) | skip)
                      have H' := Aside0.mk H
                      clear H
                      go_wp2
                      go_meet
                      case rel => exact ⟨_, (true), (by first | rfl | (simp; done) | (simp [*]; done)), H', ⟨by have := HJ4.out; have := HJ24.out; first | omega | exact Nat.le_refl _⟩, ⟨by (with_reducible repeat (first | refine blk_drewN ?_ _ | refine blk_drew ?_ | refine blk_alloc ?_ _)); refine blk_put (cs := #[.int .u64 t105, .int .u64 x104001_4, .int .u64 x104002_4, .string x104003_4, .string x104004_4]) ?_ 1 _ rfl; (with_reducible repeat (first | refine blk_drewN ?_ _ | refine blk_drew ?_ | refine blk_alloc ?_ _)); exact BK103.out⟩, ⟨by repeat (first | (with_reducible first | exact HB.out | apply below_alloc | apply pw_below_drewN | apply below_drew1 | refine below_set ?_ GE103.out) | exact HB.out)⟩⟩
                    · rw [if_neg c38] at H
                      have c38b0 : ((t109.size : Int) == 0) = false := beq_eq_false_iff_ne.mpr c38
                      have c38b1 : ((t109.size : Int) != 0) = true := bne_iff_ne.mpr c38
                      (first | rw [c38b0] | (simp only [i64_w, i32_w]; rw [c38b0]) | skip)
                      by_cases c39 : 0 < (t109.size : Int)
                      · rw [if_pos c39] at H
                        have c39b0 : decide (0 < (t109.size : Int)) = true := decide_eq_true c39
                        have c39b1 : decide (0 < t109.size) = true := decide_eq_true (by omega)
                        clear c39
                        have H' := Aside0.mk H
                        clear H
                        have p40 : 0 ≤ (0 : Int) := (by omega)
                        have q40 : 0 < t109.size := (by have : (0 : Int) < (t109.size : Int) := of_decide_eq_true (by first | (with_reducible assumption) | assumption); omega)
                        have hx40 : ∀ h : 0 < t109.size, ((t109[0]'h).toNat : Int) = bt t109 0 := bt_at t109 0
                        clear p40
                        have qi40 : (0 < (t109.size : Int)) = True := eq_true (of_decide_eq_true (by first | (with_reducible assumption) | assumption))
                        replace q40 := eq_true q40
                        go_wp2
                        go_meet
                        case rel => exact ⟨_, (((bt t109 0) != 46)), (by first | rfl | (simp; done) | (simp [*]; done)), H', ⟨by have := HJ4.out; have := HJ24.out; first | omega | exact Nat.le_refl _⟩, ⟨by (with_reducible repeat (first | refine blk_drewN ?_ _ | refine blk_drew ?_ | refine blk_alloc ?_ _)); refine blk_put (cs := #[.int .u64 t105, .int .u64 x104001_4, .int .u64 x104002_4, .string x104003_4, .string x104004_4]) ?_ 1 _ rfl; (with_reducible repeat (first | refine blk_drewN ?_ _ | refine blk_drew ?_ | refine blk_alloc ?_ _)); exact BK103.out⟩, ⟨by repeat (first | (with_reducible first | exact HB.out | apply below_alloc | apply pw_below_drewN | apply below_drew1 | refine below_set ?_ GE103.out) | exact HB.out)⟩⟩
                      · rw [if_neg c39] at H
                        exact absurd H (by simp)
                  · replace c37 := Bool.eq_false_iff.mpr c37
                    subst c37
                    have H1 : (spec_ParseVersion.j3 kj24 t109 true t105 t108 x104002_4 x104003_4 x104004_4) = some (r1, r2, r3, r4, r5, r6) := by rw [if_neg (show ¬ (false = true) by decide)] at H; exact H
                    clear H
                    have H := H1
                    clear H1
                    have H' := Aside0.mk H
                    clear H
                    go_wp2
                    go_meet
                    case rel => exact ⟨_, (true), (by first | rfl | (simp; done) | (simp [*]; done)), H', ⟨by have := HJ4.out; have := HJ24.out; first | omega | exact Nat.le_refl _⟩, ⟨by (with_reducible repeat (first | refine blk_drewN ?_ _ | refine blk_drew ?_ | refine blk_alloc ?_ _)); refine blk_put (cs := #[.int .u64 t105, .int .u64 x104001_4, .int .u64 x104002_4, .string x104003_4, .string x104004_4]) ?_ 1 _ rfl; (with_reducible repeat (first | refine blk_drewN ?_ _ | refine blk_drew ?_ | refine blk_alloc ?_ _)); exact BK103.out⟩, ⟨by repeat (first | (with_reducible first | exact HB.out | apply below_alloc | apply pw_below_drewN | apply below_drew1 | refine below_set ?_ GE103.out) | exact HB.out)⟩⟩
                case rest =>
                  clear HC35
                  try clear c1
                  try clear c2
                  try clear c2b0
                  try clear c2b1
                  try clear p2
                  try clear c3
                  try clear p3
                  try clear q3
                  try clear hx3
                  try clear qi3
                  try clear p4
                  try clear q4
                  try clear hx4
                  try clear qi4
                  try clear c5
                  try clear p6
                  try clear c7
                  try clear c7b0
                  try clear c8
                  try clear c8b0
                  try clear p9
                  try clear q9
                  try clear hx9
                  try clear c10
                  try clear c10b0
                  try clear c10b1
                  try clear c11
                  try clear c12
                  try clear c12b0
                  try clear c12b1
                  try clear c13
                  try clear c13b0
                  try clear c13b1
                  try clear c14
                  try clear c14b0
                  try clear c15
                  try clear c15b0
                  try clear c15b1
                  try clear c17
                  try clear c27
                  try clear c28
                  try clear c28b0
                  try clear c28b1
                  try clear c29
                  try clear c29b0
                  try clear c29b1
                  try clear p30
                  try clear q30
                  try clear hx30
                  try clear qi30
                  try clear c31
                  try clear c33
                  try clear c33b0
                  try clear c33b1
                  try clear c37
                  try clear c38
                  try clear c38b0
                  try clear c38b1
                  try clear c39
                  try clear c39b0
                  try clear c39b1
                  try clear p40
                  try clear q40
                  try clear hx40
                  try clear qi40
                  try clear hcz20_0
                  try clear hcz20_1
                  try clear hcz20_2
                  try clear hcz20_3
                  try clear hcz20_4
                  try clear hcz23_0
                  try clear hcz23_1
                  try clear hcz23_2
                  try clear hcz23_3
                  try clear hcz23_4
                  try clear hcz26_0
                  try clear hcz26_1
                  try clear hcz26_2
                  try clear hcz26_3
                  try clear hcz26_4
                  try clear hcz32_0
                  try clear hcz32_1
                  try clear hcz32_2
                  try clear hcz32_3
                  try clear hcz32_4
                  try clear hcz36_0
                  try clear hcz36_1
                  try clear hcz36_2
                  try clear hcz36_3
                  try clear hcz36_4
                  try clear hcz4_0
                  try clear hcz4_1
                  try clear hcz4_2
                  try clear hcz4_3
                  try clear hcz4_4
                  try clear hfz20_0
                  try clear hfz20_1
                  try clear hfz20_2
                  try clear hfz20_3
                  try clear hfz20_4
                  try clear hfz23_0
                  try clear hfz23_1
                  try clear hfz23_2
                  try clear hfz23_3
                  try clear hfz23_4
                  try clear hfz26_0
                  try clear hfz26_1
                  try clear hfz26_2
                  try clear hfz26_3
                  try clear hfz26_4
                  try clear hfz32_0
                  try clear hfz32_1
                  try clear hfz32_2
                  try clear hfz32_3
                  try clear hfz32_4
                  try clear hfz36_0
                  try clear hfz36_1
                  try clear hfz36_2
                  try clear hfz36_3
                  try clear hfz36_4
                  try clear hfz4_0
                  try clear hfz4_1
                  try clear hfz4_2
                  try clear hfz4_3
                  try clear hfz4_4
                  try clear p2
                  try clear p3
                  try clear p30
                  try clear p40
                  try clear p6
                  try clear p9
                  try clear q3
                  try clear q30
                  try clear q40
                  try clear q9
                  obtain ⟨kq, x74_34, rfl, HA, HJ34, BK103, HB⟩ := hcut
                  cases kq with
                  | zero => exact absurd HA.out (by simp [spec_ParseVersion.j3])
                  | succ kj34 =>
                    have H := HA.out
                    clear HA
                    simp only [spec_ParseVersion.j3] at H
                    by_cases c41 : x74_34 = true
                    · subst c41
                      have H1 : (some (0, 0, 0, (⟨#[]⟩ : ByteArray), (⟨#[]⟩ : ByteArray), false)) = some (r1, r2, r3, r4, r5, r6) := by rw [if_pos rfl] at H; exact H
                      clear H
                      have H := H1
                      clear H1
                      simp only [Option.some.injEq, Prod.mk.injEq] at H
                      obtain ⟨rfl, rfl, rfl, rfl, rfl, rfl⟩ := H
                      have hcz42_0 : wc.cell? ⟨gb103, 0, none⟩ = some (.int .u64 t105) := (blk_cell BK103.out 0).trans rfl
                      have hcz42_1 : wc.cell? ⟨gb103, 1, none⟩ = some (.int .u64 t108) := (blk_cell BK103.out 1).trans rfl
                      have hcz42_2 : wc.cell? ⟨gb103, 2, none⟩ = some (.int .u64 x104002_4) := (blk_cell BK103.out 2).trans rfl
                      have hcz42_3 : wc.cell? ⟨gb103, 3, none⟩ = some (.string x104003_4) := (blk_cell BK103.out 3).trans rfl
                      have hcz42_4 : wc.cell? ⟨gb103, 4, none⟩ = some (.string x104004_4) := (blk_cell BK103.out 4).trans rfl
                      have hfz42_0 := blk_frozen BK103.out 0
                      have hfz42_1 := blk_frozen BK103.out 1
                      have hfz42_2 := blk_frozen BK103.out 2
                      have hfz42_3 := blk_frozen BK103.out 3
                      have hfz42_4 := blk_frozen BK103.out 4
                      go_wp2
                      refine bodyPost_ret (results_ct rfl _ _ gb103 26 #[.int .u64 0, .int .u64 0, .int .u64 0, .string (⟨#[]⟩ : ByteArray), .string (⟨#[]⟩ : ByteArray)] (0, 0) _ rfl (by (with_reducible repeat (first | refine blk_drewN ?_ _ | refine blk_drew ?_ | refine blk_alloc ?_ _)); refine blk_put (cs := #[.int .u64 0, .int .u64 0, .int .u64 0, .string (⟨#[]⟩ : ByteArray), .string x104004_4]) ?_ 4 _ rfl; (with_reducible repeat (first | refine blk_drewN ?_ _ | refine blk_drew ?_ | refine blk_alloc ?_ _)); refine blk_put (cs := #[.int .u64 0, .int .u64 0, .int .u64 0, .string x104003_4, .string x104004_4]) ?_ 3 _ rfl; (with_reducible repeat (first | refine blk_drewN ?_ _ | refine blk_drew ?_ | refine blk_alloc ?_ _)); refine blk_put (cs := #[.int .u64 0, .int .u64 0, .int .u64 x104002_4, .string x104003_4, .string x104004_4]) ?_ 2 _ rfl; (with_reducible repeat (first | refine blk_drewN ?_ _ | refine blk_drew ?_ | refine blk_alloc ?_ _)); refine blk_put (cs := #[.int .u64 0, .int .u64 t108, .int .u64 x104002_4, .string x104003_4, .string x104004_4]) ?_ 1 _ rfl; (with_reducible repeat (first | refine blk_drewN ?_ _ | refine blk_drew ?_ | refine blk_alloc ?_ _)); refine blk_put (cs := #[.int .u64 t105, .int .u64 t108, .int .u64 x104002_4, .string x104003_4, .string x104004_4]) ?_ 0 _ rfl; (with_reducible repeat (first | refine blk_drewN ?_ _ | refine blk_drew ?_ | refine blk_alloc ?_ _)); exact BK103.out) Tryz.underlying26 rfl (by kernel_rfl)) rfl ?_
                      exact ⟨by first | rfl | (simp [errW_none, errW_some] <;> rfl) | (simp [*, errW_none, errW_some] <;> rfl), by repeat (first | (with_reducible first | exact HB.out | apply below_alloc | apply pw_below_drewN | apply below_drew1 | refine below_set ?_ GE103.out) | exact HB.out)⟩
                    · replace c41 := Bool.eq_false_iff.mpr c41
                      subst c41
                      have H1 : (if 1 ≤ (t109.size : Int) then ((spec_number.f kj34 (t109.extract 1 t109.size)).bind fun bt111 => (if bt111.2.2 = true then (if (bt111.2.1.size : Int) > 0 then (if 0 < (bt111.2.1.size : Int) then (if (bt bt111.2.1 0) = 45 then (if 1 ≤ (bt111.2.1.size : Int) then ((spec_parts.f kj34 (bt111.2.1.extract 1 bt111.2.1.size) true).bind fun t114 => (if t114 = true then (some (t105, t108, bt111.1, bt111.2.1.extract 1 bt111.2.1.size, x104004_4, true)) else (some (0, 0, 0, (⟨#[]⟩ : ByteArray), (⟨#[]⟩ : ByteArray), false)))) else (none)) else (some (0, 0, 0, (⟨#[]⟩ : ByteArray), (⟨#[]⟩ : ByteArray), false))) else (none)) else (some (t105, t108, bt111.1, x104003_4, x104004_4, true))) else (some (0, 0, 0, (⟨#[]⟩ : ByteArray), (⟨#[]⟩ : ByteArray), false)))) else (none)) = some (r1, r2, r3, r4, r5, r6) := by rw [if_neg (show ¬ (false = true) by decide)] at H; exact H
                      clear H
                      have H := H1
                      clear H1
                      by_cases c43 : 1 ≤ (t109.size : Int)
                      · rw [if_pos c43] at H
                        have c43b0 := eq_true c43
                        have c43b1 : decide (1 ≤ (t109.size : Int)) = true := decide_eq_true c43
                        clear c43
                        replace H := Option.bind_eq_some_iff.mp H
                        obtain ⟨⟨t111, t112, t113⟩, A440, H⟩ := H
                        replace H : (if t113 = true then (if (t112.size : Int) > 0 then (if 0 < (t112.size : Int) then (if (bt t112 0) = 45 then (if 1 ≤ (t112.size : Int) then ((spec_parts.f kj34 (t112.extract 1 t112.size) true).bind fun t114 => (if t114 = true then (some (t105, t108, t111, t112.extract 1 t112.size, x104004_4, true)) else (some (0, 0, 0, (⟨#[]⟩ : ByteArray), (⟨#[]⟩ : ByteArray), false)))) else (none)) else (some (0, 0, 0, (⟨#[]⟩ : ByteArray), (⟨#[]⟩ : ByteArray), false))) else (none)) else (some (t105, t108, t111, x104003_4, x104004_4, true))) else (some (0, 0, 0, (⟨#[]⟩ : ByteArray), (⟨#[]⟩ : ByteArray), false))) = some (r1, r2, r3, r4, r5, r6) := H
                        have A44 := Aside0.mk A440
                        clear A440
                        by_cases c45 : t113 = true
                        · subst c45
                          have H1 : (if (t112.size : Int) > 0 then (if 0 < (t112.size : Int) then (if (bt t112 0) = 45 then (if 1 ≤ (t112.size : Int) then ((spec_parts.f kj34 (t112.extract 1 t112.size) true).bind fun t114 => (if t114 = true then (some (t105, t108, t111, t112.extract 1 t112.size, x104004_4, true)) else (some (0, 0, 0, (⟨#[]⟩ : ByteArray), (⟨#[]⟩ : ByteArray), false)))) else (none)) else (some (0, 0, 0, (⟨#[]⟩ : ByteArray), (⟨#[]⟩ : ByteArray), false))) else (none)) else (some (t105, t108, t111, x104003_4, x104004_4, true))) = some (r1, r2, r3, r4, r5, r6) := by rw [if_pos rfl] at H; exact H
                          clear H
                          have H := H1
                          clear H1
                          by_cases c46 : (t112.size : Int) > 0
                          · rw [if_pos c46] at H
                            have c46b0 : decide (0 < (t112.size : Int)) = true := decide_eq_true c46
                            have c46b1 : decide (0 < t112.size) = true := decide_eq_true (by omega)
                            clear c46
                            by_cases c47 : 0 < (t112.size : Int)
                            · rw [if_pos c47] at H
                              have c47b0 : decide (0 < (t112.size : Int)) = true := decide_eq_true c47
                              have c47b1 : decide (0 < t112.size) = true := decide_eq_true (by omega)
                              clear c47
                              by_cases c49 : (bt t112 0) = 45
                              · rw [if_pos c49] at H
                                have c49b0 : ((bt t112 0) == 45) = true := beq_iff_eq.mpr c49
                                have c49b1 : ((bt t112 0) != 45) = false := bne_eq_false_iff_eq.mpr c49
                                clear c49
                                by_cases c50 : 1 ≤ (t112.size : Int)
                                · rw [if_pos c50] at H
                                  have c50b0 := eq_true c50
                                  have c50b1 : decide (1 ≤ (t112.size : Int)) = true := decide_eq_true c50
                                  clear c50
                                  replace H := Option.bind_eq_some_iff.mp H
                                  obtain ⟨t114, A510, H⟩ := H
                                  replace H : (if t114 = true then (some (t105, t108, t111, t112.extract 1 t112.size, x104004_4, true)) else (some (0, 0, 0, (⟨#[]⟩ : ByteArray), (⟨#[]⟩ : ByteArray), false))) = some (r1, r2, r3, r4, r5, r6) := H
                                  have A51 := Aside0.mk A510
                                  clear A510
                                  by_cases c52 : t114 = true
                                  · subst c52
                                    have H1 : (some (t105, t108, t111, t112.extract 1 t112.size, x104004_4, true)) = some (r1, r2, r3, r4, r5, r6) := by rw [if_pos rfl] at H; exact H
                                    clear H
                                    have H := H1
                                    clear H1
                                    have c53b0 := eq_true (of_decide_eq_true (by first | (with_reducible assumption) | assumption) : 1 ≤ (t112.size : Int))
                                    simp only [Option.some.injEq, Prod.mk.injEq] at H
                                    obtain ⟨rfl, rfl, rfl, rfl, rfl, rfl⟩ := H
                                    go_wp2_with (first | ((with_reducible refine gate_callee (f := 12) rfl ?_); refine goesL_ (some 79) rfl rfl Tryz.func12 (by kernel_rfl) rfl #[.string (t109.extract 1 t109.size)] rfl (by (try simp only [List.map_toArray, List.map_cons, List.map_nil]); first | done | rfl | (simp only [List.length_drop, List.length_take]; rfl)) ?_; (with_reducible refine (spec_number.calls kj34 (t109.extract 1 t109.size) t111 t112 true _ A44.out).mono ?_); rintro e w' ⟨rfl, ⟨nd, rfl⟩⟩; refine ⟨_, rfl, ?_⟩; (try (rw [drewN_self wc]; generalize hq_ : World.drewN wc _ = wc; have n0_ : Aside0 (wc.heap[gb103]? = some (.cells #[.int .u64 t105, .int .u64 t108, .int .u64 x104002_4, .string x104003_4, .string x104004_4] 26 (0, 0))) := ⟨by rw [← hq_]; exact (by (with_reducible repeat (first | refine blk_drewN ?_ _ | refine blk_drew ?_ | refine blk_alloc ?_ _)); exact BK103.out)⟩; have n1_ : Aside0 (Below w.heap.size w wc) := ⟨by rw [← hq_]; exact (by repeat (first | (with_reducible first | exact HB.out | apply below_alloc | apply pw_below_drewN | apply below_drew1 | refine below_set ?_ GE103.out) | exact HB.out))⟩; clear BK103 HB hq_; have BK103 := n0_; have HB := n1_; clear n0_ n1_)); have hcz54_0 : wc.cell? ⟨gb103, 0, none⟩ = some (.int .u64 t105) := (blk_cell BK103.out 0).trans rfl; have hcz54_1 : wc.cell? ⟨gb103, 1, none⟩ = some (.int .u64 t108) := (blk_cell BK103.out 1).trans rfl; have hcz54_2 : wc.cell? ⟨gb103, 2, none⟩ = some (.int .u64 x104002_4) := (blk_cell BK103.out 2).trans rfl; have hcz54_3 : wc.cell? ⟨gb103, 3, none⟩ = some (.string x104003_4) := (blk_cell BK103.out 3).trans rfl; have hcz54_4 : wc.cell? ⟨gb103, 4, none⟩ = some (.string x104004_4) := (blk_cell BK103.out 4).trans rfl; have hfz54_0 := blk_frozen BK103.out 0; have hfz54_1 := blk_frozen BK103.out 1; have hfz54_2 := blk_frozen BK103.out 2; have hfz54_3 := blk_frozen BK103.out 3; have hfz54_4 := blk_frozen BK103.out 4; have p48 : 0 ≤ (0 : Int) := (by omega); have q48 : 0 < t112.size := (by have : (0 : Int) < (t112.size : Int) := of_decide_eq_true (by first | (with_reducible assumption) | assumption); omega); have hx48 : ∀ h : 0 < t112.size, ((t112[0]'h).toNat : Int) = bt t112 0 := bt_at t112 0; clear p48; have qi48 : (0 < (t112.size : Int)) = True := eq_true (of_decide_eq_true (by first | (with_reducible assumption) | assumption)); replace q48 := eq_true q48) | (go_at_call 11; (with_reducible refine (spec_parts.calls kj34 (t112.extract 1 t112.size) true true _ A51.out).mono ?_); rintro e w' ⟨rfl, ⟨nd, rfl⟩⟩))
                                    refine bodyPost_ret (results_ct rfl _ _ gb103 26 #[.int .u64 t105, .int .u64 t108, .int .u64 t111, .string (t112.extract 1 t112.size), .string x104004_4] (0, 0) _ rfl (by (with_reducible repeat (first | refine blk_drewN ?_ _ | refine blk_drew ?_ | refine blk_alloc ?_ _)); refine blk_put (cs := #[.int .u64 t105, .int .u64 t108, .int .u64 t111, .string (t112.extract 1 t112.size), .string x104004_4]) ?_ 4 _ rfl; (with_reducible repeat (first | refine blk_drewN ?_ _ | refine blk_drew ?_ | refine blk_alloc ?_ _)); refine blk_put (cs := #[.int .u64 t105, .int .u64 t108, .int .u64 t111, .string (t112.extract 1 t112.size), .string x104004_4]) ?_ 3 _ rfl; (with_reducible repeat (first | refine blk_drewN ?_ _ | refine blk_drew ?_ | refine blk_alloc ?_ _)); refine blk_put (cs := #[.int .u64 t105, .int .u64 t108, .int .u64 t111, .string (t112.extract 1 t112.size), .string x104004_4]) ?_ 2 _ rfl; (with_reducible repeat (first | refine blk_drewN ?_ _ | refine blk_drew ?_ | refine blk_alloc ?_ _)); refine blk_put (cs := #[.int .u64 t105, .int .u64 t108, .int .u64 t111, .string (t112.extract 1 t112.size), .string x104004_4]) ?_ 1 _ rfl; (with_reducible repeat (first | refine blk_drewN ?_ _ | refine blk_drew ?_ | refine blk_alloc ?_ _)); refine blk_put (cs := #[.int .u64 t105, .int .u64 t108, .int .u64 t111, .string (t112.extract 1 t112.size), .string x104004_4]) ?_ 0 _ rfl; (with_reducible repeat (first | refine blk_drewN ?_ _ | refine blk_drew ?_ | refine blk_alloc ?_ _)); refine blk_put (cs := #[.int .u64 t105, .int .u64 t108, .int .u64 t111, .string x104003_4, .string x104004_4]) ?_ 3 _ rfl; (with_reducible repeat (first | refine blk_drewN ?_ _ | refine blk_drew ?_ | refine blk_alloc ?_ _)); refine blk_put (cs := #[.int .u64 t105, .int .u64 t108, .int .u64 x104002_4, .string x104003_4, .string x104004_4]) ?_ 2 _ rfl; (with_reducible repeat (first | refine blk_drewN ?_ _ | refine blk_drew ?_ | refine blk_alloc ?_ _)); exact BK103.out) Tryz.underlying26 rfl (by kernel_rfl)) rfl ?_
                                    exact ⟨by first | rfl | (simp [errW_none, errW_some] <;> rfl) | (simp [*, errW_none, errW_some] <;> rfl), by repeat (first | (with_reducible first | exact HB.out | apply below_alloc | apply pw_below_drewN | apply below_drew1 | refine below_set ?_ GE103.out) | exact HB.out)⟩
                                  · replace c52 := Bool.eq_false_iff.mpr c52
                                    subst c52
                                    have H1 : (some (0, 0, 0, (⟨#[]⟩ : ByteArray), (⟨#[]⟩ : ByteArray), false)) = some (r1, r2, r3, r4, r5, r6) := by rw [if_neg (show ¬ (false = true) by decide)] at H; exact H
                                    clear H
                                    have H := H1
                                    clear H1
                                    simp only [Option.some.injEq, Prod.mk.injEq] at H
                                    obtain ⟨rfl, rfl, rfl, rfl, rfl, rfl⟩ := H
                                    go_wp2_with (first | ((with_reducible refine gate_callee (f := 12) rfl ?_); refine goesL_ (some 79) rfl rfl Tryz.func12 (by kernel_rfl) rfl #[.string (t109.extract 1 t109.size)] rfl (by (try simp only [List.map_toArray, List.map_cons, List.map_nil]); first | done | rfl | (simp only [List.length_drop, List.length_take]; rfl)) ?_; (with_reducible refine (spec_number.calls kj34 (t109.extract 1 t109.size) t111 t112 true _ A44.out).mono ?_); rintro e w' ⟨rfl, ⟨nd, rfl⟩⟩; refine ⟨_, rfl, ?_⟩; (try (rw [drewN_self wc]; generalize hq_ : World.drewN wc _ = wc; have n0_ : Aside0 (wc.heap[gb103]? = some (.cells #[.int .u64 t105, .int .u64 t108, .int .u64 x104002_4, .string x104003_4, .string x104004_4] 26 (0, 0))) := ⟨by rw [← hq_]; exact (by (with_reducible repeat (first | refine blk_drewN ?_ _ | refine blk_drew ?_ | refine blk_alloc ?_ _)); exact BK103.out)⟩; have n1_ : Aside0 (Below w.heap.size w wc) := ⟨by rw [← hq_]; exact (by repeat (first | (with_reducible first | exact HB.out | apply below_alloc | apply pw_below_drewN | apply below_drew1 | refine below_set ?_ GE103.out) | exact HB.out))⟩; clear BK103 HB hq_; have BK103 := n0_; have HB := n1_; clear n0_ n1_)); have hcz55_0 : wc.cell? ⟨gb103, 0, none⟩ = some (.int .u64 t105) := (blk_cell BK103.out 0).trans rfl; have hcz55_1 : wc.cell? ⟨gb103, 1, none⟩ = some (.int .u64 t108) := (blk_cell BK103.out 1).trans rfl; have hcz55_2 : wc.cell? ⟨gb103, 2, none⟩ = some (.int .u64 x104002_4) := (blk_cell BK103.out 2).trans rfl; have hcz55_3 : wc.cell? ⟨gb103, 3, none⟩ = some (.string x104003_4) := (blk_cell BK103.out 3).trans rfl; have hcz55_4 : wc.cell? ⟨gb103, 4, none⟩ = some (.string x104004_4) := (blk_cell BK103.out 4).trans rfl; have hfz55_0 := blk_frozen BK103.out 0; have hfz55_1 := blk_frozen BK103.out 1; have hfz55_2 := blk_frozen BK103.out 2; have hfz55_3 := blk_frozen BK103.out 3; have hfz55_4 := blk_frozen BK103.out 4; have p48 : 0 ≤ (0 : Int) := (by omega); have q48 : 0 < t112.size := (by have : (0 : Int) < (t112.size : Int) := of_decide_eq_true (by first | (with_reducible assumption) | assumption); omega); have hx48 : ∀ h : 0 < t112.size, ((t112[0]'h).toNat : Int) = bt t112 0 := bt_at t112 0; clear p48; have qi48 : (0 < (t112.size : Int)) = True := eq_true (of_decide_eq_true (by first | (with_reducible assumption) | assumption)); replace q48 := eq_true q48) | (go_at_call 11; (with_reducible refine (spec_parts.calls kj34 (t112.extract 1 t112.size) true false _ A51.out).mono ?_); rintro e w' ⟨rfl, ⟨nd, rfl⟩⟩))
                                    refine bodyPost_ret (results_ct rfl _ _ gb103 26 #[.int .u64 0, .int .u64 0, .int .u64 0, .string (⟨#[]⟩ : ByteArray), .string (⟨#[]⟩ : ByteArray)] (0, 0) _ rfl (by (with_reducible repeat (first | refine blk_drewN ?_ _ | refine blk_drew ?_ | refine blk_alloc ?_ _)); refine blk_put (cs := #[.int .u64 0, .int .u64 0, .int .u64 0, .string (⟨#[]⟩ : ByteArray), .string x104004_4]) ?_ 4 _ rfl; (with_reducible repeat (first | refine blk_drewN ?_ _ | refine blk_drew ?_ | refine blk_alloc ?_ _)); refine blk_put (cs := #[.int .u64 0, .int .u64 0, .int .u64 0, .string x104003_4, .string x104004_4]) ?_ 3 _ rfl; (with_reducible repeat (first | refine blk_drewN ?_ _ | refine blk_drew ?_ | refine blk_alloc ?_ _)); refine blk_put (cs := #[.int .u64 0, .int .u64 0, .int .u64 t111, .string x104003_4, .string x104004_4]) ?_ 2 _ rfl; (with_reducible repeat (first | refine blk_drewN ?_ _ | refine blk_drew ?_ | refine blk_alloc ?_ _)); refine blk_put (cs := #[.int .u64 0, .int .u64 t108, .int .u64 t111, .string x104003_4, .string x104004_4]) ?_ 1 _ rfl; (with_reducible repeat (first | refine blk_drewN ?_ _ | refine blk_drew ?_ | refine blk_alloc ?_ _)); refine blk_put (cs := #[.int .u64 t105, .int .u64 t108, .int .u64 t111, .string x104003_4, .string x104004_4]) ?_ 0 _ rfl; (with_reducible repeat (first | refine blk_drewN ?_ _ | refine blk_drew ?_ | refine blk_alloc ?_ _)); refine blk_put (cs := #[.int .u64 t105, .int .u64 t108, .int .u64 x104002_4, .string x104003_4, .string x104004_4]) ?_ 2 _ rfl; (with_reducible repeat (first | refine blk_drewN ?_ _ | refine blk_drew ?_ | refine blk_alloc ?_ _)); exact BK103.out) Tryz.underlying26 rfl (by kernel_rfl)) rfl ?_
                                    exact ⟨by first | rfl | (simp [errW_none, errW_some] <;> rfl) | (simp [*, errW_none, errW_some] <;> rfl), by repeat (first | (with_reducible first | exact HB.out | apply below_alloc | apply pw_below_drewN | apply below_drew1 | refine below_set ?_ GE103.out) | exact HB.out)⟩
                                · rw [if_neg c50] at H
                                  exact absurd H (by simp)
                              · rw [if_neg c49] at H
                                have c49b0 : ((bt t112 0) == 45) = false := beq_eq_false_iff_ne.mpr c49
                                have c49b1 : ((bt t112 0) != 45) = true := bne_iff_ne.mpr c49
                                simp only [Option.some.injEq, Prod.mk.injEq] at H
                                obtain ⟨rfl, rfl, rfl, rfl, rfl, rfl⟩ := H
                                go_wp2_with (first | ((with_reducible refine gate_callee (f := 12) rfl ?_); refine goesL_ (some 79) rfl rfl Tryz.func12 (by kernel_rfl) rfl #[.string (t109.extract 1 t109.size)] rfl (by (try simp only [List.map_toArray, List.map_cons, List.map_nil]); first | done | rfl | (simp only [List.length_drop, List.length_take]; rfl)) ?_; (with_reducible refine (spec_number.calls kj34 (t109.extract 1 t109.size) t111 t112 true _ A44.out).mono ?_); rintro e w' ⟨rfl, ⟨nd, rfl⟩⟩; refine ⟨_, rfl, ?_⟩; (try (rw [drewN_self wc]; generalize hq_ : World.drewN wc _ = wc; have n0_ : Aside0 (wc.heap[gb103]? = some (.cells #[.int .u64 t105, .int .u64 t108, .int .u64 x104002_4, .string x104003_4, .string x104004_4] 26 (0, 0))) := ⟨by rw [← hq_]; exact (by (with_reducible repeat (first | refine blk_drewN ?_ _ | refine blk_drew ?_ | refine blk_alloc ?_ _)); exact BK103.out)⟩; have n1_ : Aside0 (Below w.heap.size w wc) := ⟨by rw [← hq_]; exact (by repeat (first | (with_reducible first | exact HB.out | apply below_alloc | apply pw_below_drewN | apply below_drew1 | refine below_set ?_ GE103.out) | exact HB.out))⟩; clear BK103 HB hq_; have BK103 := n0_; have HB := n1_; clear n0_ n1_)); have hcz56_0 : wc.cell? ⟨gb103, 0, none⟩ = some (.int .u64 t105) := (blk_cell BK103.out 0).trans rfl; have hcz56_1 : wc.cell? ⟨gb103, 1, none⟩ = some (.int .u64 t108) := (blk_cell BK103.out 1).trans rfl; have hcz56_2 : wc.cell? ⟨gb103, 2, none⟩ = some (.int .u64 x104002_4) := (blk_cell BK103.out 2).trans rfl; have hcz56_3 : wc.cell? ⟨gb103, 3, none⟩ = some (.string x104003_4) := (blk_cell BK103.out 3).trans rfl; have hcz56_4 : wc.cell? ⟨gb103, 4, none⟩ = some (.string x104004_4) := (blk_cell BK103.out 4).trans rfl; have hfz56_0 := blk_frozen BK103.out 0; have hfz56_1 := blk_frozen BK103.out 1; have hfz56_2 := blk_frozen BK103.out 2; have hfz56_3 := blk_frozen BK103.out 3; have hfz56_4 := blk_frozen BK103.out 4; have p48 : 0 ≤ (0 : Int) := (by omega); have q48 : 0 < t112.size := (by have : (0 : Int) < (t112.size : Int) := of_decide_eq_true (by first | (with_reducible assumption) | assumption); omega); have hx48 : ∀ h : 0 < t112.size, ((t112[0]'h).toNat : Int) = bt t112 0 := bt_at t112 0; clear p48; have qi48 : (0 < (t112.size : Int)) = True := eq_true (of_decide_eq_true (by first | (with_reducible assumption) | assumption)); replace q48 := eq_true q48))
                                refine bodyPost_ret (results_ct rfl _ _ gb103 26 #[.int .u64 0, .int .u64 0, .int .u64 0, .string (⟨#[]⟩ : ByteArray), .string (⟨#[]⟩ : ByteArray)] (0, 0) _ rfl (by (with_reducible repeat (first | refine blk_drewN ?_ _ | refine blk_drew ?_ | refine blk_alloc ?_ _)); refine blk_put (cs := #[.int .u64 0, .int .u64 0, .int .u64 0, .string (⟨#[]⟩ : ByteArray), .string x104004_4]) ?_ 4 _ rfl; (with_reducible repeat (first | refine blk_drewN ?_ _ | refine blk_drew ?_ | refine blk_alloc ?_ _)); refine blk_put (cs := #[.int .u64 0, .int .u64 0, .int .u64 0, .string x104003_4, .string x104004_4]) ?_ 3 _ rfl; (with_reducible repeat (first | refine blk_drewN ?_ _ | refine blk_drew ?_ | refine blk_alloc ?_ _)); refine blk_put (cs := #[.int .u64 0, .int .u64 0, .int .u64 t111, .string x104003_4, .string x104004_4]) ?_ 2 _ rfl; (with_reducible repeat (first | refine blk_drewN ?_ _ | refine blk_drew ?_ | refine blk_alloc ?_ _)); refine blk_put (cs := #[.int .u64 0, .int .u64 t108, .int .u64 t111, .string x104003_4, .string x104004_4]) ?_ 1 _ rfl; (with_reducible repeat (first | refine blk_drewN ?_ _ | refine blk_drew ?_ | refine blk_alloc ?_ _)); refine blk_put (cs := #[.int .u64 t105, .int .u64 t108, .int .u64 t111, .string x104003_4, .string x104004_4]) ?_ 0 _ rfl; (with_reducible repeat (first | refine blk_drewN ?_ _ | refine blk_drew ?_ | refine blk_alloc ?_ _)); refine blk_put (cs := #[.int .u64 t105, .int .u64 t108, .int .u64 x104002_4, .string x104003_4, .string x104004_4]) ?_ 2 _ rfl; (with_reducible repeat (first | refine blk_drewN ?_ _ | refine blk_drew ?_ | refine blk_alloc ?_ _)); exact BK103.out) Tryz.underlying26 rfl (by kernel_rfl)) rfl ?_
                                exact ⟨by first | rfl | (simp [errW_none, errW_some] <;> rfl) | (simp [*, errW_none, errW_some] <;> rfl), by repeat (first | (with_reducible first | exact HB.out | apply below_alloc | apply pw_below_drewN | apply below_drew1 | refine below_set ?_ GE103.out) | exact HB.out)⟩
                            · rw [if_neg c47] at H
                              exact absurd H (by simp)
                          · rw [if_neg c46] at H
                            have c46b0 : decide (0 < (t112.size : Int)) = false := decide_eq_false c46
                            have c46b1 : decide (0 < t112.size) = false := decide_eq_false (by omega)
                            clear c46
                            simp only [Option.some.injEq, Prod.mk.injEq] at H
                            obtain ⟨rfl, rfl, rfl, rfl, rfl, rfl⟩ := H
                            go_wp2_with (first | ((with_reducible refine gate_callee (f := 12) rfl ?_); refine goesL_ (some 79) rfl rfl Tryz.func12 (by kernel_rfl) rfl #[.string (t109.extract 1 t109.size)] rfl (by (try simp only [List.map_toArray, List.map_cons, List.map_nil]); first | done | rfl | (simp only [List.length_drop, List.length_take]; rfl)) ?_; (with_reducible refine (spec_number.calls kj34 (t109.extract 1 t109.size) t111 t112 true _ A44.out).mono ?_); rintro e w' ⟨rfl, ⟨nd, rfl⟩⟩; refine ⟨_, rfl, ?_⟩; (try (rw [drewN_self wc]; generalize hq_ : World.drewN wc _ = wc; have n0_ : Aside0 (wc.heap[gb103]? = some (.cells #[.int .u64 t105, .int .u64 t108, .int .u64 x104002_4, .string x104003_4, .string x104004_4] 26 (0, 0))) := ⟨by rw [← hq_]; exact (by (with_reducible repeat (first | refine blk_drewN ?_ _ | refine blk_drew ?_ | refine blk_alloc ?_ _)); exact BK103.out)⟩; have n1_ : Aside0 (Below w.heap.size w wc) := ⟨by rw [← hq_]; exact (by repeat (first | (with_reducible first | exact HB.out | apply below_alloc | apply pw_below_drewN | apply below_drew1 | refine below_set ?_ GE103.out) | exact HB.out))⟩; clear BK103 HB hq_; have BK103 := n0_; have HB := n1_; clear n0_ n1_)); have hcz57_0 : wc.cell? ⟨gb103, 0, none⟩ = some (.int .u64 t105) := (blk_cell BK103.out 0).trans rfl; have hcz57_1 : wc.cell? ⟨gb103, 1, none⟩ = some (.int .u64 t108) := (blk_cell BK103.out 1).trans rfl; have hcz57_2 : wc.cell? ⟨gb103, 2, none⟩ = some (.int .u64 x104002_4) := (blk_cell BK103.out 2).trans rfl; have hcz57_3 : wc.cell? ⟨gb103, 3, none⟩ = some (.string x104003_4) := (blk_cell BK103.out 3).trans rfl; have hcz57_4 : wc.cell? ⟨gb103, 4, none⟩ = some (.string x104004_4) := (blk_cell BK103.out 4).trans rfl; have hfz57_0 := blk_frozen BK103.out 0; have hfz57_1 := blk_frozen BK103.out 1; have hfz57_2 := blk_frozen BK103.out 2; have hfz57_3 := blk_frozen BK103.out 3; have hfz57_4 := blk_frozen BK103.out 4))
                            refine bodyPost_ret (results_ct rfl _ _ gb103 26 #[.int .u64 t105, .int .u64 t108, .int .u64 t111, .string x104003_4, .string x104004_4] (0, 0) _ rfl (by (with_reducible repeat (first | refine blk_drewN ?_ _ | refine blk_drew ?_ | refine blk_alloc ?_ _)); refine blk_put (cs := #[.int .u64 t105, .int .u64 t108, .int .u64 t111, .string x104003_4, .string x104004_4]) ?_ 4 _ rfl; (with_reducible repeat (first | refine blk_drewN ?_ _ | refine blk_drew ?_ | refine blk_alloc ?_ _)); refine blk_put (cs := #[.int .u64 t105, .int .u64 t108, .int .u64 t111, .string x104003_4, .string x104004_4]) ?_ 3 _ rfl; (with_reducible repeat (first | refine blk_drewN ?_ _ | refine blk_drew ?_ | refine blk_alloc ?_ _)); refine blk_put (cs := #[.int .u64 t105, .int .u64 t108, .int .u64 t111, .string x104003_4, .string x104004_4]) ?_ 2 _ rfl; (with_reducible repeat (first | refine blk_drewN ?_ _ | refine blk_drew ?_ | refine blk_alloc ?_ _)); refine blk_put (cs := #[.int .u64 t105, .int .u64 t108, .int .u64 t111, .string x104003_4, .string x104004_4]) ?_ 1 _ rfl; (with_reducible repeat (first | refine blk_drewN ?_ _ | refine blk_drew ?_ | refine blk_alloc ?_ _)); refine blk_put (cs := #[.int .u64 t105, .int .u64 t108, .int .u64 t111, .string x104003_4, .string x104004_4]) ?_ 0 _ rfl; (with_reducible repeat (first | refine blk_drewN ?_ _ | refine blk_drew ?_ | refine blk_alloc ?_ _)); refine blk_put (cs := #[.int .u64 t105, .int .u64 t108, .int .u64 x104002_4, .string x104003_4, .string x104004_4]) ?_ 2 _ rfl; (with_reducible repeat (first | refine blk_drewN ?_ _ | refine blk_drew ?_ | refine blk_alloc ?_ _)); exact BK103.out) Tryz.underlying26 rfl (by kernel_rfl)) rfl ?_
                            exact ⟨by first | rfl | (simp [errW_none, errW_some] <;> rfl) | (simp [*, errW_none, errW_some] <;> rfl), by repeat (first | (with_reducible first | exact HB.out | apply below_alloc | apply pw_below_drewN | apply below_drew1 | refine below_set ?_ GE103.out) | exact HB.out)⟩
                        · replace c45 := Bool.eq_false_iff.mpr c45
                          subst c45
                          have H1 : (some (0, 0, 0, (⟨#[]⟩ : ByteArray), (⟨#[]⟩ : ByteArray), false)) = some (r1, r2, r3, r4, r5, r6) := by rw [if_neg (show ¬ (false = true) by decide)] at H; exact H
                          clear H
                          have H := H1
                          clear H1
                          simp only [Option.some.injEq, Prod.mk.injEq] at H
                          obtain ⟨rfl, rfl, rfl, rfl, rfl, rfl⟩ := H
                          go_wp2_with (first | ((with_reducible refine gate_callee (f := 12) rfl ?_); refine goesL_ (some 79) rfl rfl Tryz.func12 (by kernel_rfl) rfl #[.string (t109.extract 1 t109.size)] rfl (by (try simp only [List.map_toArray, List.map_cons, List.map_nil]); first | done | rfl | (simp only [List.length_drop, List.length_take]; rfl)) ?_; (with_reducible refine (spec_number.calls kj34 (t109.extract 1 t109.size) t111 t112 false _ A44.out).mono ?_); rintro e w' ⟨rfl, ⟨nd, rfl⟩⟩; refine ⟨_, rfl, ?_⟩; (try (rw [drewN_self wc]; generalize hq_ : World.drewN wc _ = wc; have n0_ : Aside0 (wc.heap[gb103]? = some (.cells #[.int .u64 t105, .int .u64 t108, .int .u64 x104002_4, .string x104003_4, .string x104004_4] 26 (0, 0))) := ⟨by rw [← hq_]; exact (by (with_reducible repeat (first | refine blk_drewN ?_ _ | refine blk_drew ?_ | refine blk_alloc ?_ _)); exact BK103.out)⟩; have n1_ : Aside0 (Below w.heap.size w wc) := ⟨by rw [← hq_]; exact (by repeat (first | (with_reducible first | exact HB.out | apply below_alloc | apply pw_below_drewN | apply below_drew1 | refine below_set ?_ GE103.out) | exact HB.out))⟩; clear BK103 HB hq_; have BK103 := n0_; have HB := n1_; clear n0_ n1_)); have hcz58_0 : wc.cell? ⟨gb103, 0, none⟩ = some (.int .u64 t105) := (blk_cell BK103.out 0).trans rfl; have hcz58_1 : wc.cell? ⟨gb103, 1, none⟩ = some (.int .u64 t108) := (blk_cell BK103.out 1).trans rfl; have hcz58_2 : wc.cell? ⟨gb103, 2, none⟩ = some (.int .u64 x104002_4) := (blk_cell BK103.out 2).trans rfl; have hcz58_3 : wc.cell? ⟨gb103, 3, none⟩ = some (.string x104003_4) := (blk_cell BK103.out 3).trans rfl; have hcz58_4 : wc.cell? ⟨gb103, 4, none⟩ = some (.string x104004_4) := (blk_cell BK103.out 4).trans rfl; have hfz58_0 := blk_frozen BK103.out 0; have hfz58_1 := blk_frozen BK103.out 1; have hfz58_2 := blk_frozen BK103.out 2; have hfz58_3 := blk_frozen BK103.out 3; have hfz58_4 := blk_frozen BK103.out 4))
                          refine bodyPost_ret (results_ct rfl _ _ gb103 26 #[.int .u64 0, .int .u64 0, .int .u64 0, .string (⟨#[]⟩ : ByteArray), .string (⟨#[]⟩ : ByteArray)] (0, 0) _ rfl (by (with_reducible repeat (first | refine blk_drewN ?_ _ | refine blk_drew ?_ | refine blk_alloc ?_ _)); refine blk_put (cs := #[.int .u64 0, .int .u64 0, .int .u64 0, .string (⟨#[]⟩ : ByteArray), .string x104004_4]) ?_ 4 _ rfl; (with_reducible repeat (first | refine blk_drewN ?_ _ | refine blk_drew ?_ | refine blk_alloc ?_ _)); refine blk_put (cs := #[.int .u64 0, .int .u64 0, .int .u64 0, .string x104003_4, .string x104004_4]) ?_ 3 _ rfl; (with_reducible repeat (first | refine blk_drewN ?_ _ | refine blk_drew ?_ | refine blk_alloc ?_ _)); refine blk_put (cs := #[.int .u64 0, .int .u64 0, .int .u64 t111, .string x104003_4, .string x104004_4]) ?_ 2 _ rfl; (with_reducible repeat (first | refine blk_drewN ?_ _ | refine blk_drew ?_ | refine blk_alloc ?_ _)); refine blk_put (cs := #[.int .u64 0, .int .u64 t108, .int .u64 t111, .string x104003_4, .string x104004_4]) ?_ 1 _ rfl; (with_reducible repeat (first | refine blk_drewN ?_ _ | refine blk_drew ?_ | refine blk_alloc ?_ _)); refine blk_put (cs := #[.int .u64 t105, .int .u64 t108, .int .u64 t111, .string x104003_4, .string x104004_4]) ?_ 0 _ rfl; (with_reducible repeat (first | refine blk_drewN ?_ _ | refine blk_drew ?_ | refine blk_alloc ?_ _)); refine blk_put (cs := #[.int .u64 t105, .int .u64 t108, .int .u64 x104002_4, .string x104003_4, .string x104004_4]) ?_ 2 _ rfl; (with_reducible repeat (first | refine blk_drewN ?_ _ | refine blk_drew ?_ | refine blk_alloc ?_ _)); exact BK103.out) Tryz.underlying26 rfl (by kernel_rfl)) rfl ?_
                          exact ⟨by first | rfl | (simp [errW_none, errW_some] <;> rfl) | (simp [*, errW_none, errW_some] <;> rfl), by repeat (first | (with_reducible first | exact HB.out | apply below_alloc | apply pw_below_drewN | apply below_drew1 | refine below_set ?_ GE103.out) | exact HB.out)⟩
                      · rw [if_neg c43] at H
                        exact absurd H (by simp)
              · rw [if_neg c33] at H
                exact absurd H (by simp)

/-! ### spec_Among: function 6 -/
def spec_Among.l0 : Nat → List ByteArray → ByteArray → Int → Option (Bool)
  | 0, _, _, _ => none
  | k + 1, x0, x1, x5 => if x5 < (x0.length : Int) then (if 0 ≤ x5 then (if (rdOf ByteArray.empty x0 x5).toList = x1.toList then (some true) else (spec_Among.l0 k x0 x1 (wrap64 (x5 + 1)))) else (none)) else (some false)
def spec_Among.f (k : Nat) (l0 : List ByteArray) (a1 : ByteArray) : Option (Bool) := spec_Among.l0 k l0 a1 0
theorem spec_Among.mono_l : ∀ k, (∀ y0 y1 y2, LeO (spec_Among.l0 k y0 y1 y2) (spec_Among.l0 (k + 1) y0 y1 y2))
  | 0 => fun _ _ _ r h => by simp [spec_Among.l0] at h
  | k + 1 => by
    have ih0 := spec_Among.mono_l k
    · intro y0 y1 y2
      unfold spec_Among.l0
      repeat' first
      | (with_reducible exact ih0 _ _ _)
      | (with_reducible exact LeO.refl _)
      | (with_reducible exact LeO.none _)
      | (with_reducible refine LeO.ite ?_ ?_)
      | (with_reducible refine LeO.bind ?_ (fun _ => ?_))
      | exact ih0 _ _ _
      | exact LeO.none _
      | refine LeO.ite ?_ ?_
      | refine LeO.bind ?_ (fun _ => ?_)
theorem spec_Among.mono : ∀ a0 a1 k, LeO (spec_Among.f k a0 a1) (spec_Among.f (k + 1) a0 a1) := by
  intro a0 a1 k
  have ih0 := spec_Among.mono_l k
  unfold spec_Among.f
  repeat' first
      | (with_reducible exact ih0 _ _ _)
      | (with_reducible exact LeO.refl _)
      | (with_reducible exact LeO.none _)
      | (with_reducible refine LeO.ite ?_ ?_)
      | (with_reducible refine LeO.bind ?_ (fun _ => ?_))
      | exact ih0 _ _ _
      | exact LeO.none _
      | refine LeO.ite ?_ ?_
      | refine LeO.bind ?_ (fun _ => ?_)
set_option maxHeartbeats 8000000 in
set_option maxRecDepth 100000 in
theorem spec_Among.calls (k : Nat) (A0 : Option Addr) (c0 : Nat) (l0 : List ByteArray) (a1 : ByteArray) (r : Bool) (w : World) (hr0 : Kd.C Kd.string w A0 l0.length l0) (hc0 : l0.length ≤ c0) (h : spec_Among.f k l0 a1 = some r) :
    Calls Tryz.prog 6 #[.slice A0 l0.length c0, .string a1] w fun e w' => e = .returned (.bool r) ∧ Drawn0 w w' := by
  have HR0 := Aside0.mk hr0
  have HC0 := Aside0.mk hc0
  clear hr0 hc0
  have H : (spec_Among.l0 k l0 a1 0) = some r := h
  clear h
  have H' := Aside0.mk H
  clear H
  go_enter Tryz.func6, Tryz.ntmps6
  go_wp2
  go_loopg [5] k (fun kq v5 w' => ∃ (x5_1 : Int), v5 = .int .i64 x5_1 ∧ Aside0 (spec_Among.l0 kq l0 a1 x5_1 = some r) ∧ Aside0 (kq ≤ k) ∧ Drawn0 w w')
  case atStart => exact ⟨(0), (by first | rfl | (simp; done) | (simp [*]; done)), H', ⟨Nat.le_refl _⟩, by repeat (first | exact Drawn0.refl _ | apply Drawn0.step)⟩
  case round =>
    clear H'
    try clear p2
    obtain ⟨x5_1, rfl, HA, HK1, ⟨m1, rfl⟩⟩ := hrel
    cases gk with
    | zero => exact absurd HA.out (by simp [spec_Among.l0])
    | succ k1 =>
      have H := HA.out
      clear HA
      simp only [spec_Among.l0] at H
      by_cases c3 : x5_1 < (l0.length : Int)
      · rw [if_pos c3] at H
        have c3b0 : decide (x5_1 < (l0.length : Int)) = true := decide_eq_true c3
        clear c3
        by_cases c4 : 0 ≤ x5_1
        · rw [if_pos c4] at H
          have c4b0 : decide (0 ≤ x5_1) = true := decide_eq_true c4
          clear c4
          by_cases c5 : (rdOf ByteArray.empty l0 x5_1).toList = a1.toList
          · rw [if_pos c5] at H
            have c5b0 : ((rdOf ByteArray.empty l0 x5_1).toList == a1.toList) = true := beq_iff_eq.mpr c5
            have c5b1 : ((rdOf ByteArray.empty l0 x5_1).toList != a1.toList) = false := bne_eq_false_iff_eq.mpr c5
            clear c5
            obtain rfl := Option.some.inj H
            have p115 : 0 ≤ (x5_1 : Int) := of_decide_eq_true (by first | (with_reducible assumption) | assumption)
            have q115 : x5_1 < (l0.length : Int) := of_decide_eq_true (by first | (with_reducible assumption) | assumption)
            obtain ⟨ad115, e115, hx115_0⟩ := Kd.at_string HR0.out x5_1 p115 q115
            cases e115
            replace p115 := eq_true p115
            replace q115 := eq_true q115
            go_wp2
            go_ret
            exact ⟨by first | rfl | (simp; done) | (simp [*]; done), by repeat (first | exact Drawn0.refl _ | apply Drawn0.step)⟩
          · rw [if_neg c5] at H
            have c5b0 : ((rdOf ByteArray.empty l0 x5_1).toList == a1.toList) = false := beq_eq_false_iff_ne.mpr c5
            have c5b1 : ((rdOf ByteArray.empty l0 x5_1).toList != a1.toList) = true := bne_iff_ne.mpr c5
            have H' := Aside0.mk H
            clear H
            have p115 : 0 ≤ (x5_1 : Int) := of_decide_eq_true (by first | (with_reducible assumption) | assumption)
            have q115 : x5_1 < (l0.length : Int) := of_decide_eq_true (by first | (with_reducible assumption) | assumption)
            obtain ⟨ad115, e115, hx115_0⟩ := Kd.at_string HR0.out x5_1 p115 q115
            cases e115
            replace p115 := eq_true p115
            replace q115 := eq_true q115
            go_wp2
            go_roundg k1
            case measure => have := HK1.out; omega
            case rel => exact ⟨(wrap64 (x5_1 + 1)), (by first | rfl | (simp; done) | (simp [*]; done)), H', ⟨by have := HK1.out; omega⟩, by repeat (first | exact Drawn0.refl _ | apply Drawn0.step)⟩
        · rw [if_neg c4] at H
          exact absurd H (by simp)
      · rw [if_neg c3] at H
        have c3b0 : decide (x5_1 < (l0.length : Int)) = false := decide_eq_false c3
        clear c3
        obtain rfl := Option.some.inj H
        go_wp2
        go_ret
        exact ⟨by first | rfl | (simp; done) | (simp [*]; done), by repeat (first | exact Drawn0.refl _ | apply Drawn0.step)⟩

-- NOT PRINTED: function 7 (spec_Order)

-- NOT PRINTED: function 8 (spec_Asked)


end Go.Proofs.YtoebognfkigooaaGreatDoor.PFnSemverEither
