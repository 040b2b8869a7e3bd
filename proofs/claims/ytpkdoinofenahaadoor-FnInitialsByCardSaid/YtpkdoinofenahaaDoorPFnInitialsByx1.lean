-- Written by gprint.py (a program of this session, over the kit's print) out of Lean's own print of the program.
import Derived.Test.YtpkdoinofenahaaDoorPFnInitialsByx0
namespace Go.Proofs.YtpkdoinofenahaaDoor.PFnInitialsBy
open Go.Proofs.YtpkdoinofenahaaDoor.Giv
open Go.RowKit Go.Proofs.YtpkdoinofenahaaDoorW.PrintWords Go.Proofs.YtpkdoinofenahaaDoorW.PrintLast Go.Proofs.YtpkdoinofenahaaDoorW.PrintMore
attribute [local go_sem] max2_int min2_int max_two min_two max_three min_three max_four min_four   -- for this text's walks alone
set_option linter.unusedVariables false
set_option linter.unusedSimpArgs false

/-! ### spec_ASCII: function 51 -/
def spec_ASCII.l0 : Nat → ByteArray → Int → Option (Bool)
  | 0, _, _ => none
  | k + 1, x0, x3 => if x3 < (x0.size : Int) then (if 0 ≤ x3 then (if (bt x0 x3) ≥ 128 then (some false) else (spec_ASCII.l0 k x0 (wrap64 (x3 + 1)))) else (none)) else (some true)
def spec_ASCII.f (k : Nat) (a0 : ByteArray) : Option (Bool) := spec_ASCII.l0 k a0 0
theorem spec_ASCII.mono_l : ∀ k, (∀ y0 y1, LeO (spec_ASCII.l0 k y0 y1) (spec_ASCII.l0 (k + 1) y0 y1))
  | 0 => fun _ _ r h => by simp [spec_ASCII.l0] at h
  | k + 1 => by
    have ih0 := spec_ASCII.mono_l k
    · intro y0 y1
      unfold spec_ASCII.l0
      repeat' first
      | (with_reducible exact ih0 _ _)
      | (with_reducible exact LeO.refl _)
      | (with_reducible exact LeO.none _)
      | (with_reducible refine LeO.ite ?_ ?_)
      | (with_reducible refine LeO.bind ?_ (fun _ => ?_))
      | exact ih0 _ _
      | exact LeO.none _
      | refine LeO.ite ?_ ?_
      | refine LeO.bind ?_ (fun _ => ?_)
theorem spec_ASCII.mono : ∀ a0 k, LeO (spec_ASCII.f k a0) (spec_ASCII.f (k + 1) a0) := by
  intro a0 k
  have ih0 := spec_ASCII.mono_l k
  unfold spec_ASCII.f
  repeat' first
      | (with_reducible exact ih0 _ _)
      | (with_reducible exact LeO.refl _)
      | (with_reducible exact LeO.none _)
      | (with_reducible refine LeO.ite ?_ ?_)
      | (with_reducible refine LeO.bind ?_ (fun _ => ?_))
      | exact ih0 _ _
      | exact LeO.none _
      | refine LeO.ite ?_ ?_
      | refine LeO.bind ?_ (fun _ => ?_)
set_option maxHeartbeats 8000000 in
set_option maxRecDepth 100000 in
theorem spec_ASCII.calls (k : Nat) (a0 : ByteArray) (r : Bool) (w : World) (h : spec_ASCII.f k a0 = some r) :
    Calls Tryd.prog 51 #[.string a0] w fun e w' => e = .returned (.bool r) ∧ Drawn0 w w' := by
  have H : (spec_ASCII.l0 k a0 0) = some r := h
  clear h
  have H' := Aside0.mk H
  clear H
  go_enter Tryd.func51, Tryd.ntmps51
  go_wp2
  go_loopg [3] k (fun kq v3 w' => ∃ (x3_1 : Int), v3 = .int .i64 x3_1 ∧ Aside0 (spec_ASCII.l0 kq a0 x3_1 = some r) ∧ Aside0 (kq ≤ k) ∧ Drawn0 w w')
  case atStart => exact ⟨(0), (by first | rfl | (simp; done) | (simp [*]; done)), H', ⟨Nat.le_refl _⟩, by repeat (first | exact Drawn0.refl _ | apply Drawn0.step)⟩
  case round =>
    clear H'
    obtain ⟨x3_1, rfl, HA, HK1, ⟨m1, rfl⟩⟩ := hrel
    cases gk with
    | zero => exact absurd HA.out (by simp [spec_ASCII.l0])
    | succ k1 =>
      have H := HA.out
      clear HA
      simp only [spec_ASCII.l0] at H
      by_cases c2 : x3_1 < (a0.size : Int)
      · rw [if_pos c2] at H
        have c2b0 : decide (x3_1 < (a0.size : Int)) = true := decide_eq_true c2
        clear c2
        by_cases c3 : 0 ≤ x3_1
        · rw [if_pos c3] at H
          have c3b0 : decide (0 ≤ x3_1) = true := decide_eq_true c3
          clear c3
          by_cases c5 : (bt a0 x3_1) ≥ 128
          · rw [if_pos c5] at H
            have c5b0 : decide (128 ≤ (bt a0 x3_1)) = true := decide_eq_true c5
            clear c5
            obtain rfl := Option.some.inj H
            have p4 : 0 ≤ (x3_1 : Int) := of_decide_eq_true (by first | (with_reducible assumption) | assumption)
            have q4 : x3_1 < (a0.size : Int) := of_decide_eq_true (by first | (with_reducible assumption) | assumption)
            have hx4 := bt_at a0 x3_1
            replace p4 := eq_true p4
            replace q4 := eq_true q4
            go_wp2
            go_ret
            exact ⟨by first | rfl | (simp; done) | (simp [*]; done), by repeat (first | exact Drawn0.refl _ | apply Drawn0.step)⟩
          · rw [if_neg c5] at H
            have c5b0 : decide (128 ≤ (bt a0 x3_1)) = false := decide_eq_false c5
            clear c5
            have H' := Aside0.mk H
            clear H
            have p4 : 0 ≤ (x3_1 : Int) := of_decide_eq_true (by first | (with_reducible assumption) | assumption)
            have q4 : x3_1 < (a0.size : Int) := of_decide_eq_true (by first | (with_reducible assumption) | assumption)
            have hx4 := bt_at a0 x3_1
            replace p4 := eq_true p4
            replace q4 := eq_true q4
            go_wp2
            go_roundg k1
            case measure => have := HK1.out; omega
            case rel => exact ⟨(wrap64 (x3_1 + 1)), (by first | rfl | (simp; done) | (simp [*]; done)), H', ⟨by have := HK1.out; omega⟩, by repeat (first | exact Drawn0.refl _ | apply Drawn0.step)⟩
        · rw [if_neg c3] at H
          exact absurd H (by simp)
      · rw [if_neg c2] at H
        have c2b0 : decide (x3_1 < (a0.size : Int)) = false := decide_eq_false c2
        clear c2
        obtain rfl := Option.some.inj H
        go_wp2
        go_ret
        exact ⟨by first | rfl | (simp; done) | (simp [*]; done), by repeat (first | exact Drawn0.refl _ | apply Drawn0.step)⟩

/-! ### laws_plain9: function 21 -/
def laws_plain9.l0 : Nat → List ByteArray → Int → Int → Option (Bool)
  | 0, _, _, _ => none
  | k + 1, x0, x5, x6 => if x6 < x5 then (if 0 ≤ x6 then (if x6 < (x0.length : Int) then (if ((rdOf ByteArray.empty x0 x6).size : Int) > 500 then (some false) else ((spec_ASCII.f k (rdOf ByteArray.empty x0 x6)).bind fun t103 => (if t103 = true then (laws_plain9.l0 k x0 x5 (wrap64 (x6 + 1))) else (some false)))) else (none)) else (none)) else (some true)
def laws_plain9.f (k : Nat) (l0 : List ByteArray) : Option (Bool) := laws_plain9.l0 k l0 (l0.length : Int) 0
theorem laws_plain9.mono_l : ∀ k, (∀ y0 y1 y2, LeO (laws_plain9.l0 k y0 y1 y2) (laws_plain9.l0 (k + 1) y0 y1 y2))
  | 0 => fun _ _ _ r h => by simp [laws_plain9.l0] at h
  | k + 1 => by
    have ih0 := laws_plain9.mono_l k
    · intro y0 y1 y2
      unfold laws_plain9.l0
      repeat' first
      | (with_reducible exact ih0 _ _ _)
      | (with_reducible exact spec_ASCII.mono _ _)
      | (with_reducible exact LeO.refl _)
      | (with_reducible exact LeO.none _)
      | (with_reducible refine LeO.ite ?_ ?_)
      | (with_reducible refine LeO.bind ?_ (fun _ => ?_))
      | exact ih0 _ _ _
      | exact spec_ASCII.mono _ _
      | exact LeO.none _
      | refine LeO.ite ?_ ?_
      | refine LeO.bind ?_ (fun _ => ?_)
theorem laws_plain9.mono : ∀ a0 k, LeO (laws_plain9.f k a0) (laws_plain9.f (k + 1) a0) := by
  intro a0 k
  have ih0 := laws_plain9.mono_l k
  unfold laws_plain9.f
  repeat' first
      | (with_reducible exact ih0 _ _ _)
      | (with_reducible exact spec_ASCII.mono _ _)
      | (with_reducible exact LeO.refl _)
      | (with_reducible exact LeO.none _)
      | (with_reducible refine LeO.ite ?_ ?_)
      | (with_reducible refine LeO.bind ?_ (fun _ => ?_))
      | exact ih0 _ _ _
      | exact spec_ASCII.mono _ _
      | exact LeO.none _
      | refine LeO.ite ?_ ?_
      | refine LeO.bind ?_ (fun _ => ?_)
set_option maxHeartbeats 8000000 in
set_option maxRecDepth 100000 in
theorem laws_plain9.calls (k : Nat) (A0 : Option Addr) (c0 : Nat) (l0 : List ByteArray) (r : Bool) (w : World) (hr0 : Kd.C Kd.string w A0 l0.length l0) (hc0 : l0.length ≤ c0) (h : laws_plain9.f k l0 = some r) :
    Calls Tryd.prog 21 #[.slice A0 l0.length c0] w fun e w' => e = .returned (.bool r) ∧ Drawn0 w w' := by
  have HR0 := Aside0.mk hr0
  have HC0 := Aside0.mk hc0
  clear hr0 hc0
  have H : (laws_plain9.l0 k l0 (l0.length : Int) 0) = some r := h
  clear h
  have H' := Aside0.mk H
  clear H
  go_enter Tryd.func21, Tryd.ntmps21
  go_wp2
  go_loopg [6] k (fun kq v6 w' => ∃ (x6_1 : Int), v6 = .int .i64 x6_1 ∧ Aside0 (laws_plain9.l0 kq l0 (l0.length : Int) x6_1 = some r) ∧ Aside0 (kq ≤ k) ∧ Drawn0 w w')
  case atStart => exact ⟨(0), (by first | rfl | (simp; done) | (simp [*]; done)), H', ⟨Nat.le_refl _⟩, by repeat (first | exact Drawn0.refl _ | apply Drawn0.step)⟩
  case round =>
    clear H'
    obtain ⟨x6_1, rfl, HA, HK1, ⟨m1, rfl⟩⟩ := hrel
    cases gk with
    | zero => exact absurd HA.out (by simp [laws_plain9.l0])
    | succ k1 =>
      have H := HA.out
      clear HA
      simp only [laws_plain9.l0] at H
      by_cases c2 : x6_1 < (l0.length : Int)
      · rw [if_pos c2] at H
        have c2b0 : decide (x6_1 < (l0.length : Int)) = true := decide_eq_true c2
        clear c2
        by_cases c3 : 0 ≤ x6_1
        · rw [if_pos c3] at H
          have c3b0 : decide (0 ≤ x6_1) = true := decide_eq_true c3
          clear c3
          by_cases c4 : x6_1 < (l0.length : Int)
          · rw [if_pos c4] at H
            have c4b0 : decide (x6_1 < (l0.length : Int)) = true := decide_eq_true c4
            clear c4
            by_cases c5 : ((rdOf ByteArray.empty l0 x6_1).size : Int) > 500
            · rw [if_pos c5] at H
              have c5b0 : decide (500 < ((rdOf ByteArray.empty l0 x6_1).size : Int)) = true := decide_eq_true c5
              have c5b1 : decide (500 < (rdOf ByteArray.empty l0 x6_1).size) = true := decide_eq_true (by omega)
              clear c5
              obtain rfl := Option.some.inj H
              have p101 : 0 ≤ (x6_1 : Int) := of_decide_eq_true (by first | (with_reducible assumption) | assumption)
              have q101 : x6_1 < (l0.length : Int) := of_decide_eq_true (by first | (with_reducible assumption) | assumption)
              obtain ⟨ad101, e101, hx101_0⟩ := Kd.at_string HR0.out x6_1 p101 q101
              cases e101
              replace p101 := eq_true p101
              replace q101 := eq_true q101
              go_wp2
              go_ret
              exact ⟨by first | rfl | (simp; done) | (simp [*]; done), by repeat (first | exact Drawn0.refl _ | apply Drawn0.step)⟩
            · rw [if_neg c5] at H
              have c5b0 : decide (500 < ((rdOf ByteArray.empty l0 x6_1).size : Int)) = false := decide_eq_false c5
              have c5b1 : decide (500 < (rdOf ByteArray.empty l0 x6_1).size) = false := decide_eq_false (by omega)
              clear c5
              replace H := Option.bind_eq_some_iff.mp H
              obtain ⟨t103, A60, H⟩ := H
              replace H : (if t103 = true then (laws_plain9.l0 k1 l0 (l0.length : Int) (wrap64 (x6_1 + 1))) else (some false)) = some r := H
              have A6 := Aside0.mk A60
              clear A60
              by_cases c7 : t103 = true
              · subst c7
                have H1 : (laws_plain9.l0 k1 l0 (l0.length : Int) (wrap64 (x6_1 + 1))) = some r := by rw [if_pos rfl] at H; exact H
                clear H
                have H := H1
                clear H1
                have H' := Aside0.mk H
                clear H
                have p101 : 0 ≤ (x6_1 : Int) := of_decide_eq_true (by first | (with_reducible assumption) | assumption)
                have q101 : x6_1 < (l0.length : Int) := of_decide_eq_true (by first | (with_reducible assumption) | assumption)
                obtain ⟨ad101, e101, hx101_0⟩ := Kd.at_string HR0.out x6_1 p101 q101
                cases e101
                replace p101 := eq_true p101
                replace q101 := eq_true q101
                have p102 : 0 ≤ (x6_1 : Int) := of_decide_eq_true (by first | (with_reducible assumption) | assumption)
                have q102 : x6_1 < (l0.length : Int) := of_decide_eq_true (by first | (with_reducible assumption) | assumption)
                obtain ⟨ad102, e102, hx102_0⟩ := Kd.at_string HR0.out x6_1 p102 q102
                obtain rfl : ad101 = ad102 := (by injection e102)
                replace p102 := eq_true p102
                replace q102 := eq_true q102
                go_wp2_with (first | (go_at_call 51; (with_reducible refine (spec_ASCII.calls k1 (rdOf ByteArray.empty l0 x6_1) true _ A6.out).mono ?_); rintro e w' ⟨rfl, ⟨nd, rfl⟩⟩))
                go_roundg k1
                case measure => have := HK1.out; omega
                case rel => exact ⟨(wrap64 (x6_1 + 1)), (by first | rfl | (simp; done) | (simp [*]; done)), H', ⟨by have := HK1.out; omega⟩, by repeat (first | exact Drawn0.refl _ | apply Drawn0.step)⟩
              · replace c7 := Bool.eq_false_iff.mpr c7
                subst c7
                have H1 : (some false) = some r := by rw [if_neg (show ¬ (false = true) by decide)] at H; exact H
                clear H
                have H := H1
                clear H1
                obtain rfl := Option.some.inj H
                have p101 : 0 ≤ (x6_1 : Int) := of_decide_eq_true (by first | (with_reducible assumption) | assumption)
                have q101 : x6_1 < (l0.length : Int) := of_decide_eq_true (by first | (with_reducible assumption) | assumption)
                obtain ⟨ad101, e101, hx101_0⟩ := Kd.at_string HR0.out x6_1 p101 q101
                cases e101
                replace p101 := eq_true p101
                replace q101 := eq_true q101
                have p102 : 0 ≤ (x6_1 : Int) := of_decide_eq_true (by first | (with_reducible assumption) | assumption)
                have q102 : x6_1 < (l0.length : Int) := of_decide_eq_true (by first | (with_reducible assumption) | assumption)
                obtain ⟨ad102, e102, hx102_0⟩ := Kd.at_string HR0.out x6_1 p102 q102
                obtain rfl : ad101 = ad102 := (by injection e102)
                replace p102 := eq_true p102
                replace q102 := eq_true q102
                go_wp2_with (first | (go_at_call 51; (with_reducible refine (spec_ASCII.calls k1 (rdOf ByteArray.empty l0 x6_1) false _ A6.out).mono ?_); rintro e w' ⟨rfl, ⟨nd, rfl⟩⟩))
                go_ret
                exact ⟨by first | rfl | (simp; done) | (simp [*]; done), by repeat (first | exact Drawn0.refl _ | apply Drawn0.step)⟩
          · rw [if_neg c4] at H
            exact absurd H (by simp)
        · rw [if_neg c3] at H
          exact absurd H (by simp)
      · rw [if_neg c2] at H
        have c2b0 : decide (x6_1 < (l0.length : Int)) = false := decide_eq_false c2
        clear c2
        obtain rfl := Option.some.inj H
        go_wp2
        go_ret
        exact ⟨by first | rfl | (simp; done) | (simp [*]; done), by repeat (first | exact Drawn0.refl _ | apply Drawn0.step)⟩

-- NOT PRINTED: function 81 (bytes_Buffer_String)

-- NOT PRINTED: function 117 (unicode_is16)

-- NOT PRINTED: function 118 (unicode_is32)

-- NOT PRINTED: function 104 (unicode_isExcludingLatin)

-- NOT PRINTED: function 102 (unicode_IsSpace)

-- NOT PRINTED: function 83 (goutils_isDelimiter)

/-! ### spec_IsSpace: function 85 -/
def spec_IsSpace.f (a0 : Int) : Option (Bool) := if a0 ≥ 9 then (if a0 ≤ 13 then (some true) else (if a0 = 32 then (some true) else (if a0 = 133 then (some true) else (if a0 = 160 then (some true) else (if a0 = 5760 then (some true) else (if a0 ≥ 8192 then (if a0 ≤ 8202 then (some true) else (if a0 = 8232 then (some true) else (if a0 = 8233 then (some true) else (if a0 = 8239 then (some true) else (if a0 = 8287 then (some true) else (some (a0 == 12288))))))) else (if a0 = 8232 then (some true) else (if a0 = 8233 then (some true) else (if a0 = 8239 then (some true) else (if a0 = 8287 then (some true) else (some (a0 == 12288)))))))))))) else (if a0 = 32 then (some true) else (if a0 = 133 then (some true) else (if a0 = 160 then (some true) else (if a0 = 5760 then (some true) else (if a0 ≥ 8192 then (if a0 ≤ 8202 then (some true) else (if a0 = 8232 then (some true) else (if a0 = 8233 then (some true) else (if a0 = 8239 then (some true) else (if a0 = 8287 then (some true) else (some (a0 == 12288))))))) else (if a0 = 8232 then (some true) else (if a0 = 8233 then (some true) else (if a0 = 8239 then (some true) else (if a0 = 8287 then (some true) else (some (a0 == 12288)))))))))))
set_option maxHeartbeats 8000000 in
set_option maxRecDepth 100000 in
theorem spec_IsSpace.calls (a0 : Int) (r : Bool) (w : World) (h : spec_IsSpace.f a0 = some r) :
    Calls Tryd.prog 85 #[.int .i32 a0] w fun e w' => e = .returned (.bool r) ∧ Drawn0 w w' := by
  have H : (if a0 ≥ 9 then (if a0 ≤ 13 then (some true) else (if a0 = 32 then (some true) else (if a0 = 133 then (some true) else (if a0 = 160 then (some true) else (if a0 = 5760 then (some true) else (if a0 ≥ 8192 then (if a0 ≤ 8202 then (some true) else (if a0 = 8232 then (some true) else (if a0 = 8233 then (some true) else (if a0 = 8239 then (some true) else (if a0 = 8287 then (some true) else (some (a0 == 12288))))))) else (if a0 = 8232 then (some true) else (if a0 = 8233 then (some true) else (if a0 = 8239 then (some true) else (if a0 = 8287 then (some true) else (some (a0 == 12288)))))))))))) else (if a0 = 32 then (some true) else (if a0 = 133 then (some true) else (if a0 = 160 then (some true) else (if a0 = 5760 then (some true) else (if a0 ≥ 8192 then (if a0 ≤ 8202 then (some true) else (if a0 = 8232 then (some true) else (if a0 = 8233 then (some true) else (if a0 = 8239 then (some true) else (if a0 = 8287 then (some true) else (some (a0 == 12288))))))) else (if a0 = 8232 then (some true) else (if a0 = 8233 then (some true) else (if a0 = 8239 then (some true) else (if a0 = 8287 then (some true) else (some (a0 == 12288)))))))))))) = some r := h
  clear h
  by_cases c2 : a0 ≥ 9
  · rw [if_pos c2] at H
    have c2b0 : decide (9 ≤ a0) = true := decide_eq_true c2
    clear c2
    by_cases c3 : a0 ≤ 13
    · rw [if_pos c3] at H
      have c3b0 : decide (a0 ≤ 13) = true := decide_eq_true c3
      clear c3
      obtain rfl := Option.some.inj H
      go_enter Tryd.func85, Tryd.ntmps85
      go_wp2
      go_ret
      exact ⟨by first | rfl | (simp; done) | (simp [*]; done), by repeat (first | exact Drawn0.refl _ | apply Drawn0.step)⟩
    · rw [if_neg c3] at H
      have c3b0 : decide (a0 ≤ 13) = false := decide_eq_false c3
      clear c3
      by_cases c4 : a0 = 32
      · rw [if_pos c4] at H
        have c4b0 : (a0 == 32) = true := beq_iff_eq.mpr c4
        have c4b1 : (a0 != 32) = false := bne_eq_false_iff_eq.mpr c4
        clear c4
        obtain rfl := Option.some.inj H
        go_enter Tryd.func85, Tryd.ntmps85
        go_wp2
        go_ret
        exact ⟨by first | rfl | (simp; done) | (simp [*]; done), by repeat (first | exact Drawn0.refl _ | apply Drawn0.step)⟩
      · rw [if_neg c4] at H
        have c4b0 : (a0 == 32) = false := beq_eq_false_iff_ne.mpr c4
        have c4b1 : (a0 != 32) = true := bne_iff_ne.mpr c4
        by_cases c5 : a0 = 133
        · rw [if_pos c5] at H
          have c5b0 : (a0 == 133) = true := beq_iff_eq.mpr c5
          have c5b1 : (a0 != 133) = false := bne_eq_false_iff_eq.mpr c5
          clear c5
          obtain rfl := Option.some.inj H
          go_enter Tryd.func85, Tryd.ntmps85
          go_wp2
          go_ret
          exact ⟨by first | rfl | (simp; done) | (simp [*]; done), by repeat (first | exact Drawn0.refl _ | apply Drawn0.step)⟩
        · rw [if_neg c5] at H
          have c5b0 : (a0 == 133) = false := beq_eq_false_iff_ne.mpr c5
          have c5b1 : (a0 != 133) = true := bne_iff_ne.mpr c5
          by_cases c6 : a0 = 160
          · rw [if_pos c6] at H
            have c6b0 : (a0 == 160) = true := beq_iff_eq.mpr c6
            have c6b1 : (a0 != 160) = false := bne_eq_false_iff_eq.mpr c6
            clear c6
            obtain rfl := Option.some.inj H
            go_enter Tryd.func85, Tryd.ntmps85
            go_wp2
            go_ret
            exact ⟨by first | rfl | (simp; done) | (simp [*]; done), by repeat (first | exact Drawn0.refl _ | apply Drawn0.step)⟩
          · rw [if_neg c6] at H
            have c6b0 : (a0 == 160) = false := beq_eq_false_iff_ne.mpr c6
            have c6b1 : (a0 != 160) = true := bne_iff_ne.mpr c6
            by_cases c7 : a0 = 5760
            · rw [if_pos c7] at H
              have c7b0 : (a0 == 5760) = true := beq_iff_eq.mpr c7
              have c7b1 : (a0 != 5760) = false := bne_eq_false_iff_eq.mpr c7
              clear c7
              obtain rfl := Option.some.inj H
              go_enter Tryd.func85, Tryd.ntmps85
              go_wp2
              go_ret
              exact ⟨by first | rfl | (simp; done) | (simp [*]; done), by repeat (first | exact Drawn0.refl _ | apply Drawn0.step)⟩
            · rw [if_neg c7] at H
              have c7b0 : (a0 == 5760) = false := beq_eq_false_iff_ne.mpr c7
              have c7b1 : (a0 != 5760) = true := bne_iff_ne.mpr c7
              by_cases c8 : a0 ≥ 8192
              · rw [if_pos c8] at H
                have c8b0 : decide (8192 ≤ a0) = true := decide_eq_true c8
                clear c8
                by_cases c9 : a0 ≤ 8202
                · rw [if_pos c9] at H
                  have c9b0 : decide (a0 ≤ 8202) = true := decide_eq_true c9
                  clear c9
                  obtain rfl := Option.some.inj H
                  go_enter Tryd.func85, Tryd.ntmps85
                  go_wp2
                  go_ret
                  exact ⟨by first | rfl | (simp; done) | (simp [*]; done), by repeat (first | exact Drawn0.refl _ | apply Drawn0.step)⟩
                · rw [if_neg c9] at H
                  have c9b0 : decide (a0 ≤ 8202) = false := decide_eq_false c9
                  clear c9
                  by_cases c10 : a0 = 8232
                  · rw [if_pos c10] at H
                    have c10b0 : (a0 == 8232) = true := beq_iff_eq.mpr c10
                    have c10b1 : (a0 != 8232) = false := bne_eq_false_iff_eq.mpr c10
                    clear c10
                    obtain rfl := Option.some.inj H
                    go_enter Tryd.func85, Tryd.ntmps85
                    go_wp2
                    go_ret
                    exact ⟨by first | rfl | (simp; done) | (simp [*]; done), by repeat (first | exact Drawn0.refl _ | apply Drawn0.step)⟩
                  · rw [if_neg c10] at H
                    have c10b0 : (a0 == 8232) = false := beq_eq_false_iff_ne.mpr c10
                    have c10b1 : (a0 != 8232) = true := bne_iff_ne.mpr c10
                    by_cases c11 : a0 = 8233
                    · rw [if_pos c11] at H
                      have c11b0 : (a0 == 8233) = true := beq_iff_eq.mpr c11
                      have c11b1 : (a0 != 8233) = false := bne_eq_false_iff_eq.mpr c11
                      clear c11
                      obtain rfl := Option.some.inj H
                      go_enter Tryd.func85, Tryd.ntmps85
                      go_wp2
                      go_ret
                      exact ⟨by first | rfl | (simp; done) | (simp [*]; done), by repeat (first | exact Drawn0.refl _ | apply Drawn0.step)⟩
                    · rw [if_neg c11] at H
                      have c11b0 : (a0 == 8233) = false := beq_eq_false_iff_ne.mpr c11
                      have c11b1 : (a0 != 8233) = true := bne_iff_ne.mpr c11
                      by_cases c12 : a0 = 8239
                      · rw [if_pos c12] at H
                        have c12b0 : (a0 == 8239) = true := beq_iff_eq.mpr c12
                        have c12b1 : (a0 != 8239) = false := bne_eq_false_iff_eq.mpr c12
                        clear c12
                        obtain rfl := Option.some.inj H
                        go_enter Tryd.func85, Tryd.ntmps85
                        go_wp2
                        go_ret
                        exact ⟨by first | rfl | (simp; done) | (simp [*]; done), by repeat (first | exact Drawn0.refl _ | apply Drawn0.step)⟩
                      · rw [if_neg c12] at H
                        have c12b0 : (a0 == 8239) = false := beq_eq_false_iff_ne.mpr c12
                        have c12b1 : (a0 != 8239) = true := bne_iff_ne.mpr c12
                        by_cases c13 : a0 = 8287
                        · rw [if_pos c13] at H
                          have c13b0 : (a0 == 8287) = true := beq_iff_eq.mpr c13
                          have c13b1 : (a0 != 8287) = false := bne_eq_false_iff_eq.mpr c13
                          clear c13
                          obtain rfl := Option.some.inj H
                          go_enter Tryd.func85, Tryd.ntmps85
                          go_wp2
                          go_ret
                          exact ⟨by first | rfl | (simp; done) | (simp [*]; done), by repeat (first | exact Drawn0.refl _ | apply Drawn0.step)⟩
                        · rw [if_neg c13] at H
                          have c13b0 : (a0 == 8287) = false := beq_eq_false_iff_ne.mpr c13
                          have c13b1 : (a0 != 8287) = true := bne_iff_ne.mpr c13
                          obtain rfl := Option.some.inj H
                          go_enter Tryd.func85, Tryd.ntmps85
                          go_wp2
                          go_ret
                          exact ⟨by first | rfl | (simp; done) | (simp [*]; done), by repeat (first | exact Drawn0.refl _ | apply Drawn0.step)⟩
              · rw [if_neg c8] at H
                have c8b0 : decide (8192 ≤ a0) = false := decide_eq_false c8
                clear c8
                by_cases c14 : a0 = 8232
                · rw [if_pos c14] at H
                  have c14b0 : (a0 == 8232) = true := beq_iff_eq.mpr c14
                  have c14b1 : (a0 != 8232) = false := bne_eq_false_iff_eq.mpr c14
                  clear c14
                  obtain rfl := Option.some.inj H
                  go_enter Tryd.func85, Tryd.ntmps85
                  go_wp2
                  go_ret
                  exact ⟨by first | rfl | (simp; done) | (simp [*]; done), by repeat (first | exact Drawn0.refl _ | apply Drawn0.step)⟩
                · rw [if_neg c14] at H
                  have c14b0 : (a0 == 8232) = false := beq_eq_false_iff_ne.mpr c14
                  have c14b1 : (a0 != 8232) = true := bne_iff_ne.mpr c14
                  by_cases c15 : a0 = 8233
                  · rw [if_pos c15] at H
                    have c15b0 : (a0 == 8233) = true := beq_iff_eq.mpr c15
                    have c15b1 : (a0 != 8233) = false := bne_eq_false_iff_eq.mpr c15
                    clear c15
                    obtain rfl := Option.some.inj H
                    go_enter Tryd.func85, Tryd.ntmps85
                    go_wp2
                    go_ret
                    exact ⟨by first | rfl | (simp; done) | (simp [*]; done), by repeat (first | exact Drawn0.refl _ | apply Drawn0.step)⟩
                  · rw [if_neg c15] at H
                    have c15b0 : (a0 == 8233) = false := beq_eq_false_iff_ne.mpr c15
                    have c15b1 : (a0 != 8233) = true := bne_iff_ne.mpr c15
                    by_cases c16 : a0 = 8239
                    · rw [if_pos c16] at H
                      have c16b0 : (a0 == 8239) = true := beq_iff_eq.mpr c16
                      have c16b1 : (a0 != 8239) = false := bne_eq_false_iff_eq.mpr c16
                      clear c16
                      obtain rfl := Option.some.inj H
                      go_enter Tryd.func85, Tryd.ntmps85
                      go_wp2
                      go_ret
                      exact ⟨by first | rfl | (simp; done) | (simp [*]; done), by repeat (first | exact Drawn0.refl _ | apply Drawn0.step)⟩
                    · rw [if_neg c16] at H
                      have c16b0 : (a0 == 8239) = false := beq_eq_false_iff_ne.mpr c16
                      have c16b1 : (a0 != 8239) = true := bne_iff_ne.mpr c16
                      by_cases c17 : a0 = 8287
                      · rw [if_pos c17] at H
                        have c17b0 : (a0 == 8287) = true := beq_iff_eq.mpr c17
                        have c17b1 : (a0 != 8287) = false := bne_eq_false_iff_eq.mpr c17
                        clear c17
                        obtain rfl := Option.some.inj H
                        go_enter Tryd.func85, Tryd.ntmps85
                        go_wp2
                        go_ret
                        exact ⟨by first | rfl | (simp; done) | (simp [*]; done), by repeat (first | exact Drawn0.refl _ | apply Drawn0.step)⟩
                      · rw [if_neg c17] at H
                        have c17b0 : (a0 == 8287) = false := beq_eq_false_iff_ne.mpr c17
                        have c17b1 : (a0 != 8287) = true := bne_iff_ne.mpr c17
                        obtain rfl := Option.some.inj H
                        go_enter Tryd.func85, Tryd.ntmps85
                        go_wp2
                        go_ret
                        exact ⟨by first | rfl | (simp; done) | (simp [*]; done), by repeat (first | exact Drawn0.refl _ | apply Drawn0.step)⟩
  · rw [if_neg c2] at H
    have c2b0 : decide (9 ≤ a0) = false := decide_eq_false c2
    clear c2
    by_cases c18 : a0 = 32
    · rw [if_pos c18] at H
      have c18b0 : (a0 == 32) = true := beq_iff_eq.mpr c18
      have c18b1 : (a0 != 32) = false := bne_eq_false_iff_eq.mpr c18
      clear c18
      obtain rfl := Option.some.inj H
      go_enter Tryd.func85, Tryd.ntmps85
      go_wp2
      go_ret
      exact ⟨by first | rfl | (simp; done) | (simp [*]; done), by repeat (first | exact Drawn0.refl _ | apply Drawn0.step)⟩
    · rw [if_neg c18] at H
      have c18b0 : (a0 == 32) = false := beq_eq_false_iff_ne.mpr c18
      have c18b1 : (a0 != 32) = true := bne_iff_ne.mpr c18
      by_cases c19 : a0 = 133
      · rw [if_pos c19] at H
        have c19b0 : (a0 == 133) = true := beq_iff_eq.mpr c19
        have c19b1 : (a0 != 133) = false := bne_eq_false_iff_eq.mpr c19
        clear c19
        obtain rfl := Option.some.inj H
        go_enter Tryd.func85, Tryd.ntmps85
        go_wp2
        go_ret
        exact ⟨by first | rfl | (simp; done) | (simp [*]; done), by repeat (first | exact Drawn0.refl _ | apply Drawn0.step)⟩
      · rw [if_neg c19] at H
        have c19b0 : (a0 == 133) = false := beq_eq_false_iff_ne.mpr c19
        have c19b1 : (a0 != 133) = true := bne_iff_ne.mpr c19
        by_cases c20 : a0 = 160
        · rw [if_pos c20] at H
          have c20b0 : (a0 == 160) = true := beq_iff_eq.mpr c20
          have c20b1 : (a0 != 160) = false := bne_eq_false_iff_eq.mpr c20
          clear c20
          obtain rfl := Option.some.inj H
          go_enter Tryd.func85, Tryd.ntmps85
          go_wp2
          go_ret
          exact ⟨by first | rfl | (simp; done) | (simp [*]; done), by repeat (first | exact Drawn0.refl _ | apply Drawn0.step)⟩
        · rw [if_neg c20] at H
          have c20b0 : (a0 == 160) = false := beq_eq_false_iff_ne.mpr c20
          have c20b1 : (a0 != 160) = true := bne_iff_ne.mpr c20
          by_cases c21 : a0 = 5760
          · rw [if_pos c21] at H
            have c21b0 : (a0 == 5760) = true := beq_iff_eq.mpr c21
            have c21b1 : (a0 != 5760) = false := bne_eq_false_iff_eq.mpr c21
            clear c21
            obtain rfl := Option.some.inj H
            go_enter Tryd.func85, Tryd.ntmps85
            go_wp2
            go_ret
            exact ⟨by first | rfl | (simp; done) | (simp [*]; done), by repeat (first | exact Drawn0.refl _ | apply Drawn0.step)⟩
          · rw [if_neg c21] at H
            have c21b0 : (a0 == 5760) = false := beq_eq_false_iff_ne.mpr c21
            have c21b1 : (a0 != 5760) = true := bne_iff_ne.mpr c21
            by_cases c22 : a0 ≥ 8192
            · rw [if_pos c22] at H
              have c22b0 : decide (8192 ≤ a0) = true := decide_eq_true c22
              clear c22
              by_cases c23 : a0 ≤ 8202
              · rw [if_pos c23] at H
                have c23b0 : decide (a0 ≤ 8202) = true := decide_eq_true c23
                clear c23
                obtain rfl := Option.some.inj H
                go_enter Tryd.func85, Tryd.ntmps85
                go_wp2
                go_ret
                exact ⟨by first | rfl | (simp; done) | (simp [*]; done), by repeat (first | exact Drawn0.refl _ | apply Drawn0.step)⟩
              · rw [if_neg c23] at H
                have c23b0 : decide (a0 ≤ 8202) = false := decide_eq_false c23
                clear c23
                by_cases c24 : a0 = 8232
                · rw [if_pos c24] at H
                  have c24b0 : (a0 == 8232) = true := beq_iff_eq.mpr c24
                  have c24b1 : (a0 != 8232) = false := bne_eq_false_iff_eq.mpr c24
                  clear c24
                  obtain rfl := Option.some.inj H
                  go_enter Tryd.func85, Tryd.ntmps85
                  go_wp2
                  go_ret
                  exact ⟨by first | rfl | (simp; done) | (simp [*]; done), by repeat (first | exact Drawn0.refl _ | apply Drawn0.step)⟩
                · rw [if_neg c24] at H
                  have c24b0 : (a0 == 8232) = false := beq_eq_false_iff_ne.mpr c24
                  have c24b1 : (a0 != 8232) = true := bne_iff_ne.mpr c24
                  by_cases c25 : a0 = 8233
                  · rw [if_pos c25] at H
                    have c25b0 : (a0 == 8233) = true := beq_iff_eq.mpr c25
                    have c25b1 : (a0 != 8233) = false := bne_eq_false_iff_eq.mpr c25
                    clear c25
                    obtain rfl := Option.some.inj H
                    go_enter Tryd.func85, Tryd.ntmps85
                    go_wp2
                    go_ret
                    exact ⟨by first | rfl | (simp; done) | (simp [*]; done), by repeat (first | exact Drawn0.refl _ | apply Drawn0.step)⟩
                  · rw [if_neg c25] at H
                    have c25b0 : (a0 == 8233) = false := beq_eq_false_iff_ne.mpr c25
                    have c25b1 : (a0 != 8233) = true := bne_iff_ne.mpr c25
                    by_cases c26 : a0 = 8239
                    · rw [if_pos c26] at H
                      have c26b0 : (a0 == 8239) = true := beq_iff_eq.mpr c26
                      have c26b1 : (a0 != 8239) = false := bne_eq_false_iff_eq.mpr c26
                      clear c26
                      obtain rfl := Option.some.inj H
                      go_enter Tryd.func85, Tryd.ntmps85
                      go_wp2
                      go_ret
                      exact ⟨by first | rfl | (simp; done) | (simp [*]; done), by repeat (first | exact Drawn0.refl _ | apply Drawn0.step)⟩
                    · rw [if_neg c26] at H
                      have c26b0 : (a0 == 8239) = false := beq_eq_false_iff_ne.mpr c26
                      have c26b1 : (a0 != 8239) = true := bne_iff_ne.mpr c26
                      by_cases c27 : a0 = 8287
                      · rw [if_pos c27] at H
                        have c27b0 : (a0 == 8287) = true := beq_iff_eq.mpr c27
                        have c27b1 : (a0 != 8287) = false := bne_eq_false_iff_eq.mpr c27
                        clear c27
                        obtain rfl := Option.some.inj H
                        go_enter Tryd.func85, Tryd.ntmps85
                        go_wp2
                        go_ret
                        exact ⟨by first | rfl | (simp; done) | (simp [*]; done), by repeat (first | exact Drawn0.refl _ | apply Drawn0.step)⟩
                      · rw [if_neg c27] at H
                        have c27b0 : (a0 == 8287) = false := beq_eq_false_iff_ne.mpr c27
                        have c27b1 : (a0 != 8287) = true := bne_iff_ne.mpr c27
                        obtain rfl := Option.some.inj H
                        go_enter Tryd.func85, Tryd.ntmps85
                        go_wp2
                        go_ret
                        exact ⟨by first | rfl | (simp; done) | (simp [*]; done), by repeat (first | exact Drawn0.refl _ | apply Drawn0.step)⟩
            · rw [if_neg c22] at H
              have c22b0 : decide (8192 ≤ a0) = false := decide_eq_false c22
              clear c22
              by_cases c28 : a0 = 8232
              · rw [if_pos c28] at H
                have c28b0 : (a0 == 8232) = true := beq_iff_eq.mpr c28
                have c28b1 : (a0 != 8232) = false := bne_eq_false_iff_eq.mpr c28
                clear c28
                obtain rfl := Option.some.inj H
                go_enter Tryd.func85, Tryd.ntmps85
                go_wp2
                go_ret
                exact ⟨by first | rfl | (simp; done) | (simp [*]; done), by repeat (first | exact Drawn0.refl _ | apply Drawn0.step)⟩
              · rw [if_neg c28] at H
                have c28b0 : (a0 == 8232) = false := beq_eq_false_iff_ne.mpr c28
                have c28b1 : (a0 != 8232) = true := bne_iff_ne.mpr c28
                by_cases c29 : a0 = 8233
                · rw [if_pos c29] at H
                  have c29b0 : (a0 == 8233) = true := beq_iff_eq.mpr c29
                  have c29b1 : (a0 != 8233) = false := bne_eq_false_iff_eq.mpr c29
                  clear c29
                  obtain rfl := Option.some.inj H
                  go_enter Tryd.func85, Tryd.ntmps85
                  go_wp2
                  go_ret
                  exact ⟨by first | rfl | (simp; done) | (simp [*]; done), by repeat (first | exact Drawn0.refl _ | apply Drawn0.step)⟩
                · rw [if_neg c29] at H
                  have c29b0 : (a0 == 8233) = false := beq_eq_false_iff_ne.mpr c29
                  have c29b1 : (a0 != 8233) = true := bne_iff_ne.mpr c29
                  by_cases c30 : a0 = 8239
                  · rw [if_pos c30] at H
                    have c30b0 : (a0 == 8239) = true := beq_iff_eq.mpr c30
                    have c30b1 : (a0 != 8239) = false := bne_eq_false_iff_eq.mpr c30
                    clear c30
                    obtain rfl := Option.some.inj H
                    go_enter Tryd.func85, Tryd.ntmps85
                    go_wp2
                    go_ret
                    exact ⟨by first | rfl | (simp; done) | (simp [*]; done), by repeat (first | exact Drawn0.refl _ | apply Drawn0.step)⟩
                  · rw [if_neg c30] at H
                    have c30b0 : (a0 == 8239) = false := beq_eq_false_iff_ne.mpr c30
                    have c30b1 : (a0 != 8239) = true := bne_iff_ne.mpr c30
                    by_cases c31 : a0 = 8287
                    · rw [if_pos c31] at H
                      have c31b0 : (a0 == 8287) = true := beq_iff_eq.mpr c31
                      have c31b1 : (a0 != 8287) = false := bne_eq_false_iff_eq.mpr c31
                      clear c31
                      obtain rfl := Option.some.inj H
                      go_enter Tryd.func85, Tryd.ntmps85
                      go_wp2
                      go_ret
                      exact ⟨by first | rfl | (simp; done) | (simp [*]; done), by repeat (first | exact Drawn0.refl _ | apply Drawn0.step)⟩
                    · rw [if_neg c31] at H
                      have c31b0 : (a0 == 8287) = false := beq_eq_false_iff_ne.mpr c31
                      have c31b1 : (a0 != 8287) = true := bne_iff_ne.mpr c31
                      obtain rfl := Option.some.inj H
                      go_enter Tryd.func85, Tryd.ntmps85
                      go_wp2
                      go_ret
                      exact ⟨by first | rfl | (simp; done) | (simp [*]; done), by repeat (first | exact Drawn0.refl _ | apply Drawn0.step)⟩

-- GIVEN: function 86 (spec_isIn): a contract of ours

/-! ### spec_between: function 60 -/
def spec_between.f (a0 : Int) (a1 : ByteArray) : Option (Bool) := if a1.toList = ([] : List UInt8) then ((spec_IsSpace.f (wrap32 (a0))).bind fun t146 => (some t146)) else ((spec_isIn.f (wrap32 (a0)) a1).bind fun t147 => (some t147))
set_option maxHeartbeats 8000000 in
set_option maxRecDepth 100000 in
theorem spec_between.calls (a0 : Int) (a1 : ByteArray) (r : Bool) (w : World) (h : spec_between.f a0 a1 = some r) :
    Calls Tryd.prog 60 #[.int .u8 a0, .string a1] w fun e w' => e = .returned (.bool r) ∧ Below w.heap.size w w' := by
  have HB := Aside0.mk (Below.refl w.heap.size w)
  have H : (if a1.toList = ([] : List UInt8) then ((spec_IsSpace.f (wrap32 (a0))).bind fun t146 => (some t146)) else ((spec_isIn.f (wrap32 (a0)) a1).bind fun t147 => (some t147))) = some r := h
  clear h
  by_cases c3 : a1.toList = ([] : List UInt8)
  · rw [if_pos c3] at H
    have c3b0 : (a1.toList == ([] : List UInt8)) = true := beq_iff_eq.mpr c3
    have c3b1 : (a1.toList != ([] : List UInt8)) = false := bne_eq_false_iff_eq.mpr c3
    clear c3
    replace H := Option.bind_eq_some_iff.mp H
    obtain ⟨t146, A40, H⟩ := H
    replace H : (some t146) = some r := H
    have A4 := Aside0.mk A40
    clear A40
    obtain rfl := Option.some.inj H
    go_enter Tryd.func60, Tryd.ntmps60
    go_wp2_with (first | ((with_reducible refine gate_callee (f := 85) rfl ?_); refine goesL_ (some 9) rfl rfl Tryd.func85 (by kernel_rfl) rfl #[.int .i32 (wrap32 (a0))] rfl (by (try simp only [List.map_toArray, List.map_cons, List.map_nil]); first | done | rfl | (simp only [List.length_drop, List.length_take]; rfl)) ?_; (with_reducible refine (spec_IsSpace.calls (wrap32 (a0)) t146 _ A4.out).mono ?_); rintro e w' ⟨rfl, ⟨nd, rfl⟩⟩; refine ⟨_, rfl, ?_⟩))
    go_ret
    exact ⟨by first | rfl | (simp [errW_none, errW_some] <;> rfl) | (simp [*, errW_none, errW_some] <;> rfl), by repeat (first | (with_reducible first | exact HB.out | apply below_alloc | apply pw_below_drewN | apply below_drew1) | exact HB.out)⟩
  · rw [if_neg c3] at H
    have c3b0 : (a1.toList == ([] : List UInt8)) = false := beq_eq_false_iff_ne.mpr c3
    have c3b1 : (a1.toList != ([] : List UInt8)) = true := bne_iff_ne.mpr c3
    replace H := Option.bind_eq_some_iff.mp H
    obtain ⟨t147, A50, H⟩ := H
    replace H : (some t147) = some r := H
    have A5 := Aside0.mk A50
    clear A50
    obtain rfl := Option.some.inj H
    go_enter Tryd.func60, Tryd.ntmps60
    go_wp2_with (first | ((with_reducible refine gate_callee (f := 86) rfl ?_); refine goesL_ (some 13) rfl rfl Tryd.func86 (by kernel_rfl) rfl #[.int .i32 (wrap32 (a0)), .string a1] rfl (by (try simp only [List.map_toArray, List.map_cons, List.map_nil]); first | done | rfl | (simp only [List.length_drop, List.length_take]; rfl)) ?_; (with_reducible refine (spec_isIn.calls (wrap32 (a0)) a1 t147 _ A5.out).mono ?_); rintro e w6 ⟨rfl, hb⟩; refine ⟨_, rfl, ?_⟩; have n0_ := Aside0.mk (below_step (by repeat (first | (with_reducible first | exact HB.out | apply below_alloc | apply pw_below_drewN | apply below_drew1) | exact HB.out)) hb); clear HB; have HB := n0_; clear n0_; (try clear hb); (try clear hb2); (try clear hk); (try clear hi)))
    go_ret
    exact ⟨by first | rfl | (simp [errW_none, errW_some] <;> rfl) | (simp [*, errW_none, errW_some] <;> rfl), by repeat (first | (with_reducible first | exact HB.out | apply below_alloc | apply pw_below_drewN | apply below_drew1) | exact HB.out)⟩

/-! ### spec_InitialsBy: function 35 -/
def spec_InitialsBy.l0 : Nat → ByteArray → ByteArray → ByteArray → Int → Int → Option (ByteArray)
  | 0, _, _, _, _, _ => none
  | k + 1, x0, x1, x5, x8, x9 => if x9 < x8 then (if 0 ≤ x9 then (if x9 < (x0.size : Int) then ((spec_between.f (bt x0 x9) x1).bind fun t148 => (if t148 = true then (spec_InitialsBy.l0 k x0 x1 x5 x8 (wrap64 (x9 + 1))) else (if x9 = 0 then (if x9 ≤ (wrap64 (x9 + 1)) then (if (wrap64 (x9 + 1)) ≤ (x0.size : Int) then (if x5.size + (x0.extract (x9 : Int).toNat ((wrap64 (x9 + 1)) : Int).toNat).size ≤ 9223372036854775807 then (spec_InitialsBy.l0 k x0 x1 (x5 ++ (x0.extract (x9 : Int).toNat ((wrap64 (x9 + 1)) : Int).toNat)) x8 (wrap64 (x9 + 1))) else (none)) else (none)) else (none)) else (if 0 ≤ (wrap64 (x9 - 1)) then (if (wrap64 (x9 - 1)) < (x0.size : Int) then ((spec_between.f (bt x0 (wrap64 (x9 - 1))) x1).bind fun t149 => (if t149 = true then (if x9 ≤ (wrap64 (x9 + 1)) then (if (wrap64 (x9 + 1)) ≤ (x0.size : Int) then (if x5.size + (x0.extract (x9 : Int).toNat ((wrap64 (x9 + 1)) : Int).toNat).size ≤ 9223372036854775807 then (spec_InitialsBy.l0 k x0 x1 (x5 ++ (x0.extract (x9 : Int).toNat ((wrap64 (x9 + 1)) : Int).toNat)) x8 (wrap64 (x9 + 1))) else (none)) else (none)) else (none)) else (spec_InitialsBy.l0 k x0 x1 x5 x8 (wrap64 (x9 + 1))))) else (none)) else (none))))) else (none)) else (none)) else (some x5)
def spec_InitialsBy.f (k : Nat) (a0 : ByteArray) (a1 : ByteArray) : Option (ByteArray) := spec_InitialsBy.l0 k a0 a1 (⟨#[]⟩ : ByteArray) (a0.size : Int) 0
theorem spec_InitialsBy.mono_l : ∀ k, (∀ y0 y1 y2 y3 y4, LeO (spec_InitialsBy.l0 k y0 y1 y2 y3 y4) (spec_InitialsBy.l0 (k + 1) y0 y1 y2 y3 y4))
  | 0 => fun _ _ _ _ _ r h => by simp [spec_InitialsBy.l0] at h
  | k + 1 => by
    have ih0 := spec_InitialsBy.mono_l k
    · intro y0 y1 y2 y3 y4
      unfold spec_InitialsBy.l0
      repeat' first
      | (with_reducible exact ih0 _ _ _ _ _)
      | (with_reducible exact LeO.refl _)
      | (with_reducible exact LeO.none _)
      | (with_reducible refine LeO.ite ?_ ?_)
      | (with_reducible refine LeO.bind ?_ (fun _ => ?_))
      | exact ih0 _ _ _ _ _
      | exact LeO.none _
      | refine LeO.ite ?_ ?_
      | refine LeO.bind ?_ (fun _ => ?_)
theorem spec_InitialsBy.mono : ∀ a0 a1 k, LeO (spec_InitialsBy.f k a0 a1) (spec_InitialsBy.f (k + 1) a0 a1) := by
  intro a0 a1 k
  have ih0 := spec_InitialsBy.mono_l k
  unfold spec_InitialsBy.f
  repeat' first
      | (with_reducible exact ih0 _ _ _ _ _)
      | (with_reducible exact LeO.refl _)
      | (with_reducible exact LeO.none _)
      | (with_reducible refine LeO.ite ?_ ?_)
      | (with_reducible refine LeO.bind ?_ (fun _ => ?_))
      | exact ih0 _ _ _ _ _
      | exact LeO.none _
      | refine LeO.ite ?_ ?_
      | refine LeO.bind ?_ (fun _ => ?_)
set_option maxHeartbeats 8000000 in
set_option maxRecDepth 100000 in
theorem spec_InitialsBy.calls (k : Nat) (a0 : ByteArray) (a1 : ByteArray) (r : ByteArray) (w : World) (h : spec_InitialsBy.f k a0 a1 = some r) :
    Calls Tryd.prog 35 #[.string a0, .string a1] w fun e w' => e = .returned (.string r) ∧ Below w.heap.size w w' := by
  have HB := Aside0.mk (Below.refl w.heap.size w)
  have H : (spec_InitialsBy.l0 k a0 a1 (⟨#[]⟩ : ByteArray) (a0.size : Int) 0) = some r := h
  clear h
  have H' := Aside0.mk H
  clear H
  go_enter Tryd.func35, Tryd.ntmps35
  go_wp2
  go_loopg [5, 9] k (fun kq v5 v9 w' => ∃ (x5_1 : ByteArray) (x9_1 : Int), v5 = .string x5_1 ∧ v9 = .int .i64 x9_1 ∧ Aside0 (spec_InitialsBy.l0 kq a0 a1 x5_1 (a0.size : Int) x9_1 = some r) ∧ Aside0 (kq ≤ k) ∧ Aside0 (Below w.heap.size w w'))
  case atStart => exact ⟨((⟨#[]⟩ : ByteArray)), (0), (by first | rfl | (simp; done) | (simp [*]; done)), (by first | rfl | (simp; done) | (simp [*]; done)), H', ⟨Nat.le_refl _⟩, ⟨by repeat (first | (with_reducible first | exact HB.out | apply below_alloc | apply pw_below_drewN | apply below_drew1) | exact HB.out)⟩⟩
  case round =>
    clear H'
    try clear p2
    obtain ⟨x5_1, x9_1, rfl, rfl, HA, HK1, HB⟩ := hrel
    cases gk with
    | zero => exact absurd HA.out (by simp [spec_InitialsBy.l0])
    | succ k1 =>
      have H := HA.out
      clear HA
      simp only [spec_InitialsBy.l0] at H
      by_cases c3 : x9_1 < (a0.size : Int)
      · rw [if_pos c3] at H
        have c3b0 : decide (x9_1 < (a0.size : Int)) = true := decide_eq_true c3
        clear c3
        by_cases c4 : 0 ≤ x9_1
        · rw [if_pos c4] at H
          have c4b0 : decide (0 ≤ x9_1) = true := decide_eq_true c4
          clear c4
          by_cases c5 : x9_1 < (a0.size : Int)
          · rw [if_pos c5] at H
            have c5b0 : decide (x9_1 < (a0.size : Int)) = true := decide_eq_true c5
            clear c5
            replace H := Option.bind_eq_some_iff.mp H
            obtain ⟨t148, A70, H⟩ := H
            replace H : (if t148 = true then (spec_InitialsBy.l0 k1 a0 a1 x5_1 (a0.size : Int) (wrap64 (x9_1 + 1))) else (if x9_1 = 0 then (if x9_1 ≤ (wrap64 (x9_1 + 1)) then (if (wrap64 (x9_1 + 1)) ≤ (a0.size : Int) then (if x5_1.size + (a0.extract (x9_1 : Int).toNat ((wrap64 (x9_1 + 1)) : Int).toNat).size ≤ 9223372036854775807 then (spec_InitialsBy.l0 k1 a0 a1 (x5_1 ++ (a0.extract (x9_1 : Int).toNat ((wrap64 (x9_1 + 1)) : Int).toNat)) (a0.size : Int) (wrap64 (x9_1 + 1))) else (none)) else (none)) else (none)) else (if 0 ≤ (wrap64 (x9_1 - 1)) then (if (wrap64 (x9_1 - 1)) < (a0.size : Int) then ((spec_between.f (bt a0 (wrap64 (x9_1 - 1))) a1).bind fun t149 => (if t149 = true then (if x9_1 ≤ (wrap64 (x9_1 + 1)) then (if (wrap64 (x9_1 + 1)) ≤ (a0.size : Int) then (if x5_1.size + (a0.extract (x9_1 : Int).toNat ((wrap64 (x9_1 + 1)) : Int).toNat).size ≤ 9223372036854775807 then (spec_InitialsBy.l0 k1 a0 a1 (x5_1 ++ (a0.extract (x9_1 : Int).toNat ((wrap64 (x9_1 + 1)) : Int).toNat)) (a0.size : Int) (wrap64 (x9_1 + 1))) else (none)) else (none)) else (none)) else (spec_InitialsBy.l0 k1 a0 a1 x5_1 (a0.size : Int) (wrap64 (x9_1 + 1))))) else (none)) else (none)))) = some r := H
            have A7 := Aside0.mk A70
            clear A70
            by_cases c8 : t148 = true
            · subst c8
              have H1 : (spec_InitialsBy.l0 k1 a0 a1 x5_1 (a0.size : Int) (wrap64 (x9_1 + 1))) = some r := by rw [if_pos rfl] at H; exact H
              clear H
              have H := H1
              clear H1
              have H' := Aside0.mk H
              clear H
              have p6 : 0 ≤ (x9_1 : Int) := of_decide_eq_true (by first | (with_reducible assumption) | assumption)
              have q6 : x9_1 < (a0.size : Int) := of_decide_eq_true (by first | (with_reducible assumption) | assumption)
              have hx6 := bt_at a0 x9_1
              replace p6 := eq_true p6
              replace q6 := eq_true q6
              go_wp2_with (first | ((with_reducible refine gate_callee (f := 60) rfl ?_); refine goesL_ (some 16) rfl rfl Tryd.func60 (by kernel_rfl) rfl #[.int .u8 (bt a0 x9_1), .string a1] rfl (by (try simp only [List.map_toArray, List.map_cons, List.map_nil]); first | done | rfl | (simp only [List.length_drop, List.length_take]; rfl)) ?_; (with_reducible refine (spec_between.calls (bt a0 x9_1) a1 true _ A7.out).mono ?_); rintro e w9 ⟨rfl, hb⟩; refine ⟨_, rfl, ?_⟩; have n0_ := Aside0.mk (below_step (by repeat (first | (with_reducible first | exact HB.out | apply below_alloc | apply pw_below_drewN | apply below_drew1) | exact HB.out)) hb); clear HB; have HB := n0_; clear n0_; (try clear hb); (try clear hb2); (try clear hk); (try clear hi)))
              go_roundg k1
              case measure => have := HK1.out; omega
              case rel => exact ⟨(x5_1), (wrap64 (x9_1 + 1)), (by first | rfl | (simp; done) | (simp [*]; done)), (by first | rfl | (simp; done) | (simp [*]; done)), H', ⟨by have := HK1.out; omega⟩, ⟨by repeat (first | (with_reducible first | exact HB.out | apply below_alloc | apply pw_below_drewN | apply below_drew1) | exact HB.out)⟩⟩
            · replace c8 := Bool.eq_false_iff.mpr c8
              subst c8
              have H1 : (if x9_1 = 0 then (if x9_1 ≤ (wrap64 (x9_1 + 1)) then (if (wrap64 (x9_1 + 1)) ≤ (a0.size : Int) then (if x5_1.size + (a0.extract (x9_1 : Int).toNat ((wrap64 (x9_1 + 1)) : Int).toNat).size ≤ 9223372036854775807 then (spec_InitialsBy.l0 k1 a0 a1 (x5_1 ++ (a0.extract (x9_1 : Int).toNat ((wrap64 (x9_1 + 1)) : Int).toNat)) (a0.size : Int) (wrap64 (x9_1 + 1))) else (none)) else (none)) else (none)) else (if 0 ≤ (wrap64 (x9_1 - 1)) then (if (wrap64 (x9_1 - 1)) < (a0.size : Int) then ((spec_between.f (bt a0 (wrap64 (x9_1 - 1))) a1).bind fun t149 => (if t149 = true then (if x9_1 ≤ (wrap64 (x9_1 + 1)) then (if (wrap64 (x9_1 + 1)) ≤ (a0.size : Int) then (if x5_1.size + (a0.extract (x9_1 : Int).toNat ((wrap64 (x9_1 + 1)) : Int).toNat).size ≤ 9223372036854775807 then (spec_InitialsBy.l0 k1 a0 a1 (x5_1 ++ (a0.extract (x9_1 : Int).toNat ((wrap64 (x9_1 + 1)) : Int).toNat)) (a0.size : Int) (wrap64 (x9_1 + 1))) else (none)) else (none)) else (none)) else (spec_InitialsBy.l0 k1 a0 a1 x5_1 (a0.size : Int) (wrap64 (x9_1 + 1))))) else (none)) else (none))) = some r := by rw [if_neg (show ¬ (false = true) by decide)] at H; exact H
              clear H
              have H := H1
              clear H1
              by_cases c10 : x9_1 = 0
              · rw [if_pos c10] at H
                have c10b0 : (x9_1 == 0) = true := beq_iff_eq.mpr c10
                have c10b1 : (x9_1 != 0) = false := bne_eq_false_iff_eq.mpr c10
                clear c10
                have c11b0 := eq_true (of_decide_eq_true (by first | (with_reducible assumption) | assumption) : 0 ≤ x9_1)
                by_cases c12 : x9_1 ≤ (wrap64 (x9_1 + 1))
                · rw [if_pos c12] at H
                  have c12b0 := eq_true c12
                  have c12b1 : decide (x9_1 ≤ (wrap64 (x9_1 + 1))) = true := decide_eq_true c12
                  by_cases c13 : (wrap64 (x9_1 + 1)) ≤ (a0.size : Int)
                  · rw [if_pos c13] at H
                    have c13b0 := eq_true c13
                    have c13b1 : decide ((wrap64 (x9_1 + 1)) ≤ (a0.size : Int)) = true := decide_eq_true c13
                    by_cases c14 : x5_1.size + (a0.extract (x9_1 : Int).toNat ((wrap64 (x9_1 + 1)) : Int).toNat).size ≤ 9223372036854775807
                    · rw [if_pos c14] at H
                      have c14b0 := eq_true c14
                      have c14b1 : decide (x5_1.size + (a0.extract (x9_1 : Int).toNat ((wrap64 (x9_1 + 1)) : Int).toNat).size ≤ 9223372036854775807) = true := decide_eq_true c14
                      try have c14b2 : (9223372036854775807 < x5_1.size + (a0.extract (x9_1 : Int).toNat ((wrap64 (x9_1 + 1)) : Int).toNat).size) = False := eq_false (Nat.not_lt.2 c14)
                      have H' := Aside0.mk H
                      clear H
                      have p6 : 0 ≤ (x9_1 : Int) := of_decide_eq_true (by first | (with_reducible assumption) | assumption)
                      have q6 : x9_1 < (a0.size : Int) := of_decide_eq_true (by first | (with_reducible assumption) | assumption)
                      have hx6 := bt_at a0 x9_1
                      replace p6 := eq_true p6
                      replace q6 := eq_true q6
                      go_wp2_with (first | ((with_reducible refine gate_callee (f := 60) rfl ?_); refine goesL_ (some 16) rfl rfl Tryd.func60 (by kernel_rfl) rfl #[.int .u8 (bt a0 x9_1), .string a1] rfl (by (try simp only [List.map_toArray, List.map_cons, List.map_nil]); first | done | rfl | (simp only [List.length_drop, List.length_take]; rfl)) ?_; (with_reducible refine (spec_between.calls (bt a0 x9_1) a1 false _ A7.out).mono ?_); rintro e w15 ⟨rfl, hb⟩; refine ⟨_, rfl, ?_⟩; have n0_ := Aside0.mk (below_step (by repeat (first | (with_reducible first | exact HB.out | apply below_alloc | apply pw_below_drewN | apply below_drew1) | exact HB.out)) hb); clear HB; have HB := n0_; clear n0_; (try clear hb); (try clear hb2); (try clear hk); (try clear hi)))
                      go_roundg k1
                      case measure => have := HK1.out; omega
                      case rel => exact ⟨(x5_1 ++ (a0.extract (x9_1 : Int).toNat ((wrap64 (x9_1 + 1)) : Int).toNat)), (wrap64 (x9_1 + 1)), (by first | rfl | (simp; done) | (simp [*]; done)), (by first | rfl | (simp; done) | (simp [*]; done)), H', ⟨by have := HK1.out; omega⟩, ⟨by repeat (first | (with_reducible first | exact HB.out | apply below_alloc | apply pw_below_drewN | apply below_drew1) | exact HB.out)⟩⟩
                    · rw [if_neg c14] at H
                      exact absurd H (by simp)
                  · rw [if_neg c13] at H
                    exact absurd H (by simp)
                · rw [if_neg c12] at H
                  exact absurd H (by simp)
              · rw [if_neg c10] at H
                have c10b0 : (x9_1 == 0) = false := beq_eq_false_iff_ne.mpr c10
                have c10b1 : (x9_1 != 0) = true := bne_iff_ne.mpr c10
                obtain ⟨ji16, hji16⟩ : ∃ j_ : Int, (wrap64 (x9_1 - 1)) = j_ := ⟨_, rfl⟩
                replace H : (if 0 ≤ (ji16) then (if (ji16) < (a0.size : Int) then ((spec_between.f (bt a0 (ji16)) a1).bind fun t149 => (if t149 = true then (if x9_1 ≤ (wrap64 (x9_1 + 1)) then (if (wrap64 (x9_1 + 1)) ≤ (a0.size : Int) then (if x5_1.size + (a0.extract (x9_1 : Int).toNat ((wrap64 (x9_1 + 1)) : Int).toNat).size ≤ 9223372036854775807 then (spec_InitialsBy.l0 k1 a0 a1 (x5_1 ++ (a0.extract (x9_1 : Int).toNat ((wrap64 (x9_1 + 1)) : Int).toNat)) (a0.size : Int) (wrap64 (x9_1 + 1))) else (none)) else (none)) else (none)) else (spec_InitialsBy.l0 k1 a0 a1 x5_1 (a0.size : Int) (wrap64 (x9_1 + 1))))) else (none)) else (none)) = some r := by first | (rw [hji16] at H; exact H) | (simp only [hji16] at H ⊢; exact H)
                (try rw [hji16] at A7)
                have hji16w : (IntKind.i64.wrap (x9_1 - 1)) = ji16 := (i64_w _).trans hji16
                by_cases c17 : 0 ≤ (ji16)
                · rw [if_pos c17] at H
                  have c17b0 : decide (0 ≤ (ji16)) = true := decide_eq_true c17
                  clear c17
                  by_cases c18 : (ji16) < (a0.size : Int)
                  · rw [if_pos c18] at H
                    have c18b0 : decide ((ji16) < (a0.size : Int)) = true := decide_eq_true c18
                    clear c18
                    replace H := Option.bind_eq_some_iff.mp H
                    obtain ⟨t149, A200, H⟩ := H
                    replace H : (if t149 = true then (if x9_1 ≤ (wrap64 (x9_1 + 1)) then (if (wrap64 (x9_1 + 1)) ≤ (a0.size : Int) then (if x5_1.size + (a0.extract (x9_1 : Int).toNat ((wrap64 (x9_1 + 1)) : Int).toNat).size ≤ 9223372036854775807 then (spec_InitialsBy.l0 k1 a0 a1 (x5_1 ++ (a0.extract (x9_1 : Int).toNat ((wrap64 (x9_1 + 1)) : Int).toNat)) (a0.size : Int) (wrap64 (x9_1 + 1))) else (none)) else (none)) else (none)) else (spec_InitialsBy.l0 k1 a0 a1 x5_1 (a0.size : Int) (wrap64 (x9_1 + 1)))) = some r := H
                    have A20 := Aside0.mk A200
                    clear A200
                    by_cases c21 : t149 = true
                    · subst c21
                      have H1 : (if x9_1 ≤ (wrap64 (x9_1 + 1)) then (if (wrap64 (x9_1 + 1)) ≤ (a0.size : Int) then (if x5_1.size + (a0.extract (x9_1 : Int).toNat ((wrap64 (x9_1 + 1)) : Int).toNat).size ≤ 9223372036854775807 then (spec_InitialsBy.l0 k1 a0 a1 (x5_1 ++ (a0.extract (x9_1 : Int).toNat ((wrap64 (x9_1 + 1)) : Int).toNat)) (a0.size : Int) (wrap64 (x9_1 + 1))) else (none)) else (none)) else (none)) = some r := by rw [if_pos rfl] at H; exact H
                      clear H
                      have H := H1
                      clear H1
                      have c22b0 := eq_true (of_decide_eq_true (by first | (with_reducible assumption) | assumption) : 0 ≤ x9_1)
                      by_cases c23 : x9_1 ≤ (wrap64 (x9_1 + 1))
                      · rw [if_pos c23] at H
                        have c23b0 := eq_true c23
                        have c23b1 : decide (x9_1 ≤ (wrap64 (x9_1 + 1))) = true := decide_eq_true c23
                        by_cases c24 : (wrap64 (x9_1 + 1)) ≤ (a0.size : Int)
                        · rw [if_pos c24] at H
                          have c24b0 := eq_true c24
                          have c24b1 : decide ((wrap64 (x9_1 + 1)) ≤ (a0.size : Int)) = true := decide_eq_true c24
                          by_cases c25 : x5_1.size + (a0.extract (x9_1 : Int).toNat ((wrap64 (x9_1 + 1)) : Int).toNat).size ≤ 9223372036854775807
                          · rw [if_pos c25] at H
                            have c25b0 := eq_true c25
                            have c25b1 : decide (x5_1.size + (a0.extract (x9_1 : Int).toNat ((wrap64 (x9_1 + 1)) : Int).toNat).size ≤ 9223372036854775807) = true := decide_eq_true c25
                            try have c25b2 : (9223372036854775807 < x5_1.size + (a0.extract (x9_1 : Int).toNat ((wrap64 (x9_1 + 1)) : Int).toNat).size) = False := eq_false (Nat.not_lt.2 c25)
                            have H' := Aside0.mk H
                            clear H
                            have p6 : 0 ≤ (x9_1 : Int) := of_decide_eq_true (by first | (with_reducible assumption) | assumption)
                            have q6 : x9_1 < (a0.size : Int) := of_decide_eq_true (by first | (with_reducible assumption) | assumption)
                            have hx6 := bt_at a0 x9_1
                            replace p6 := eq_true p6
                            replace q6 := eq_true q6
                            go_wp2_with (first | ((with_reducible refine gate_callee (f := 60) rfl ?_); refine goesL_ (some 16) rfl rfl Tryd.func60 (by kernel_rfl) rfl #[.int .u8 (bt a0 x9_1), .string a1] rfl (by (try simp only [List.map_toArray, List.map_cons, List.map_nil]); first | done | rfl | (simp only [List.length_drop, List.length_take]; rfl)) ?_; (with_reducible refine (spec_between.calls (bt a0 x9_1) a1 false _ A7.out).mono ?_); rintro e w26 ⟨rfl, hb⟩; refine ⟨_, rfl, ?_⟩; have n0_ := Aside0.mk (below_step (by repeat (first | (with_reducible first | exact HB.out | apply below_alloc | apply pw_below_drewN | apply below_drew1) | exact HB.out)) hb); clear HB; have HB := n0_; clear n0_; (try clear hb); (try clear hb2); (try clear hk); (try clear hi); have p19 : 0 ≤ ((ji16) : Int) := of_decide_eq_true (by first | (with_reducible assumption) | assumption); have q19 : (ji16) < (a0.size : Int) := of_decide_eq_true (by first | (with_reducible assumption) | assumption); have hx19 := bt_at a0 (ji16); replace p19 := eq_true p19; replace q19 := eq_true q19) | (go_at_call 60; (with_reducible refine (spec_between.calls (bt a0 (ji16)) a1 true _ A20.out).mono ?_); rintro e w27 ⟨rfl, hb⟩; have n0_ := Aside0.mk (below_step (by repeat (first | (with_reducible first | exact HB.out | apply below_alloc | apply pw_below_drewN | apply below_drew1) | exact HB.out)) hb); clear HB; have HB := n0_; clear n0_; (try clear hb); (try clear hb2); (try clear hk); (try clear hi)))
                            go_roundg k1
                            case measure => have := HK1.out; omega
                            case rel => exact ⟨(x5_1 ++ (a0.extract (x9_1 : Int).toNat ((wrap64 (x9_1 + 1)) : Int).toNat)), (wrap64 (x9_1 + 1)), (by first | rfl | (simp; done) | (simp [*]; done)), (by first | rfl | (simp; done) | (simp [*]; done)), H', ⟨by have := HK1.out; omega⟩, ⟨by repeat (first | (with_reducible first | exact HB.out | apply below_alloc | apply pw_below_drewN | apply below_drew1) | exact HB.out)⟩⟩
                          · rw [if_neg c25] at H
                            exact absurd H (by simp)
                        · rw [if_neg c24] at H
                          exact absurd H (by simp)
                      · rw [if_neg c23] at H
                        exact absurd H (by simp)
                    · replace c21 := Bool.eq_false_iff.mpr c21
                      subst c21
                      have H1 : (spec_InitialsBy.l0 k1 a0 a1 x5_1 (a0.size : Int) (wrap64 (x9_1 + 1))) = some r := by rw [if_neg (show ¬ (false = true) by decide)] at H; exact H
                      clear H
                      have H := H1
                      clear H1
                      have H' := Aside0.mk H
                      clear H
                      have p6 : 0 ≤ (x9_1 : Int) := of_decide_eq_true (by first | (with_reducible assumption) | assumption)
                      have q6 : x9_1 < (a0.size : Int) := of_decide_eq_true (by first | (with_reducible assumption) | assumption)
                      have hx6 := bt_at a0 x9_1
                      replace p6 := eq_true p6
                      replace q6 := eq_true q6
                      go_wp2_with (first | ((with_reducible refine gate_callee (f := 60) rfl ?_); refine goesL_ (some 16) rfl rfl Tryd.func60 (by kernel_rfl) rfl #[.int .u8 (bt a0 x9_1), .string a1] rfl (by (try simp only [List.map_toArray, List.map_cons, List.map_nil]); first | done | rfl | (simp only [List.length_drop, List.length_take]; rfl)) ?_; (with_reducible refine (spec_between.calls (bt a0 x9_1) a1 false _ A7.out).mono ?_); rintro e w28 ⟨rfl, hb⟩; refine ⟨_, rfl, ?_⟩; have n0_ := Aside0.mk (below_step (by repeat (first | (with_reducible first | exact HB.out | apply below_alloc | apply pw_below_drewN | apply below_drew1) | exact HB.out)) hb); clear HB; have HB := n0_; clear n0_; (try clear hb); (try clear hb2); (try clear hk); (try clear hi); have p19 : 0 ≤ ((ji16) : Int) := of_decide_eq_true (by first | (with_reducible assumption) | assumption); have q19 : (ji16) < (a0.size : Int) := of_decide_eq_true (by first | (with_reducible assumption) | assumption); have hx19 := bt_at a0 (ji16); replace p19 := eq_true p19; replace q19 := eq_true q19) | (go_at_call 60; (with_reducible refine (spec_between.calls (bt a0 (ji16)) a1 false _ A20.out).mono ?_); rintro e w29 ⟨rfl, hb⟩; have n0_ := Aside0.mk (below_step (by repeat (first | (with_reducible first | exact HB.out | apply below_alloc | apply pw_below_drewN | apply below_drew1) | exact HB.out)) hb); clear HB; have HB := n0_; clear n0_; (try clear hb); (try clear hb2); (try clear hk); (try clear hi)))
                      go_roundg k1
                      case measure => have := HK1.out; omega
                      case rel => exact ⟨(x5_1), (wrap64 (x9_1 + 1)), (by first | rfl | (simp; done) | (simp [*]; done)), (by first | rfl | (simp; done) | (simp [*]; done)), H', ⟨by have := HK1.out; omega⟩, ⟨by repeat (first | (with_reducible first | exact HB.out | apply below_alloc | apply pw_below_drewN | apply below_drew1) | exact HB.out)⟩⟩
                  · rw [if_neg c18] at H
                    exact absurd H (by simp)
                · rw [if_neg c17] at H
                  exact absurd H (by simp)
          · rw [if_neg c5] at H
            exact absurd H (by simp)
        · rw [if_neg c4] at H
          exact absurd H (by simp)
      · rw [if_neg c3] at H
        have c3b0 : decide (x9_1 < (a0.size : Int)) = false := decide_eq_false c3
        clear c3
        obtain rfl := Option.some.inj H
        go_wp2
        go_ret
        exact ⟨by first | rfl | (simp [errW_none, errW_some] <;> rfl) | (simp [*, errW_none, errW_some] <;> rfl), by repeat (first | (with_reducible first | exact HB.out | apply below_alloc | apply pw_below_drewN | apply below_drew1) | exact HB.out)⟩

/-! ### laws_FnInitialsBy: function 9 -/
def laws_FnInitialsBy.j0 : Nat → ByteArray → ByteArray → Bool → Option (Bool)
  | 0, _, _, _ => none
  | k + 1, x0, x1, x12 => if x12 = true then (some true) else ((laws_plain9.f k (([x0, x1] : List ByteArray))).bind fun t153 => (if t153 = true then (if (x1.size : Int) > 8 then (some true) else ((impl_InitialsBy.f x0 x1).bind fun t154 => ((spec_InitialsBy.f k x0 x1).bind fun t155 => (if t154.toList = t155.toList then ((impl_InitialsBy.f (⟨#[97, 98]⟩ : ByteArray) (⟨#[]⟩ : ByteArray)).bind fun t156 => (some (t156.toList == ([97] : List UInt8)))) else (some false))))) else (some true)))
def laws_FnInitialsBy.f (k : Nat) (a0 : ByteArray) (a1 : ByteArray) : Option (Bool) := if (a0.size : Int) > 2147483647 then (laws_FnInitialsBy.j0 k a0 a1 true) else (laws_FnInitialsBy.j0 k a0 a1 (decide ((a1.size : Int) > 2147483647)))
theorem laws_FnInitialsBy.mono_l : ∀ k, (∀ y0 y1 y2, LeO (laws_FnInitialsBy.j0 k y0 y1 y2) (laws_FnInitialsBy.j0 (k + 1) y0 y1 y2))
  | 0 => fun _ _ _ r h => by simp [laws_FnInitialsBy.j0] at h
  | k + 1 => by
    have ih0 := laws_FnInitialsBy.mono_l k
    · intro y0 y1 y2
      unfold laws_FnInitialsBy.j0
      repeat' first
      | (with_reducible exact ih0 _ _ _)
      | (with_reducible exact laws_plain9.mono _ _)
      | (with_reducible exact spec_InitialsBy.mono _ _ _)
      | (with_reducible exact LeO.refl _)
      | (with_reducible exact LeO.none _)
      | (with_reducible refine LeO.ite ?_ ?_)
      | (with_reducible refine LeO.bind ?_ (fun _ => ?_))
      | exact ih0 _ _ _
      | exact laws_plain9.mono _ _
      | exact spec_InitialsBy.mono _ _ _
      | exact LeO.none _
      | refine LeO.ite ?_ ?_
      | refine LeO.bind ?_ (fun _ => ?_)
theorem laws_FnInitialsBy.mono : ∀ a0 a1 k, LeO (laws_FnInitialsBy.f k a0 a1) (laws_FnInitialsBy.f (k + 1) a0 a1) := by
  intro a0 a1 k
  have ih0 := laws_FnInitialsBy.mono_l k
  unfold laws_FnInitialsBy.f
  repeat' first
      | (with_reducible exact ih0 _ _ _)
      | (with_reducible exact laws_plain9.mono _ _)
      | (with_reducible exact spec_InitialsBy.mono _ _ _)
      | (with_reducible exact LeO.refl _)
      | (with_reducible exact LeO.none _)
      | (with_reducible refine LeO.ite ?_ ?_)
      | (with_reducible refine LeO.bind ?_ (fun _ => ?_))
      | exact ih0 _ _ _
      | exact laws_plain9.mono _ _
      | exact spec_InitialsBy.mono _ _ _
      | exact LeO.none _
      | refine LeO.ite ?_ ?_
      | refine LeO.bind ?_ (fun _ => ?_)
set_option maxHeartbeats 8000000 in
set_option maxRecDepth 100000 in
theorem laws_FnInitialsBy.calls (k : Nat) (a0 : ByteArray) (a1 : ByteArray) (r : Bool) (w : World) (h : laws_FnInitialsBy.f k a0 a1 = some r) :
    Calls Tryd.prog 9 #[.string a0, .string a1] w fun e w' => e = .returned (.bool r) ∧ Below w.heap.size w w' := by
  have HB := Aside0.mk (Below.refl w.heap.size w)
  have H : (if (a0.size : Int) > 2147483647 then (laws_FnInitialsBy.j0 k a0 a1 true) else (laws_FnInitialsBy.j0 k a0 a1 (decide ((a1.size : Int) > 2147483647)))) = some r := h
  clear h
  have HC3 := Aside0.mk H
  clear H
  go_enter Tryd.func9, Tryd.ntmps9
  go_upto_region 1 with (fail)
  go_cut [12] (fun v12 wc => ∃ (kq : Nat) (x12_2 : Bool), v12 = .bool x12_2 ∧ Aside0 (laws_FnInitialsBy.j0 kq a0 a1 x12_2 = some r) ∧ Aside0 (kq ≤ k) ∧ Aside0 (Below w.heap.size w wc))
  case first =>
    have H := HC3.out
    clear HC3
    by_cases c4 : (a0.size : Int) > 2147483647
    · rw [if_pos c4] at H
      have c4b0 : decide (2147483647 < (a0.size : Int)) = true := decide_eq_true c4
      have c4b1 : decide (2147483647 < a0.size) = true := decide_eq_true (by omega)
      clear c4
      (first | rw [c4b0] | (simp only [i64_w, i32_w]; rw [c4b0]) | skip)
      have H' := Aside0.mk H
      clear H
      go_wp2
      go_meet
      case rel => exact ⟨_, (true), (by first | rfl | (simp; done) | (simp [*]; done)), H', ⟨by first | omega | exact Nat.le_refl _⟩, ⟨by repeat (first | (with_reducible first | exact HB.out | apply below_alloc | apply pw_below_drewN | apply below_drew1) | exact HB.out)⟩⟩
    · rw [if_neg c4] at H
      have c4b0 : decide (2147483647 < (a0.size : Int)) = false := decide_eq_false c4
      have c4b1 : decide (2147483647 < a0.size) = false := decide_eq_false (by omega)
      clear c4
      (first | rw [c4b0] | (simp only [i64_w, i32_w]; rw [c4b0]) | skip)
      have H' := Aside0.mk H
      clear H
      go_wp2
      go_meet
      case rel => exact ⟨_, (decide ((a1.size : Int) > 2147483647)), (by first | rfl | (simp; done) | (simp [*]; done)), H', ⟨by first | omega | exact Nat.le_refl _⟩, ⟨by repeat (first | (with_reducible first | exact HB.out | apply below_alloc | apply pw_below_drewN | apply below_drew1) | exact HB.out)⟩⟩
  case rest =>
    clear HC3
    try clear p2
    try clear c4
    try clear c4b0
    try clear c4b1
    obtain ⟨kq, x12_2, rfl, HA, HJ2, HB⟩ := hcut
    cases kq with
    | zero => exact absurd HA.out (by simp [laws_FnInitialsBy.j0])
    | succ kj2 =>
      have H := HA.out
      clear HA
      simp only [laws_FnInitialsBy.j0] at H
      by_cases c5 : x12_2 = true
      · subst c5
        have H1 : (some true) = some r := by rw [if_pos rfl] at H; exact H
        clear H
        have H := H1
        clear H1
        obtain rfl := Option.some.inj H
        go_wp2
        go_ret
        exact ⟨by first | rfl | (simp [errW_none, errW_some] <;> rfl) | (simp [*, errW_none, errW_some] <;> rfl), by repeat (first | (with_reducible first | exact HB.out | apply below_alloc | apply pw_below_drewN | apply below_drew1) | exact HB.out)⟩
      · replace c5 := Bool.eq_false_iff.mpr c5
        subst c5
        have H1 : ((laws_plain9.f kj2 (([a0, a1] : List ByteArray))).bind fun t153 => (if t153 = true then (if (a1.size : Int) > 8 then (some true) else ((impl_InitialsBy.f a0 a1).bind fun t154 => ((spec_InitialsBy.f kj2 a0 a1).bind fun t155 => (if t154.toList = t155.toList then ((impl_InitialsBy.f (⟨#[97, 98]⟩ : ByteArray) (⟨#[]⟩ : ByteArray)).bind fun t156 => (some (t156.toList == ([97] : List UInt8)))) else (some false))))) else (some true))) = some r := by rw [if_neg (show ¬ (false = true) by decide)] at H; exact H
        clear H
        have H := H1
        clear H1
        obtain ⟨y150, hy150⟩ : ∃ y_ : List ByteArray, y_ = (([a0, a1] : List ByteArray)) := ⟨_, rfl⟩
        replace H : ((laws_plain9.f kj2 y150).bind fun t153 => (if t153 = true then (if (a1.size : Int) > 8 then (some true) else ((impl_InitialsBy.f a0 a1).bind fun t154 => ((spec_InitialsBy.f kj2 a0 a1).bind fun t155 => (if t154.toList = t155.toList then ((impl_InitialsBy.f (⟨#[97, 98]⟩ : ByteArray) (⟨#[]⟩ : ByteArray)).bind fun t156 => (some (t156.toList == ([97] : List UInt8)))) else (some false))))) else (some true))) = some r := by first | (rw [hy150]; with_reducible exact H) | (have H2_ := (Option.bind_some _ _).symm.trans H; rw [hy150]; with_reducible exact H2_) | (have H2_ := (Option.bind_some _ _).symm.trans H; with_reducible exact H2_) | with_reducible exact H | (rw [hy150]; exact H) | exact H
        have Ny150 := Aside0.mk hy150
        clear hy150
        replace H := Option.bind_eq_some_iff.mp H
        obtain ⟨t153, A60, H⟩ := H
        replace H : (if t153 = true then (if (a1.size : Int) > 8 then (some true) else ((impl_InitialsBy.f a0 a1).bind fun t154 => ((spec_InitialsBy.f kj2 a0 a1).bind fun t155 => (if t154.toList = t155.toList then ((impl_InitialsBy.f (⟨#[97, 98]⟩ : ByteArray) (⟨#[]⟩ : ByteArray)).bind fun t156 => (some (t156.toList == ([97] : List UInt8)))) else (some false))))) else (some true)) = some r := H
        have A6 := Aside0.mk A60
        clear A60
        by_cases c7 : t153 = true
        · subst c7
          have H1 : (if (a1.size : Int) > 8 then (some true) else ((impl_InitialsBy.f a0 a1).bind fun t154 => ((spec_InitialsBy.f kj2 a0 a1).bind fun t155 => (if t154.toList = t155.toList then ((impl_InitialsBy.f (⟨#[97, 98]⟩ : ByteArray) (⟨#[]⟩ : ByteArray)).bind fun t156 => (some (t156.toList == ([97] : List UInt8)))) else (some false))))) = some r := by rw [if_pos rfl] at H; exact H
          clear H
          have H := H1
          clear H1
          by_cases c8 : (a1.size : Int) > 8
          · rw [if_pos c8] at H
            have c8b0 : decide (8 < (a1.size : Int)) = true := decide_eq_true c8
            have c8b1 : decide (8 < a1.size) = true := decide_eq_true (by omega)
            clear c8
            obtain rfl := Option.some.inj H
            go_wp2_with (first | ((with_reducible refine gate_dst (N := 15) rfl ?_); (try (refine gate_guard (by rfl) ?_; dsimp only)); refine Kd.R_lit Kd.string _ 9 ?hg (N := 15) ?hd (xs := ([a0, a1] : List ByteArray)) (inner := [.string a0, .string a1]) (ok := fun _ => True) (okp := fun _ => True) ?hr ?hp (fun _ hk => hk) trivial (Below.refl _ _) (Nat.le_refl _) (by simp) ?_; (case hd => rfl); (case hg => rfl); (case hr => first | (go_simp; done) | (go_simp; rfl)); (case hp => exact (Reps.one (show Kd.M Kd.string _ _ _ a0 [.string a0] from rfl) (Reps.one (show Kd.M Kd.string _ _ _ a1 [.string a1] from rfl) (Reps.none _ _)))); intro v151 w9 ho10 hb hg_ hnew_; clear hg_ hnew_; (first | rw [← Ny150.out] at ho10 | (simp only [Int.reduceToNat] at ho10; rw [← Ny150.out] at ho10)); have n0_ := Aside0.mk (Kd.R_lower ho10 (below_size (by repeat (first | (with_reducible first | exact HB.out | apply below_alloc | apply pw_below_drewN | apply below_drew1) | exact HB.out)))); have n1_ := Aside0.mk (below_step (by repeat (first | (with_reducible first | exact HB.out | apply below_alloc | apply pw_below_drewN | apply below_drew1) | exact HB.out)) hb); clear HB; have HO152 := n0_; have HB := n1_; clear n0_ n1_; clear hb ho10; obtain ⟨Ao11, co11, eo11⟩ := Kd.R_slice HO152.out; subst eo11) | ((with_reducible refine gate_callee (f := 21) rfl ?_); refine goesL_ (some 16) rfl rfl Tryd.func21 (by kernel_rfl) rfl #[.slice Ao11 y150.length co11] rfl (by (try simp only [List.map_toArray, List.map_cons, List.map_nil]); first | done | rfl | (simp only [List.length_drop, List.length_take]; rfl)) ?_; (with_reducible refine (laws_plain9.calls kj2 _ _ y150 true _ ?side1 ?side2 A6.out).mono ?_); (case side1 => repeat (first | exact (Kd.R_reads' HO152.out).2.2 | (with_reducible refine Kd.C_alloc ?_ _) | (with_reducible refine Kd.C_drewN ?_ _) | (with_reducible refine Kd.C_drew ?_))); (case side2 => exact (Kd.R_reads' HO152.out).2.1); rintro e w' ⟨rfl, ⟨nd, rfl⟩⟩; refine ⟨_, rfl, ?_⟩))
            go_ret
            exact ⟨by first | rfl | (simp [errW_none, errW_some] <;> rfl) | (simp [*, errW_none, errW_some] <;> rfl), by repeat (first | (with_reducible first | exact HB.out | apply below_alloc | apply pw_below_drewN | apply below_drew1) | exact HB.out)⟩
          · rw [if_neg c8] at H
            have c8b0 : decide (8 < (a1.size : Int)) = false := decide_eq_false c8
            have c8b1 : decide (8 < a1.size) = false := decide_eq_false (by omega)
            clear c8
            replace H := Option.bind_eq_some_iff.mp H
            obtain ⟨t154, A120, H⟩ := H
            replace H : ((spec_InitialsBy.f kj2 a0 a1).bind fun t155 => (if t154.toList = t155.toList then ((impl_InitialsBy.f (⟨#[97, 98]⟩ : ByteArray) (⟨#[]⟩ : ByteArray)).bind fun t156 => (some (t156.toList == ([97] : List UInt8)))) else (some false))) = some r := H
            have A12 := Aside0.mk A120
            clear A120
            replace H := Option.bind_eq_some_iff.mp H
            obtain ⟨t155, A130, H⟩ := H
            replace H : (if t154.toList = t155.toList then ((impl_InitialsBy.f (⟨#[97, 98]⟩ : ByteArray) (⟨#[]⟩ : ByteArray)).bind fun t156 => (some (t156.toList == ([97] : List UInt8)))) else (some false)) = some r := H
            have A13 := Aside0.mk A130
            clear A130
            by_cases c14 : t154.toList = t155.toList
            · rw [if_pos c14] at H
              have c14b0 : (t154.toList == t155.toList) = true := beq_iff_eq.mpr c14
              have c14b1 : (t154.toList != t155.toList) = false := bne_eq_false_iff_eq.mpr c14
              clear c14
              replace H := Option.bind_eq_some_iff.mp H
              obtain ⟨t156, A150, H⟩ := H
              replace H : (some (t156.toList == ([97] : List UInt8))) = some r := H
              have A15 := Aside0.mk A150
              clear A150
              obtain rfl := Option.some.inj H
              go_wp2_with (first | ((with_reducible refine gate_dst (N := 15) rfl ?_); (try (refine gate_guard (by rfl) ?_; dsimp only)); refine Kd.R_lit Kd.string _ 9 ?hg (N := 15) ?hd (xs := ([a0, a1] : List ByteArray)) (inner := [.string a0, .string a1]) (ok := fun _ => True) (okp := fun _ => True) ?hr ?hp (fun _ hk => hk) trivial (Below.refl _ _) (Nat.le_refl _) (by simp) ?_; (case hd => rfl); (case hg => rfl); (case hr => first | (go_simp; done) | (go_simp; rfl)); (case hp => exact (Reps.one (show Kd.M Kd.string _ _ _ a0 [.string a0] from rfl) (Reps.one (show Kd.M Kd.string _ _ _ a1 [.string a1] from rfl) (Reps.none _ _)))); intro v151 w16 ho17 hb hg_ hnew_; clear hg_ hnew_; (first | rw [← Ny150.out] at ho17 | (simp only [Int.reduceToNat] at ho17; rw [← Ny150.out] at ho17)); have n0_ := Aside0.mk (Kd.R_lower ho17 (below_size (by repeat (first | (with_reducible first | exact HB.out | apply below_alloc | apply pw_below_drewN | apply below_drew1) | exact HB.out)))); have n1_ := Aside0.mk (below_step (by repeat (first | (with_reducible first | exact HB.out | apply below_alloc | apply pw_below_drewN | apply below_drew1) | exact HB.out)) hb); clear HB; have HO152 := n0_; have HB := n1_; clear n0_ n1_; clear hb ho17; obtain ⟨Ao18, co18, eo18⟩ := Kd.R_slice HO152.out; subst eo18) | ((with_reducible refine gate_callee (f := 21) rfl ?_); refine goesL_ (some 16) rfl rfl Tryd.func21 (by kernel_rfl) rfl #[.slice Ao18 y150.length co18] rfl (by (try simp only [List.map_toArray, List.map_cons, List.map_nil]); first | done | rfl | (simp only [List.length_drop, List.length_take]; rfl)) ?_; (with_reducible refine (laws_plain9.calls kj2 _ _ y150 true _ ?side1 ?side2 A6.out).mono ?_); (case side1 => repeat (first | exact (Kd.R_reads' HO152.out).2.2 | (with_reducible refine Kd.C_alloc ?_ _) | (with_reducible refine Kd.C_drewN ?_ _) | (with_reducible refine Kd.C_drew ?_))); (case side2 => exact (Kd.R_reads' HO152.out).2.1); rintro e w' ⟨rfl, ⟨nd, rfl⟩⟩; refine ⟨_, rfl, ?_⟩) | (go_at_call 34; (with_reducible refine (impl_InitialsBy.calls a0 a1 t154 _ A12.out).mono ?_); rintro e w19 ⟨rfl, hb⟩; have n0_ := Aside0.mk (Kd.R_below (by (with_reducible repeat (first | apply Kd.R_alloc | apply Kd.R_drewN | apply Kd.R_drew)); exact HO152.out) hb); have n1_ := Aside0.mk (below_step (by repeat (first | (with_reducible first | exact HB.out | apply below_alloc | apply pw_below_drewN | apply below_drew1) | exact HB.out)) hb); clear HO152; clear HB; have HO152 := n0_; have HB := n1_; clear n0_ n1_; (try clear hb); (try clear hb2); (try clear hk); (try clear hi)) | (go_at_call 35; (with_reducible refine (spec_InitialsBy.calls kj2 a0 a1 t155 _ A13.out).mono ?_); rintro e w20 ⟨rfl, hb⟩; have n0_ := Aside0.mk (Kd.R_below (by (with_reducible repeat (first | apply Kd.R_alloc | apply Kd.R_drewN | apply Kd.R_drew)); exact HO152.out) hb); have n1_ := Aside0.mk (below_step (by repeat (first | (with_reducible first | exact HB.out | apply below_alloc | apply pw_below_drewN | apply below_drew1) | exact HB.out)) hb); clear HO152; clear HB; have HO152 := n0_; have HB := n1_; clear n0_ n1_; (try clear hb); (try clear hb2); (try clear hk); (try clear hi)) | (go_at_call 34; (with_reducible refine (impl_InitialsBy.calls (⟨#[97, 98]⟩ : ByteArray) (⟨#[]⟩ : ByteArray) t156 _ A15.out).mono ?_); rintro e w21 ⟨rfl, hb⟩; have n0_ := Aside0.mk (Kd.R_below (by (with_reducible repeat (first | apply Kd.R_alloc | apply Kd.R_drewN | apply Kd.R_drew)); exact HO152.out) hb); have n1_ := Aside0.mk (below_step (by repeat (first | (with_reducible first | exact HB.out | apply below_alloc | apply pw_below_drewN | apply below_drew1) | exact HB.out)) hb); clear HO152; clear HB; have HO152 := n0_; have HB := n1_; clear n0_ n1_; (try clear hb); (try clear hb2); (try clear hk); (try clear hi)))
              go_ret
              exact ⟨by first | rfl | (simp [errW_none, errW_some] <;> rfl) | (simp [*, errW_none, errW_some] <;> rfl), by repeat (first | (with_reducible first | exact HB.out | apply below_alloc | apply pw_below_drewN | apply below_drew1) | exact HB.out)⟩
            · rw [if_neg c14] at H
              have c14b0 : (t154.toList == t155.toList) = false := beq_eq_false_iff_ne.mpr c14
              have c14b1 : (t154.toList != t155.toList) = true := bne_iff_ne.mpr c14
              obtain rfl := Option.some.inj H
              go_wp2_with (first | ((with_reducible refine gate_dst (N := 15) rfl ?_); (try (refine gate_guard (by rfl) ?_; dsimp only)); refine Kd.R_lit Kd.string _ 9 ?hg (N := 15) ?hd (xs := ([a0, a1] : List ByteArray)) (inner := [.string a0, .string a1]) (ok := fun _ => True) (okp := fun _ => True) ?hr ?hp (fun _ hk => hk) trivial (Below.refl _ _) (Nat.le_refl _) (by simp) ?_; (case hd => rfl); (case hg => rfl); (case hr => first | (go_simp; done) | (go_simp; rfl)); (case hp => exact (Reps.one (show Kd.M Kd.string _ _ _ a0 [.string a0] from rfl) (Reps.one (show Kd.M Kd.string _ _ _ a1 [.string a1] from rfl) (Reps.none _ _)))); intro v151 w22 ho23 hb hg_ hnew_; clear hg_ hnew_; (first | rw [← Ny150.out] at ho23 | (simp only [Int.reduceToNat] at ho23; rw [← Ny150.out] at ho23)); have n0_ := Aside0.mk (Kd.R_lower ho23 (below_size (by repeat (first | (with_reducible first | exact HB.out | apply below_alloc | apply pw_below_drewN | apply below_drew1) | exact HB.out)))); have n1_ := Aside0.mk (below_step (by repeat (first | (with_reducible first | exact HB.out | apply below_alloc | apply pw_below_drewN | apply below_drew1) | exact HB.out)) hb); clear HB; have HO152 := n0_; have HB := n1_; clear n0_ n1_; clear hb ho23; obtain ⟨Ao24, co24, eo24⟩ := Kd.R_slice HO152.out; subst eo24) | ((with_reducible refine gate_callee (f := 21) rfl ?_); refine goesL_ (some 16) rfl rfl Tryd.func21 (by kernel_rfl) rfl #[.slice Ao24 y150.length co24] rfl (by (try simp only [List.map_toArray, List.map_cons, List.map_nil]); first | done | rfl | (simp only [List.length_drop, List.length_take]; rfl)) ?_; (with_reducible refine (laws_plain9.calls kj2 _ _ y150 true _ ?side1 ?side2 A6.out).mono ?_); (case side1 => repeat (first | exact (Kd.R_reads' HO152.out).2.2 | (with_reducible refine Kd.C_alloc ?_ _) | (with_reducible refine Kd.C_drewN ?_ _) | (with_reducible refine Kd.C_drew ?_))); (case side2 => exact (Kd.R_reads' HO152.out).2.1); rintro e w' ⟨rfl, ⟨nd, rfl⟩⟩; refine ⟨_, rfl, ?_⟩) | (go_at_call 34; (with_reducible refine (impl_InitialsBy.calls a0 a1 t154 _ A12.out).mono ?_); rintro e w25 ⟨rfl, hb⟩; have n0_ := Aside0.mk (Kd.R_below (by (with_reducible repeat (first | apply Kd.R_alloc | apply Kd.R_drewN | apply Kd.R_drew)); exact HO152.out) hb); have n1_ := Aside0.mk (below_step (by repeat (first | (with_reducible first | exact HB.out | apply below_alloc | apply pw_below_drewN | apply below_drew1) | exact HB.out)) hb); clear HO152; clear HB; have HO152 := n0_; have HB := n1_; clear n0_ n1_; (try clear hb); (try clear hb2); (try clear hk); (try clear hi)) | (go_at_call 35; (with_reducible refine (spec_InitialsBy.calls kj2 a0 a1 t155 _ A13.out).mono ?_); rintro e w26 ⟨rfl, hb⟩; have n0_ := Aside0.mk (Kd.R_below (by (with_reducible repeat (first | apply Kd.R_alloc | apply Kd.R_drewN | apply Kd.R_drew)); exact HO152.out) hb); have n1_ := Aside0.mk (below_step (by repeat (first | (with_reducible first | exact HB.out | apply below_alloc | apply pw_below_drewN | apply below_drew1) | exact HB.out)) hb); clear HO152; clear HB; have HO152 := n0_; have HB := n1_; clear n0_ n1_; (try clear hb); (try clear hb2); (try clear hk); (try clear hi)))
              go_ret
              exact ⟨by first | rfl | (simp [errW_none, errW_some] <;> rfl) | (simp [*, errW_none, errW_some] <;> rfl), by repeat (first | (with_reducible first | exact HB.out | apply below_alloc | apply pw_below_drewN | apply below_drew1) | exact HB.out)⟩
        · replace c7 := Bool.eq_false_iff.mpr c7
          subst c7
          have H1 : (some true) = some r := by rw [if_neg (show ¬ (false = true) by decide)] at H; exact H
          clear H
          have H := H1
          clear H1
          obtain rfl := Option.some.inj H
          go_wp2_with (first | ((with_reducible refine gate_dst (N := 15) rfl ?_); (try (refine gate_guard (by rfl) ?_; dsimp only)); refine Kd.R_lit Kd.string _ 9 ?hg (N := 15) ?hd (xs := ([a0, a1] : List ByteArray)) (inner := [.string a0, .string a1]) (ok := fun _ => True) (okp := fun _ => True) ?hr ?hp (fun _ hk => hk) trivial (Below.refl _ _) (Nat.le_refl _) (by simp) ?_; (case hd => rfl); (case hg => rfl); (case hr => first | (go_simp; done) | (go_simp; rfl)); (case hp => exact (Reps.one (show Kd.M Kd.string _ _ _ a0 [.string a0] from rfl) (Reps.one (show Kd.M Kd.string _ _ _ a1 [.string a1] from rfl) (Reps.none _ _)))); intro v151 w27 ho28 hb hg_ hnew_; clear hg_ hnew_; (first | rw [← Ny150.out] at ho28 | (simp only [Int.reduceToNat] at ho28; rw [← Ny150.out] at ho28)); have n0_ := Aside0.mk (Kd.R_lower ho28 (below_size (by repeat (first | (with_reducible first | exact HB.out | apply below_alloc | apply pw_below_drewN | apply below_drew1) | exact HB.out)))); have n1_ := Aside0.mk (below_step (by repeat (first | (with_reducible first | exact HB.out | apply below_alloc | apply pw_below_drewN | apply below_drew1) | exact HB.out)) hb); clear HB; have HO152 := n0_; have HB := n1_; clear n0_ n1_; clear hb ho28; obtain ⟨Ao29, co29, eo29⟩ := Kd.R_slice HO152.out; subst eo29) | ((with_reducible refine gate_callee (f := 21) rfl ?_); refine goesL_ (some 16) rfl rfl Tryd.func21 (by kernel_rfl) rfl #[.slice Ao29 y150.length co29] rfl (by (try simp only [List.map_toArray, List.map_cons, List.map_nil]); first | done | rfl | (simp only [List.length_drop, List.length_take]; rfl)) ?_; (with_reducible refine (laws_plain9.calls kj2 _ _ y150 false _ ?side1 ?side2 A6.out).mono ?_); (case side1 => repeat (first | exact (Kd.R_reads' HO152.out).2.2 | (with_reducible refine Kd.C_alloc ?_ _) | (with_reducible refine Kd.C_drewN ?_ _) | (with_reducible refine Kd.C_drew ?_))); (case side2 => exact (Kd.R_reads' HO152.out).2.1); rintro e w' ⟨rfl, ⟨nd, rfl⟩⟩; refine ⟨_, rfl, ?_⟩))
          go_ret
          exact ⟨by first | rfl | (simp [errW_none, errW_some] <;> rfl) | (simp [*, errW_none, errW_some] <;> rfl), by repeat (first | (with_reducible first | exact HB.out | apply below_alloc | apply pw_below_drewN | apply below_drew1) | exact HB.out)⟩

/-- THE ONE PURE STATEMENT of laws_FnInitialsBy: yours. -/
def laws_FnInitialsBy.Pure : Prop := ∀ (a0 : ByteArray) (a1 : ByteArray), a0.size ≤ 140737488351232 → a1.size ≤ 140737488351232 → ∃ k, laws_FnInitialsBy.f k a0 a1 = some true
theorem laws_FnInitialsBy.walk (P : laws_FnInitialsBy.Pure) (a0 : ByteArray) (a1 : ByteArray) (w : World) (w0 : a0.size ≤ 140737488351232) (w1 : a1.size ≤ 140737488351232) :
    Calls Tryd.prog 9 #[.string a0, .string a1] w fun e w' => e = .returned (.bool true) ∧ Below w.heap.size w w' := by
  obtain ⟨k, h⟩ := P a0 a1 w0 w1
  refine (laws_FnInitialsBy.calls k a0 a1 true w h).mono ?_
  rintro e w' ⟨rfl, hd⟩
  exact ⟨rfl, hd⟩


end Go.Proofs.YtpkdoinofenahaaDoor.PFnInitialsBy
