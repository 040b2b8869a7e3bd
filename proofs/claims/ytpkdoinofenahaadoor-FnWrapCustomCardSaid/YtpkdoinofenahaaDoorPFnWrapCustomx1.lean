-- Written by gprint.py (a program of this session, over the kit's print) out of Lean's own print of the program.
import Derived.Test.YtpkdoinofenahaaDoorPFnWrapCustomx0
namespace Go.Proofs.YtpkdoinofenahaaDoor.PFnWrapCustom
open Go.Proofs.YtpkdoinofenahaaDoor.Giv
open Go.RowKit Go.Proofs.YtpkdoinofenahaaDoorW.PrintWords Go.Proofs.YtpkdoinofenahaaDoorW.PrintLast Go.Proofs.YtpkdoinofenahaaDoorW.PrintMore
attribute [local go_sem] max2_int min2_int max_two min_two max_three min_three max_four min_four   -- for this text's walks alone
set_option linter.unusedVariables false
set_option linter.unusedSimpArgs false

/-! ### spec_ASCII: function 51 -/
def spec_ASCII.l0 : Nat → ByteArray → Int → Option (Bool)
  | 0, _, _ => none
  | k + 1, x0, x3 => if x3 < (x0.size : Int) then (if 0 ≤ x3 then (if (bt x0 x3) ≥ 128 then (some false) else (spec_ASCII.l0 k x0 (wrap64 (x3 + 1)))) else (none)) else (some true)
def spec_ASCII.f (k : Nat) (a0 : ByteArray) : Option (Bool) := spec_ASCII.l0 k a0 0
theorem spec_ASCII.mono_l : ∀ k, (∀ y0 y1, LeO (spec_ASCII.l0 k y0 y1) (spec_ASCII.l0 (k + 1) y0 y1))
  | 0 => fun _ _ r h => by simp [spec_ASCII.l0] at h
  | k + 1 => by
    have ih0 := spec_ASCII.mono_l k
    · intro y0 y1
      unfold spec_ASCII.l0
      repeat' first
      | (with_reducible exact ih0 _ _)
      | (with_reducible exact LeO.refl _)
      | (with_reducible exact LeO.none _)
      | (with_reducible refine LeO.ite ?_ ?_)
      | (with_reducible refine LeO.bind ?_ (fun _ => ?_))
      | exact ih0 _ _
      | exact LeO.none _
      | refine LeO.ite ?_ ?_
      | refine LeO.bind ?_ (fun _ => ?_)
theorem spec_ASCII.mono : ∀ a0 k, LeO (spec_ASCII.f k a0) (spec_ASCII.f (k + 1) a0) := by
  intro a0 k
  have ih0 := spec_ASCII.mono_l k
  unfold spec_ASCII.f
  repeat' first
      | (with_reducible exact ih0 _ _)
      | (with_reducible exact LeO.refl _)
      | (with_reducible exact LeO.none _)
      | (with_reducible refine LeO.ite ?_ ?_)
      | (with_reducible refine LeO.bind ?_ (fun _ => ?_))
      | exact ih0 _ _
      | exact LeO.none _
      | refine LeO.ite ?_ ?_
      | refine LeO.bind ?_ (fun _ => ?_)
set_option maxHeartbeats 8000000 in
set_option maxRecDepth 100000 in
theorem spec_ASCII.calls (k : Nat) (a0 : ByteArray) (r : Bool) (w : World) (h : spec_ASCII.f k a0 = some r) :
    Calls Tryd.prog 51 #[.string a0] w fun e w' => e = .returned (.bool r) ∧ Drawn0 w w' := by
  have H : (spec_ASCII.l0 k a0 0) = some r := h
  clear h
  have H' := Aside0.mk H
  clear H
  go_enter Tryd.func51, Tryd.ntmps51
  go_wp2
  go_loopg [3] k (fun kq v3 w' => ∃ (x3_1 : Int), v3 = .int .i64 x3_1 ∧ Aside0 (spec_ASCII.l0 kq a0 x3_1 = some r) ∧ Aside0 (kq ≤ k) ∧ Drawn0 w w')
  case atStart => exact ⟨(0), (by first | rfl | (simp; done) | (simp [*]; done)), H', ⟨Nat.le_refl _⟩, by repeat (first | exact Drawn0.refl _ | apply Drawn0.step)⟩
  case round =>
    clear H'
    obtain ⟨x3_1, rfl, HA, HK1, ⟨m1, rfl⟩⟩ := hrel
    cases gk with
    | zero => exact absurd HA.out (by simp [spec_ASCII.l0])
    | succ k1 =>
      have H := HA.out
      clear HA
      simp only [spec_ASCII.l0] at H
      by_cases c2 : x3_1 < (a0.size : Int)
      · rw [if_pos c2] at H
        have c2b0 : decide (x3_1 < (a0.size : Int)) = true := decide_eq_true c2
        clear c2
        by_cases c3 : 0 ≤ x3_1
        · rw [if_pos c3] at H
          have c3b0 : decide (0 ≤ x3_1) = true := decide_eq_true c3
          clear c3
          by_cases c5 : (bt a0 x3_1) ≥ 128
          · rw [if_pos c5] at H
            have c5b0 : decide (128 ≤ (bt a0 x3_1)) = true := decide_eq_true c5
            clear c5
            obtain rfl := Option.some.inj H
            have p4 : 0 ≤ (x3_1 : Int) := of_decide_eq_true (by first | (with_reducible assumption) | assumption)
            have q4 : x3_1 < (a0.size : Int) := of_decide_eq_true (by first | (with_reducible assumption) | assumption)
            have hx4 := bt_at a0 x3_1
            replace p4 := eq_true p4
            replace q4 := eq_true q4
            go_wp2
            go_ret
            exact ⟨by first | rfl | (simp; done) | (simp [*]; done), by repeat (first | exact Drawn0.refl _ | apply Drawn0.step)⟩
          · rw [if_neg c5] at H
            have c5b0 : decide (128 ≤ (bt a0 x3_1)) = false := decide_eq_false c5
            clear c5
            have H' := Aside0.mk H
            clear H
            have p4 : 0 ≤ (x3_1 : Int) := of_decide_eq_true (by first | (with_reducible assumption) | assumption)
            have q4 : x3_1 < (a0.size : Int) := of_decide_eq_true (by first | (with_reducible assumption) | assumption)
            have hx4 := bt_at a0 x3_1
            replace p4 := eq_true p4
            replace q4 := eq_true q4
            go_wp2
            go_roundg k1
            case measure => have := HK1.out; omega
            case rel => exact ⟨(wrap64 (x3_1 + 1)), (by first | rfl | (simp; done) | (simp [*]; done)), H', ⟨by have := HK1.out; omega⟩, by repeat (first | exact Drawn0.refl _ | apply Drawn0.step)⟩
        · rw [if_neg c3] at H
          exact absurd H (by simp)
      · rw [if_neg c2] at H
        have c2b0 : decide (x3_1 < (a0.size : Int)) = false := decide_eq_false c2
        clear c2
        obtain rfl := Option.some.inj H
        go_wp2
        go_ret
        exact ⟨by first | rfl | (simp; done) | (simp [*]; done), by repeat (first | exact Drawn0.refl _ | apply Drawn0.step)⟩

/-! ### laws_plain9: function 21 -/
def laws_plain9.l0 : Nat → List ByteArray → Int → Int → Option (Bool)
  | 0, _, _, _ => none
  | k + 1, x0, x5, x6 => if x6 < x5 then (if 0 ≤ x6 then (if x6 < (x0.length : Int) then (if ((rdOf ByteArray.empty x0 x6).size : Int) > 500 then (some false) else ((spec_ASCII.f k (rdOf ByteArray.empty x0 x6)).bind fun t103 => (if t103 = true then (laws_plain9.l0 k x0 x5 (wrap64 (x6 + 1))) else (some false)))) else (none)) else (none)) else (some true)
def laws_plain9.f (k : Nat) (l0 : List ByteArray) : Option (Bool) := laws_plain9.l0 k l0 (l0.length : Int) 0
theorem laws_plain9.mono_l : ∀ k, (∀ y0 y1 y2, LeO (laws_plain9.l0 k y0 y1 y2) (laws_plain9.l0 (k + 1) y0 y1 y2))
  | 0 => fun _ _ _ r h => by simp [laws_plain9.l0] at h
  | k + 1 => by
    have ih0 := laws_plain9.mono_l k
    · intro y0 y1 y2
      unfold laws_plain9.l0
      repeat' first
      | (with_reducible exact ih0 _ _ _)
      | (with_reducible exact spec_ASCII.mono _ _)
      | (with_reducible exact LeO.refl _)
      | (with_reducible exact LeO.none _)
      | (with_reducible refine LeO.ite ?_ ?_)
      | (with_reducible refine LeO.bind ?_ (fun _ => ?_))
      | exact ih0 _ _ _
      | exact spec_ASCII.mono _ _
      | exact LeO.none _
      | refine LeO.ite ?_ ?_
      | refine LeO.bind ?_ (fun _ => ?_)
theorem laws_plain9.mono : ∀ a0 k, LeO (laws_plain9.f k a0) (laws_plain9.f (k + 1) a0) := by
  intro a0 k
  have ih0 := laws_plain9.mono_l k
  unfold laws_plain9.f
  repeat' first
      | (with_reducible exact ih0 _ _ _)
      | (with_reducible exact spec_ASCII.mono _ _)
      | (with_reducible exact LeO.refl _)
      | (with_reducible exact LeO.none _)
      | (with_reducible refine LeO.ite ?_ ?_)
      | (with_reducible refine LeO.bind ?_ (fun _ => ?_))
      | exact ih0 _ _ _
      | exact spec_ASCII.mono _ _
      | exact LeO.none _
      | refine LeO.ite ?_ ?_
      | refine LeO.bind ?_ (fun _ => ?_)
set_option maxHeartbeats 8000000 in
set_option maxRecDepth 100000 in
theorem laws_plain9.calls (k : Nat) (A0 : Option Addr) (c0 : Nat) (l0 : List ByteArray) (r : Bool) (w : World) (hr0 : Kd.C Kd.string w A0 l0.length l0) (hc0 : l0.length ≤ c0) (h : laws_plain9.f k l0 = some r) :
    Calls Tryd.prog 21 #[.slice A0 l0.length c0] w fun e w' => e = .returned (.bool r) ∧ Drawn0 w w' := by
  have HR0 := Aside0.mk hr0
  have HC0 := Aside0.mk hc0
  clear hr0 hc0
  have H : (laws_plain9.l0 k l0 (l0.length : Int) 0) = some r := h
  clear h
  have H' := Aside0.mk H
  clear H
  go_enter Tryd.func21, Tryd.ntmps21
  go_wp2
  go_loopg [6] k (fun kq v6 w' => ∃ (x6_1 : Int), v6 = .int .i64 x6_1 ∧ Aside0 (laws_plain9.l0 kq l0 (l0.length : Int) x6_1 = some r) ∧ Aside0 (kq ≤ k) ∧ Drawn0 w w')
  case atStart => exact ⟨(0), (by first | rfl | (simp; done) | (simp [*]; done)), H', ⟨Nat.le_refl _⟩, by repeat (first | exact Drawn0.refl _ | apply Drawn0.step)⟩
  case round =>
    clear H'
    obtain ⟨x6_1, rfl, HA, HK1, ⟨m1, rfl⟩⟩ := hrel
    cases gk with
    | zero => exact absurd HA.out (by simp [laws_plain9.l0])
    | succ k1 =>
      have H := HA.out
      clear HA
      simp only [laws_plain9.l0] at H
      by_cases c2 : x6_1 < (l0.length : Int)
      · rw [if_pos c2] at H
        have c2b0 : decide (x6_1 < (l0.length : Int)) = true := decide_eq_true c2
        clear c2
        by_cases c3 : 0 ≤ x6_1
        · rw [if_pos c3] at H
          have c3b0 : decide (0 ≤ x6_1) = true := decide_eq_true c3
          clear c3
          by_cases c4 : x6_1 < (l0.length : Int)
          · rw [if_pos c4] at H
            have c4b0 : decide (x6_1 < (l0.length : Int)) = true := decide_eq_true c4
            clear c4
            by_cases c5 : ((rdOf ByteArray.empty l0 x6_1).size : Int) > 500
            · rw [if_pos c5] at H
              have c5b0 : decide (500 < ((rdOf ByteArray.empty l0 x6_1).size : Int)) = true := decide_eq_true c5
              have c5b1 : decide (500 < (rdOf ByteArray.empty l0 x6_1).size) = true := decide_eq_true (by omega)
              clear c5
              obtain rfl := Option.some.inj H
              have p101 : 0 ≤ (x6_1 : Int) := of_decide_eq_true (by first | (with_reducible assumption) | assumption)
              have q101 : x6_1 < (l0.length : Int) := of_decide_eq_true (by first | (with_reducible assumption) | assumption)
              obtain ⟨ad101, e101, hx101_0⟩ := Kd.at_string HR0.out x6_1 p101 q101
              cases e101
              replace p101 := eq_true p101
              replace q101 := eq_true q101
              go_wp2
              go_ret
              exact ⟨by first | rfl | (simp; done) | (simp [*]; done), by repeat (first | exact Drawn0.refl _ | apply Drawn0.step)⟩
            · rw [if_neg c5] at H
              have c5b0 : decide (500 < ((rdOf ByteArray.empty l0 x6_1).size : Int)) = false := decide_eq_false c5
              have c5b1 : decide (500 < (rdOf ByteArray.empty l0 x6_1).size) = false := decide_eq_false (by omega)
              clear c5
              replace H := Option.bind_eq_some_iff.mp H
              obtain ⟨t103, A60, H⟩ := H
              replace H : (if t103 = true then (laws_plain9.l0 k1 l0 (l0.length : Int) (wrap64 (x6_1 + 1))) else (some false)) = some r := H
              have A6 := Aside0.mk A60
              clear A60
              by_cases c7 : t103 = true
              · subst c7
                have H1 : (laws_plain9.l0 k1 l0 (l0.length : Int) (wrap64 (x6_1 + 1))) = some r := by rw [if_pos rfl] at H; exact H
                clear H
                have H := H1
                clear H1
                have H' := Aside0.mk H
                clear H
                have p101 : 0 ≤ (x6_1 : Int) := of_decide_eq_true (by first | (with_reducible assumption) | assumption)
                have q101 : x6_1 < (l0.length : Int) := of_decide_eq_true (by first | (with_reducible assumption) | assumption)
                obtain ⟨ad101, e101, hx101_0⟩ := Kd.at_string HR0.out x6_1 p101 q101
                cases e101
                replace p101 := eq_true p101
                replace q101 := eq_true q101
                have p102 : 0 ≤ (x6_1 : Int) := of_decide_eq_true (by first | (with_reducible assumption) | assumption)
                have q102 : x6_1 < (l0.length : Int) := of_decide_eq_true (by first | (with_reducible assumption) | assumption)
                obtain ⟨ad102, e102, hx102_0⟩ := Kd.at_string HR0.out x6_1 p102 q102
                obtain rfl : ad101 = ad102 := (by injection e102)
                replace p102 := eq_true p102
                replace q102 := eq_true q102
                go_wp2_with (first | (go_at_call 51; (with_reducible refine (spec_ASCII.calls k1 (rdOf ByteArray.empty l0 x6_1) true _ A6.out).mono ?_); rintro e w' ⟨rfl, ⟨nd, rfl⟩⟩))
                go_roundg k1
                case measure => have := HK1.out; omega
                case rel => exact ⟨(wrap64 (x6_1 + 1)), (by first | rfl | (simp; done) | (simp [*]; done)), H', ⟨by have := HK1.out; omega⟩, by repeat (first | exact Drawn0.refl _ | apply Drawn0.step)⟩
              · replace c7 := Bool.eq_false_iff.mpr c7
                subst c7
                have H1 : (some false) = some r := by rw [if_neg (show ¬ (false = true) by decide)] at H; exact H
                clear H
                have H := H1
                clear H1
                obtain rfl := Option.some.inj H
                have p101 : 0 ≤ (x6_1 : Int) := of_decide_eq_true (by first | (with_reducible assumption) | assumption)
                have q101 : x6_1 < (l0.length : Int) := of_decide_eq_true (by first | (with_reducible assumption) | assumption)
                obtain ⟨ad101, e101, hx101_0⟩ := Kd.at_string HR0.out x6_1 p101 q101
                cases e101
                replace p101 := eq_true p101
                replace q101 := eq_true q101
                have p102 : 0 ≤ (x6_1 : Int) := of_decide_eq_true (by first | (with_reducible assumption) | assumption)
                have q102 : x6_1 < (l0.length : Int) := of_decide_eq_true (by first | (with_reducible assumption) | assumption)
                obtain ⟨ad102, e102, hx102_0⟩ := Kd.at_string HR0.out x6_1 p102 q102
                obtain rfl : ad101 = ad102 := (by injection e102)
                replace p102 := eq_true p102
                replace q102 := eq_true q102
                go_wp2_with (first | (go_at_call 51; (with_reducible refine (spec_ASCII.calls k1 (rdOf ByteArray.empty l0 x6_1) false _ A6.out).mono ?_); rintro e w' ⟨rfl, ⟨nd, rfl⟩⟩))
                go_ret
                exact ⟨by first | rfl | (simp; done) | (simp [*]; done), by repeat (first | exact Drawn0.refl _ | apply Drawn0.step)⟩
          · rw [if_neg c4] at H
            exact absurd H (by simp)
        · rw [if_neg c3] at H
          exact absurd H (by simp)
      · rw [if_neg c2] at H
        have c2b0 : decide (x6_1 < (l0.length : Int)) = false := decide_eq_false c2
        clear c2
        obtain rfl := Option.some.inj H
        go_wp2
        go_ret
        exact ⟨by first | rfl | (simp; done) | (simp [*]; done), by repeat (first | exact Drawn0.refl _ | apply Drawn0.step)⟩

/-! ### laws_far9: function 28 -/
def laws_far9.f (a0 : Int) : Option (Bool) := if a0 < (-1000000) then (some true) else (some (decide (a0 > 1000000)))
set_option maxHeartbeats 8000000 in
set_option maxRecDepth 100000 in
theorem laws_far9.calls (a0 : Int) (r : Bool) (w : World) (h : laws_far9.f a0 = some r) :
    Calls Tryd.prog 28 #[.int .i64 a0] w fun e w' => e = .returned (.bool r) ∧ Drawn0 w w' := by
  have H : (if a0 < (-1000000) then (some true) else (some (decide (a0 > 1000000)))) = some r := h
  clear h
  by_cases c2 : a0 < (-1000000)
  · rw [if_pos c2] at H
    have c2b0 : decide (a0 < (-1000000)) = true := decide_eq_true c2
    clear c2
    obtain rfl := Option.some.inj H
    go_enter Tryd.func28, Tryd.ntmps28
    go_wp2
    go_ret
    exact ⟨by first | rfl | (simp; done) | (simp [*]; done), by repeat (first | exact Drawn0.refl _ | apply Drawn0.step)⟩
  · rw [if_neg c2] at H
    have c2b0 : decide (a0 < (-1000000)) = false := decide_eq_false c2
    clear c2
    obtain rfl := Option.some.inj H
    go_enter Tryd.func28, Tryd.ntmps28
    go_wp2
    go_ret
    exact ⟨by first | rfl | (simp; done) | (simp [*]; done), by repeat (first | exact Drawn0.refl _ | apply Drawn0.step)⟩

/-! ### impl_WrapCustom: function 29 -/
def impl_WrapCustom.f (a0 : ByteArray) (a1 : Int) (a2 : ByteArray) (a3 : Bool) : Option (ByteArray) := (goutils_WrapCustom.f a0 a1 a2 a3).bind fun t111 => (some t111)
set_option maxHeartbeats 8000000 in
set_option maxRecDepth 100000 in
theorem impl_WrapCustom.calls (a0 : ByteArray) (a1 : Int) (a2 : ByteArray) (a3 : Bool) (r : ByteArray) (w : World) (h : impl_WrapCustom.f a0 a1 a2 a3 = some r) :
    Calls Tryd.prog 29 #[.string a0, .int .i64 a1, .string a2, .bool a3] w fun e w' => e = .returned (.string r) ∧ Below w.heap.size w w' := by
  have HB := Aside0.mk (Below.refl w.heap.size w)
  have H : ((goutils_WrapCustom.f a0 a1 a2 a3).bind fun t111 => (some t111)) = some r := h
  clear h
  replace H := Option.bind_eq_some_iff.mp H
  obtain ⟨t111, A50, H⟩ := H
  replace H : (some t111) = some r := H
  have A5 := Aside0.mk A50
  clear A50
  obtain rfl := Option.some.inj H
  go_enter Tryd.func29, Tryd.ntmps29
  go_wp2_with (first | ((with_reducible refine gate_callee (f := 55) rfl ?_); refine goesL_ (some 13) rfl rfl Tryd.func55 (by kernel_rfl) rfl #[.string a0, .int .i64 a1, .string a2, .bool a3] rfl (by (try simp only [List.map_toArray, List.map_cons, List.map_nil]); first | done | rfl | (simp only [List.length_drop, List.length_take]; rfl)) ?_; (with_reducible refine (goutils_WrapCustom.calls a0 a1 a2 a3 t111 _ A5.out).mono ?_); rintro e w6 ⟨rfl, hb⟩; refine ⟨_, rfl, ?_⟩; have n0_ := Aside0.mk (below_step (by repeat (first | (with_reducible first | exact HB.out | apply below_alloc | apply pw_below_drewN | apply below_drew1) | exact HB.out)) hb); clear HB; have HB := n0_; clear n0_; (try clear hb); (try clear hb2); (try clear hk); (try clear hi)))
  go_ret
  exact ⟨by first | rfl | (simp [errW_none, errW_some] <;> rfl) | (simp [*, errW_none, errW_some] <;> rfl), by repeat (first | (with_reducible first | exact HB.out | apply below_alloc | apply pw_below_drewN | apply below_drew1) | exact HB.out)⟩

/-! ### spec_lastBlank: function 56 -/
def spec_lastBlank.l0 : Nat → ByteArray → Int → Int → Option (Int)
  | 0, _, _, _ => none
  | k + 1, x0, x1, x7 => if x7 ≥ x1 then (if 0 ≤ x7 then (if x7 < (x0.size : Int) then (if (bt x0 x7) = 32 then (some x7) else (spec_lastBlank.l0 k x0 x1 (wrap64 (x7 - 1)))) else (none)) else (none)) else (some (-1))
def spec_lastBlank.f (k : Nat) (a0 : ByteArray) (a1 : Int) (a2 : Int) : Option (Int) := spec_lastBlank.l0 k a0 a1 (wrap64 ((mn a2 (a0.size : Int)) - 1))
theorem spec_lastBlank.mono_l : ∀ k, (∀ y0 y1 y2, LeO (spec_lastBlank.l0 k y0 y1 y2) (spec_lastBlank.l0 (k + 1) y0 y1 y2))
  | 0 => fun _ _ _ r h => by simp [spec_lastBlank.l0] at h
  | k + 1 => by
    have ih0 := spec_lastBlank.mono_l k
    · intro y0 y1 y2
      unfold spec_lastBlank.l0
      repeat' first
      | (with_reducible exact ih0 _ _ _)
      | (with_reducible exact LeO.refl _)
      | (with_reducible exact LeO.none _)
      | (with_reducible refine LeO.ite ?_ ?_)
      | (with_reducible refine LeO.bind ?_ (fun _ => ?_))
      | exact ih0 _ _ _
      | exact LeO.none _
      | refine LeO.ite ?_ ?_
      | refine LeO.bind ?_ (fun _ => ?_)
theorem spec_lastBlank.mono : ∀ a0 a1 a2 k, LeO (spec_lastBlank.f k a0 a1 a2) (spec_lastBlank.f (k + 1) a0 a1 a2) := by
  intro a0 a1 a2 k
  have ih0 := spec_lastBlank.mono_l k
  unfold spec_lastBlank.f
  repeat' first
      | (with_reducible exact ih0 _ _ _)
      | (with_reducible exact LeO.refl _)
      | (with_reducible exact LeO.none _)
      | (with_reducible refine LeO.ite ?_ ?_)
      | (with_reducible refine LeO.bind ?_ (fun _ => ?_))
      | exact ih0 _ _ _
      | exact LeO.none _
      | refine LeO.ite ?_ ?_
      | refine LeO.bind ?_ (fun _ => ?_)
set_option maxHeartbeats 8000000 in
set_option maxRecDepth 100000 in
theorem spec_lastBlank.calls (k : Nat) (a0 : ByteArray) (a1 : Int) (a2 : Int) (r : Int) (w : World) (h : spec_lastBlank.f k a0 a1 a2 = some r) :
    Calls Tryd.prog 56 #[.string a0, .int .i64 a1, .int .i64 a2] w fun e w' => e = .returned (.int .i64 r) ∧ Below w.heap.size w w' := by
  have HB := Aside0.mk (Below.refl w.heap.size w)
  have H : (spec_lastBlank.l0 k a0 a1 (wrap64 ((mn a2 (a0.size : Int)) - 1))) = some r := h
  clear h
  obtain ⟨ji4, hji4⟩ : ∃ j_ : Int, (mn a2 (a0.size : Int)) = j_ := ⟨_, rfl⟩
  replace H : (spec_lastBlank.l0 k a0 a1 (wrap64 ((ji4) - 1))) = some r := by first | (rw [hji4] at H; exact H) | (simp only [hji4] at H ⊢; exact H)
  have hji4_ : (if (a0.size : Int) < a2 then (a0.size : Int) else a2) = ji4 := hji4
  have H' := Aside0.mk H
  clear H
  go_enter Tryd.func56, Tryd.ntmps56
  go_wp2
  go_loopg [7] k (fun kq v7 w' => ∃ (x7_1 : Int), v7 = .int .i64 x7_1 ∧ Aside0 (spec_lastBlank.l0 kq a0 a1 x7_1 = some r) ∧ Aside0 (kq ≤ k) ∧ Aside0 (Below w.heap.size w w'))
  case atStart => exact ⟨(wrap64 ((ji4) - 1)), (by first | rfl | (simp; done) | (simp only [← hji4] <;> (first | rfl | simp)) | (simp [*]; done)), H', ⟨Nat.le_refl _⟩, ⟨by repeat (first | (with_reducible first | exact HB.out | apply below_alloc | apply pw_below_drewN | apply below_drew1) | exact HB.out)⟩⟩
  case round =>
    clear H'
    try clear p2
    obtain ⟨x7_1, rfl, HA, HK1, HB⟩ := hrel
    cases gk with
    | zero => exact absurd HA.out (by simp [spec_lastBlank.l0])
    | succ k1 =>
      have H := HA.out
      clear HA
      simp only [spec_lastBlank.l0] at H
      by_cases c5 : x7_1 ≥ a1
      · rw [if_pos c5] at H
        have c5b0 : decide (a1 ≤ x7_1) = true := decide_eq_true c5
        clear c5
        by_cases c6 : 0 ≤ x7_1
        · rw [if_pos c6] at H
          have c6b0 : decide (0 ≤ x7_1) = true := decide_eq_true c6
          clear c6
          by_cases c7 : x7_1 < (a0.size : Int)
          · rw [if_pos c7] at H
            have c7b0 : decide (x7_1 < (a0.size : Int)) = true := decide_eq_true c7
            clear c7
            by_cases c9 : (bt a0 x7_1) = 32
            · rw [if_pos c9] at H
              have c9b0 : ((bt a0 x7_1) == 32) = true := beq_iff_eq.mpr c9
              have c9b1 : ((bt a0 x7_1) != 32) = false := bne_eq_false_iff_eq.mpr c9
              clear c9
              obtain rfl := Option.some.inj H
              have p8 : 0 ≤ (x7_1 : Int) := of_decide_eq_true (by first | (with_reducible assumption) | assumption)
              have q8 : x7_1 < (a0.size : Int) := of_decide_eq_true (by first | (with_reducible assumption) | assumption)
              have hx8 := bt_at a0 x7_1
              replace p8 := eq_true p8
              replace q8 := eq_true q8
              go_wp2
              go_ret
              exact ⟨by first | rfl | (simp [errW_none, errW_some] <;> rfl) | (simp only [← hji4]; first | rfl | (simp [errW_none, errW_some] <;> rfl)) | (simp [*, errW_none, errW_some] <;> rfl), by repeat (first | (with_reducible first | exact HB.out | apply below_alloc | apply pw_below_drewN | apply below_drew1) | exact HB.out)⟩
            · rw [if_neg c9] at H
              have c9b0 : ((bt a0 x7_1) == 32) = false := beq_eq_false_iff_ne.mpr c9
              have c9b1 : ((bt a0 x7_1) != 32) = true := bne_iff_ne.mpr c9
              have H' := Aside0.mk H
              clear H
              have p8 : 0 ≤ (x7_1 : Int) := of_decide_eq_true (by first | (with_reducible assumption) | assumption)
              have q8 : x7_1 < (a0.size : Int) := of_decide_eq_true (by first | (with_reducible assumption) | assumption)
              have hx8 := bt_at a0 x7_1
              replace p8 := eq_true p8
              replace q8 := eq_true q8
              go_wp2
              go_roundg k1
              case measure => have := HK1.out; omega
              case rel => exact ⟨(wrap64 (x7_1 - 1)), (by first | rfl | (simp; done) | (simp [*]; done)), H', ⟨by have := HK1.out; omega⟩, ⟨by repeat (first | (with_reducible first | exact HB.out | apply below_alloc | apply pw_below_drewN | apply below_drew1) | exact HB.out)⟩⟩
          · rw [if_neg c7] at H
            exact absurd H (by simp)
        · rw [if_neg c6] at H
          exact absurd H (by simp)
      · rw [if_neg c5] at H
        have c5b0 : decide (a1 ≤ x7_1) = false := decide_eq_false c5
        clear c5
        obtain rfl := Option.some.inj H
        go_wp2
        go_ret
        exact ⟨by first | rfl | (simp [errW_none, errW_some] <;> rfl) | (simp only [← hji4]; first | rfl | (simp [errW_none, errW_some] <;> rfl)) | (simp [*, errW_none, errW_some] <;> rfl), by repeat (first | (with_reducible first | exact HB.out | apply below_alloc | apply pw_below_drewN | apply below_drew1) | exact HB.out)⟩

/-! ### spec_nextBlank: function 57 -/
def spec_nextBlank.l0 : Nat → ByteArray → Int → Option (Int)
  | 0, _, _ => none
  | k + 1, x0, x5 => if x5 < (x0.size : Int) then (if 0 ≤ x5 then (if (bt x0 x5) = 32 then (some x5) else (spec_nextBlank.l0 k x0 (wrap64 (x5 + 1)))) else (none)) else (some (-1))
def spec_nextBlank.f (k : Nat) (a0 : ByteArray) (a1 : Int) : Option (Int) := spec_nextBlank.l0 k a0 a1
theorem spec_nextBlank.mono_l : ∀ k, (∀ y0 y1, LeO (spec_nextBlank.l0 k y0 y1) (spec_nextBlank.l0 (k + 1) y0 y1))
  | 0 => fun _ _ r h => by simp [spec_nextBlank.l0] at h
  | k + 1 => by
    have ih0 := spec_nextBlank.mono_l k
    · intro y0 y1
      unfold spec_nextBlank.l0
      repeat' first
      | (with_reducible exact ih0 _ _)
      | (with_reducible exact LeO.refl _)
      | (with_reducible exact LeO.none _)
      | (with_reducible refine LeO.ite ?_ ?_)
      | (with_reducible refine LeO.bind ?_ (fun _ => ?_))
      | exact ih0 _ _
      | exact LeO.none _
      | refine LeO.ite ?_ ?_
      | refine LeO.bind ?_ (fun _ => ?_)
theorem spec_nextBlank.mono : ∀ a0 a1 k, LeO (spec_nextBlank.f k a0 a1) (spec_nextBlank.f (k + 1) a0 a1) := by
  intro a0 a1 k
  have ih0 := spec_nextBlank.mono_l k
  unfold spec_nextBlank.f
  repeat' first
      | (with_reducible exact ih0 _ _)
      | (with_reducible exact LeO.refl _)
      | (with_reducible exact LeO.none _)
      | (with_reducible refine LeO.ite ?_ ?_)
      | (with_reducible refine LeO.bind ?_ (fun _ => ?_))
      | exact ih0 _ _
      | exact LeO.none _
      | refine LeO.ite ?_ ?_
      | refine LeO.bind ?_ (fun _ => ?_)
set_option maxHeartbeats 8000000 in
set_option maxRecDepth 100000 in
theorem spec_nextBlank.calls (k : Nat) (a0 : ByteArray) (a1 : Int) (r : Int) (w : World) (h : spec_nextBlank.f k a0 a1 = some r) :
    Calls Tryd.prog 57 #[.string a0, .int .i64 a1] w fun e w' => e = .returned (.int .i64 r) ∧ Drawn0 w w' := by
  have H : (spec_nextBlank.l0 k a0 a1) = some r := h
  clear h
  have H' := Aside0.mk H
  clear H
  go_enter Tryd.func57, Tryd.ntmps57
  go_wp2
  go_loopg [5] k (fun kq v5 w' => ∃ (x5_1 : Int), v5 = .int .i64 x5_1 ∧ Aside0 (spec_nextBlank.l0 kq a0 x5_1 = some r) ∧ Aside0 (kq ≤ k) ∧ Drawn0 w w')
  case atStart => exact ⟨(a1), (by first | rfl | (simp; done) | (simp [*]; done)), H', ⟨Nat.le_refl _⟩, by repeat (first | exact Drawn0.refl _ | apply Drawn0.step)⟩
  case round =>
    clear H'
    try clear p2
    obtain ⟨x5_1, rfl, HA, HK1, ⟨m1, rfl⟩⟩ := hrel
    cases gk with
    | zero => exact absurd HA.out (by simp [spec_nextBlank.l0])
    | succ k1 =>
      have H := HA.out
      clear HA
      simp only [spec_nextBlank.l0] at H
      by_cases c3 : x5_1 < (a0.size : Int)
      · rw [if_pos c3] at H
        have c3b0 : decide (x5_1 < (a0.size : Int)) = true := decide_eq_true c3
        clear c3
        by_cases c4 : 0 ≤ x5_1
        · rw [if_pos c4] at H
          have c4b0 : decide (0 ≤ x5_1) = true := decide_eq_true c4
          clear c4
          by_cases c6 : (bt a0 x5_1) = 32
          · rw [if_pos c6] at H
            have c6b0 : ((bt a0 x5_1) == 32) = true := beq_iff_eq.mpr c6
            have c6b1 : ((bt a0 x5_1) != 32) = false := bne_eq_false_iff_eq.mpr c6
            clear c6
            obtain rfl := Option.some.inj H
            have p5 : 0 ≤ (x5_1 : Int) := of_decide_eq_true (by first | (with_reducible assumption) | assumption)
            have q5 : x5_1 < (a0.size : Int) := of_decide_eq_true (by first | (with_reducible assumption) | assumption)
            have hx5 := bt_at a0 x5_1
            replace p5 := eq_true p5
            replace q5 := eq_true q5
            go_wp2
            go_ret
            exact ⟨by first | rfl | (simp; done) | (simp [*]; done), by repeat (first | exact Drawn0.refl _ | apply Drawn0.step)⟩
          · rw [if_neg c6] at H
            have c6b0 : ((bt a0 x5_1) == 32) = false := beq_eq_false_iff_ne.mpr c6
            have c6b1 : ((bt a0 x5_1) != 32) = true := bne_iff_ne.mpr c6
            have H' := Aside0.mk H
            clear H
            have p5 : 0 ≤ (x5_1 : Int) := of_decide_eq_true (by first | (with_reducible assumption) | assumption)
            have q5 : x5_1 < (a0.size : Int) := of_decide_eq_true (by first | (with_reducible assumption) | assumption)
            have hx5 := bt_at a0 x5_1
            replace p5 := eq_true p5
            replace q5 := eq_true q5
            go_wp2
            go_roundg k1
            case measure => have := HK1.out; omega
            case rel => exact ⟨(wrap64 (x5_1 + 1)), (by first | rfl | (simp; done) | (simp [*]; done)), H', ⟨by have := HK1.out; omega⟩, by repeat (first | exact Drawn0.refl _ | apply Drawn0.step)⟩
        · rw [if_neg c4] at H
          exact absurd H (by simp)
      · rw [if_neg c3] at H
        have c3b0 : decide (x5_1 < (a0.size : Int)) = false := decide_eq_false c3
        clear c3
        obtain rfl := Option.some.inj H
        go_wp2
        go_ret
        exact ⟨by first | rfl | (simp; done) | (simp [*]; done), by repeat (first | exact Drawn0.refl _ | apply Drawn0.step)⟩

/-! ### spec_Wrapped: function 30 -/
mutual
def spec_Wrapped.j0 : Nat → ByteArray → Int → ByteArray → Bool → Option (ByteArray)
  | 0, _, _, _, _ => none
  | k + 1, x0, x1, x2, x3 => spec_Wrapped.l0 k x0 x1 x2 x3 (⟨#[]⟩ : ByteArray)
def spec_Wrapped.l0 : Nat → ByteArray → Int → ByteArray → Bool → ByteArray → Option (ByteArray)
  | 0, _, _, _, _, _ => none
  | k + 1, x0, x1, x2, x3, x9 => if (x0.size : Int) > x1 then (if 0 < (x0.size : Int) then (if (bt x0 0) = 32 then (if 1 ≤ (x0.size : Int) then (spec_Wrapped.l0 k (x0.extract 1 x0.size) x1 x2 x3 x9) else (none)) else ((spec_lastBlank.f k x0 0 (wrap64 (x1 + 1))).bind fun t112 => (if t112 ≥ 0 then (if 0 ≤ t112 then (if t112 ≤ (x0.size : Int) then (if x9.size + (x0.extract 0 (t112 : Int).toNat).size ≤ 9223372036854775807 then (if (x9 ++ (x0.extract 0 (t112 : Int).toNat)).size + x2.size ≤ 9223372036854775807 then (if 0 ≤ (wrap64 (t112 + 1)) then (if (wrap64 (t112 + 1)) ≤ (x0.size : Int) then (spec_Wrapped.l0 k (x0.extract ((wrap64 (t112 + 1)) : Int).toNat x0.size) x1 x2 x3 ((x9 ++ (x0.extract 0 (t112 : Int).toNat)) ++ x2)) else (none)) else (none)) else (none)) else (none)) else (none)) else (none)) else (if x3 = true then (if 0 ≤ x1 then (if x1 ≤ (x0.size : Int) then (if x9.size + (x0.extract 0 (x1 : Int).toNat).size ≤ 9223372036854775807 then (if (x9 ++ (x0.extract 0 (x1 : Int).toNat)).size + x2.size ≤ 9223372036854775807 then (spec_Wrapped.l0 k (x0.extract (x1 : Int).toNat x0.size) x1 x2 x3 ((x9 ++ (x0.extract 0 (x1 : Int).toNat)) ++ x2)) else (none)) else (none)) else (none)) else (none)) else ((spec_nextBlank.f k x0 x1).bind fun t113 => (if t113 < 0 then (if x9.size + x0.size ≤ 9223372036854775807 then (some (x9 ++ x0)) else (none)) else (if 0 ≤ t113 then (if t113 ≤ (x0.size : Int) then (if x9.size + (x0.extract 0 (t113 : Int).toNat).size ≤ 9223372036854775807 then (if (x9 ++ (x0.extract 0 (t113 : Int).toNat)).size + x2.size ≤ 9223372036854775807 then (if 0 ≤ (wrap64 (t113 + 1)) then (if (wrap64 (t113 + 1)) ≤ (x0.size : Int) then (spec_Wrapped.l0 k (x0.extract ((wrap64 (t113 + 1)) : Int).toNat x0.size) x1 x2 x3 ((x9 ++ (x0.extract 0 (t113 : Int).toNat)) ++ x2)) else (none)) else (none)) else (none)) else (none)) else (none)) else (none)))))))) else (none)) else (if x9.size + x0.size ≤ 9223372036854775807 then (some (x9 ++ x0)) else (none))
end
def spec_Wrapped.f (k : Nat) (a0 : ByteArray) (a1 : Int) (a2 : ByteArray) (a3 : Bool) : Option (ByteArray) := if a2.toList = ([] : List UInt8) then (spec_Wrapped.j0 k a0 (mx a1 1) (⟨#[10]⟩ : ByteArray) a3) else (spec_Wrapped.j0 k a0 (mx a1 1) a2 a3)
theorem spec_Wrapped.mono_l : ∀ k, (∀ y0 y1 y2 y3, LeO (spec_Wrapped.j0 k y0 y1 y2 y3) (spec_Wrapped.j0 (k + 1) y0 y1 y2 y3)) ∧ (∀ y0 y1 y2 y3 y4, LeO (spec_Wrapped.l0 k y0 y1 y2 y3 y4) (spec_Wrapped.l0 (k + 1) y0 y1 y2 y3 y4))
  | 0 => ⟨fun _ _ _ _ r h => by simp [spec_Wrapped.j0] at h, fun _ _ _ _ _ r h => by simp [spec_Wrapped.l0] at h⟩
  | k + 1 => by
    obtain ⟨ih0, ih1⟩ := spec_Wrapped.mono_l k
    refine ⟨?_, ?_⟩
    · intro y0 y1 y2 y3
      unfold spec_Wrapped.j0
      repeat' first
      | (with_reducible exact ih0 _ _ _ _)
      | (with_reducible exact ih1 _ _ _ _ _)
      | (with_reducible exact spec_lastBlank.mono _ _ _ _)
      | (with_reducible exact spec_nextBlank.mono _ _ _)
      | (with_reducible exact LeO.refl _)
      | (with_reducible exact LeO.none _)
      | (with_reducible refine LeO.ite ?_ ?_)
      | (with_reducible refine LeO.bind ?_ (fun _ => ?_))
      | exact ih0 _ _ _ _
      | exact ih1 _ _ _ _ _
      | exact spec_lastBlank.mono _ _ _ _
      | exact spec_nextBlank.mono _ _ _
      | exact LeO.none _
      | refine LeO.ite ?_ ?_
      | refine LeO.bind ?_ (fun _ => ?_)
    · intro y0 y1 y2 y3 y4
      unfold spec_Wrapped.l0
      repeat' first
      | (with_reducible exact ih0 _ _ _ _)
      | (with_reducible exact ih1 _ _ _ _ _)
      | (with_reducible exact spec_lastBlank.mono _ _ _ _)
      | (with_reducible exact spec_nextBlank.mono _ _ _)
      | (with_reducible exact LeO.refl _)
      | (with_reducible exact LeO.none _)
      | (with_reducible refine LeO.ite ?_ ?_)
      | (with_reducible refine LeO.bind ?_ (fun _ => ?_))
      | exact ih0 _ _ _ _
      | exact ih1 _ _ _ _ _
      | exact spec_lastBlank.mono _ _ _ _
      | exact spec_nextBlank.mono _ _ _
      | exact LeO.none _
      | refine LeO.ite ?_ ?_
      | refine LeO.bind ?_ (fun _ => ?_)
theorem spec_Wrapped.mono : ∀ a0 a1 a2 a3 k, LeO (spec_Wrapped.f k a0 a1 a2 a3) (spec_Wrapped.f (k + 1) a0 a1 a2 a3) := by
  intro a0 a1 a2 a3 k
  obtain ⟨ih0, ih1⟩ := spec_Wrapped.mono_l k
  unfold spec_Wrapped.f
  repeat' first
      | (with_reducible exact ih0 _ _ _ _)
      | (with_reducible exact ih1 _ _ _ _ _)
      | (with_reducible exact spec_lastBlank.mono _ _ _ _)
      | (with_reducible exact spec_nextBlank.mono _ _ _)
      | (with_reducible exact LeO.refl _)
      | (with_reducible exact LeO.none _)
      | (with_reducible refine LeO.ite ?_ ?_)
      | (with_reducible refine LeO.bind ?_ (fun _ => ?_))
      | exact ih0 _ _ _ _
      | exact ih1 _ _ _ _ _
      | exact spec_lastBlank.mono _ _ _ _
      | exact spec_nextBlank.mono _ _ _
      | exact LeO.none _
      | refine LeO.ite ?_ ?_
      | refine LeO.bind ?_ (fun _ => ?_)
set_option maxHeartbeats 8000000 in
set_option maxRecDepth 100000 in
theorem spec_Wrapped.calls (k : Nat) (a0 : ByteArray) (a1 : Int) (a2 : ByteArray) (a3 : Bool) (r : ByteArray) (w : World) (h : spec_Wrapped.f k a0 a1 a2 a3 = some r) :
    Calls Tryd.prog 30 #[.string a0, .int .i64 a1, .string a2, .bool a3] w fun e w' => e = .returned (.string r) ∧ Below w.heap.size w w' := by
  have HB := Aside0.mk (Below.refl w.heap.size w)
  have H : (if a2.toList = ([] : List UInt8) then (spec_Wrapped.j0 k a0 (mx a1 1) (⟨#[10]⟩ : ByteArray) a3) else (spec_Wrapped.j0 k a0 (mx a1 1) a2 a3)) = some r := h
  clear h
  obtain ⟨ji5, hji5⟩ : ∃ j_ : Int, (mx a1 1) = j_ := ⟨_, rfl⟩
  replace H : (if a2.toList = ([] : List UInt8) then (spec_Wrapped.j0 k a0 ji5 (⟨#[10]⟩ : ByteArray) a3) else (spec_Wrapped.j0 k a0 ji5 a2 a3)) = some r := by first | (rw [hji5] at H; exact H) | (simp only [hji5] at H ⊢; exact H)
  (try (have hji5l : 1 ≤ ji5 := by (rw [← hji5]; unfold mx; (repeat' split) <;> omega)))
  (try (have hji5m : 0 ≤ ji5 := by omega))
  have hji5_ : (if a1 < 1 then 1 else a1) = ji5 := hji5
  have HC6 := Aside0.mk H
  clear H
  go_enter Tryd.func30, Tryd.ntmps30
  go_upto_if 14 with (fail)
  repeat (go_quiet (fail); go_upto_if 14 with (fail))
  go_cut [2] (fun v2 wc => ∃ (kq : Nat) (x2_5 : ByteArray), v2 = .string x2_5 ∧ Aside0 (spec_Wrapped.j0 kq a0 ji5 x2_5 a3 = some r) ∧ Aside0 (kq ≤ k) ∧ Aside0 (Below w.heap.size w wc))
  case first =>
    have H := HC6.out
    clear HC6
    by_cases c7 : a2.toList = ([] : List UInt8)
    · rw [if_pos c7] at H
      have c7b0 : (a2.toList == ([] : List UInt8)) = true := beq_iff_eq.mpr c7
      have c7b9 : a2.toList.isEmpty = true := List.isEmpty_iff.mpr c7
      have c7b1 : (a2.toList != ([] : List UInt8)) = false := bne_eq_false_iff_eq.mpr c7
      clear c7
      (first | rw [c7b0] | (simp only [i64_w, i32_w]; rw [c7b0]) | rw [c7b9] | skip)
      have H' := Aside0.mk H
      clear H
      go_wp2
      repeat (go_quiet (fail); try go_wp2)
      go_meet
      case rel => exact ⟨_, ((⟨#[10]⟩ : ByteArray)), (by first | rfl | (simp; done) | (simp [*]; done)), H', ⟨by first | omega | exact Nat.le_refl _⟩, ⟨by repeat (first | (with_reducible first | exact HB.out | apply below_alloc | apply pw_below_drewN | apply below_drew1) | exact HB.out)⟩⟩
    · rw [if_neg c7] at H
      have c7b0 : (a2.toList == ([] : List UInt8)) = false := beq_eq_false_iff_ne.mpr c7
      have c7b9 : a2.toList.isEmpty = false := Bool.eq_false_iff.mpr (fun h => c7 (List.isEmpty_iff.mp h))
      have c7b1 : (a2.toList != ([] : List UInt8)) = true := bne_iff_ne.mpr c7
      (first | rw [c7b0] | (simp only [i64_w, i32_w]; rw [c7b0]) | rw [c7b9] | skip)
      have H' := Aside0.mk H
      clear H
      go_wp2
      repeat (go_quiet (fail); try go_wp2)
      go_meet
      case rel => exact ⟨_, (a2), (by first | rfl | (simp; done) | (simp [*]; done)), H', ⟨by first | omega | exact Nat.le_refl _⟩, ⟨by repeat (first | (with_reducible first | exact HB.out | apply below_alloc | apply pw_below_drewN | apply below_drew1) | exact HB.out)⟩⟩
  case rest =>
    clear HC6
    try clear p2
    try clear c3
    try clear c7
    try clear c7b0
    try clear c7b1
    obtain ⟨kq, x2_5, rfl, HA, HJ5, HB⟩ := hcut
    cases kq with
    | zero => exact absurd HA.out (by simp [spec_Wrapped.j0])
    | succ kj5 =>
      have H := HA.out
      clear HA
      simp only [spec_Wrapped.j0] at H
      have H' := Aside0.mk H
      clear H
      go_wp2
      repeat (go_quiet (fail); try go_wp2)
      go_loopg [0, 9] kj5 (fun kq v0 v9 w' => ∃ (x0_2 : ByteArray) (x9_2 : ByteArray), v0 = .string x0_2 ∧ v9 = .string x9_2 ∧ Aside0 (spec_Wrapped.l0 kq x0_2 ji5 x2_5 a3 x9_2 = some r) ∧ Aside0 (kq ≤ kj5) ∧ Aside0 (Below w.heap.size w w'))
      case atStart => exact ⟨(a0), ((⟨#[]⟩ : ByteArray)), (by first | rfl | (simp; done) | (simp [*]; done)), (by first | rfl | (simp; done) | (simp [*]; done)), H', ⟨Nat.le_refl _⟩, ⟨by repeat (first | (with_reducible first | exact HB.out | apply below_alloc | apply pw_below_drewN | apply below_drew1) | exact HB.out)⟩⟩
      case round =>
        clear H'
        try clear p2
        try clear c3
        try clear c7
        try clear c7b0
        try clear c7b1
        try clear p2
        obtain ⟨x0_2, x9_2, rfl, rfl, HA, HK2, HB⟩ := hrel
        cases gk with
        | zero => exact absurd HA.out (by simp [spec_Wrapped.l0])
        | succ k2 =>
          have H := HA.out
          clear HA
          simp only [spec_Wrapped.l0] at H
          by_cases c8 : (x0_2.size : Int) > ji5
          · rw [if_pos c8] at H
            have c8b0 : decide (ji5 < (x0_2.size : Int)) = true := decide_eq_true c8
            clear c8
            by_cases c9 : 0 < (x0_2.size : Int)
            · rw [if_pos c9] at H
              have c9b0 : decide (0 < (x0_2.size : Int)) = true := decide_eq_true c9
              have c9b1 : decide (0 < x0_2.size) = true := decide_eq_true (by omega)
              clear c9
              by_cases c11 : (bt x0_2 0) = 32
              · rw [if_pos c11] at H
                have c11b0 : ((bt x0_2 0) == 32) = true := beq_iff_eq.mpr c11
                have c11b1 : ((bt x0_2 0) != 32) = false := bne_eq_false_iff_eq.mpr c11
                clear c11
                by_cases c12 : 1 ≤ (x0_2.size : Int)
                · rw [if_pos c12] at H
                  have c12b0 := eq_true c12
                  have c12b1 : decide (1 ≤ (x0_2.size : Int)) = true := decide_eq_true c12
                  clear c12
                  have H' := Aside0.mk H
                  clear H
                  have p10 : 0 ≤ (0 : Int) := (by omega)
                  have q10 : 0 < x0_2.size := (by have : (0 : Int) < (x0_2.size : Int) := of_decide_eq_true (by first | (with_reducible assumption) | assumption); omega)
                  have hx10 : ∀ h : 0 < x0_2.size, ((x0_2[0]'h).toNat : Int) = bt x0_2 0 := bt_at x0_2 0
                  clear p10
                  have qi10 : (0 < (x0_2.size : Int)) = True := eq_true (of_decide_eq_true (by first | (with_reducible assumption) | assumption))
                  replace q10 := eq_true q10
                  go_wp2
                  repeat (go_quiet (fail); try go_wp2)
                  go_roundg k2
                  case measure => have := HJ5.out; have := HK2.out; omega
                  case rel => exact ⟨(x0_2.extract 1 x0_2.size), (x9_2), (by first | rfl | (simp; done) | (simp [*]; done)), (by first | rfl | (simp; done) | (simp [*]; done)), H', ⟨by have := HJ5.out; have := HK2.out; omega⟩, ⟨by repeat (first | (with_reducible first | exact HB.out | apply below_alloc | apply pw_below_drewN | apply below_drew1) | exact HB.out)⟩⟩
                · rw [if_neg c12] at H
                  exact absurd H (by simp)
              · rw [if_neg c11] at H
                have c11b0 : ((bt x0_2 0) == 32) = false := beq_eq_false_iff_ne.mpr c11
                have c11b1 : ((bt x0_2 0) != 32) = true := bne_iff_ne.mpr c11
                replace H := Option.bind_eq_some_iff.mp H
                obtain ⟨t112, A130, H⟩ := H
                replace H : (if t112 ≥ 0 then (if 0 ≤ t112 then (if t112 ≤ (x0_2.size : Int) then (if x9_2.size + (x0_2.extract 0 (t112 : Int).toNat).size ≤ 9223372036854775807 then (if (x9_2 ++ (x0_2.extract 0 (t112 : Int).toNat)).size + x2_5.size ≤ 9223372036854775807 then (if 0 ≤ (wrap64 (t112 + 1)) then (if (wrap64 (t112 + 1)) ≤ (x0_2.size : Int) then (spec_Wrapped.l0 k2 (x0_2.extract ((wrap64 (t112 + 1)) : Int).toNat x0_2.size) ji5 x2_5 a3 ((x9_2 ++ (x0_2.extract 0 (t112 : Int).toNat)) ++ x2_5)) else (none)) else (none)) else (none)) else (none)) else (none)) else (none)) else (if a3 = true then (if 0 ≤ ji5 then (if ji5 ≤ (x0_2.size : Int) then (if x9_2.size + (x0_2.extract 0 (ji5 : Int).toNat).size ≤ 9223372036854775807 then (if (x9_2 ++ (x0_2.extract 0 (ji5 : Int).toNat)).size + x2_5.size ≤ 9223372036854775807 then (spec_Wrapped.l0 k2 (x0_2.extract (ji5 : Int).toNat x0_2.size) ji5 x2_5 a3 ((x9_2 ++ (x0_2.extract 0 (ji5 : Int).toNat)) ++ x2_5)) else (none)) else (none)) else (none)) else (none)) else ((spec_nextBlank.f k2 x0_2 ji5).bind fun t113 => (if t113 < 0 then (if x9_2.size + x0_2.size ≤ 9223372036854775807 then (some (x9_2 ++ x0_2)) else (none)) else (if 0 ≤ t113 then (if t113 ≤ (x0_2.size : Int) then (if x9_2.size + (x0_2.extract 0 (t113 : Int).toNat).size ≤ 9223372036854775807 then (if (x9_2 ++ (x0_2.extract 0 (t113 : Int).toNat)).size + x2_5.size ≤ 9223372036854775807 then (if 0 ≤ (wrap64 (t113 + 1)) then (if (wrap64 (t113 + 1)) ≤ (x0_2.size : Int) then (spec_Wrapped.l0 k2 (x0_2.extract ((wrap64 (t113 + 1)) : Int).toNat x0_2.size) ji5 x2_5 a3 ((x9_2 ++ (x0_2.extract 0 (t113 : Int).toNat)) ++ x2_5)) else (none)) else (none)) else (none)) else (none)) else (none)) else (none)))))) = some r := H
                have A13 := Aside0.mk A130
                clear A130
                by_cases c14 : t112 ≥ 0
                · rw [if_pos c14] at H
                  have c14b0 : decide (0 ≤ t112) = true := decide_eq_true c14
                  clear c14
                  by_cases c15 : 0 ≤ t112
                  · rw [if_pos c15] at H
                    have c15b0 := eq_true c15
                    have c15b1 : decide (0 ≤ t112) = true := decide_eq_true c15
                    clear c15
                    by_cases c16 : t112 ≤ (x0_2.size : Int)
                    · rw [if_pos c16] at H
                      have c16b0 := eq_true c16
                      have c16b1 : decide (t112 ≤ (x0_2.size : Int)) = true := decide_eq_true c16
                      clear c16
                      by_cases c17 : x9_2.size + (x0_2.extract 0 (t112 : Int).toNat).size ≤ 9223372036854775807
                      · rw [if_pos c17] at H
                        have c17b0 := eq_true c17
                        have c17b1 : decide (x9_2.size + (x0_2.extract 0 (t112 : Int).toNat).size ≤ 9223372036854775807) = true := decide_eq_true c17
                        try have c17b2 : (9223372036854775807 < x9_2.size + (x0_2.extract 0 (t112 : Int).toNat).size) = False := eq_false (Nat.not_lt.2 c17)
                        by_cases c18 : (x9_2 ++ (x0_2.extract 0 (t112 : Int).toNat)).size + x2_5.size ≤ 9223372036854775807
                        · rw [if_pos c18] at H
                          have c18b0 := eq_true c18
                          have c18b1 : decide ((x9_2 ++ (x0_2.extract 0 (t112 : Int).toNat)).size + x2_5.size ≤ 9223372036854775807) = true := decide_eq_true c18
                          try have c18b2 : (9223372036854775807 < (x9_2 ++ (x0_2.extract 0 (t112 : Int).toNat)).size + x2_5.size) = False := eq_false (Nat.not_lt.2 c18)
                          obtain ⟨ji19, hji19⟩ : ∃ j_ : Int, (wrap64 (t112 + 1)) = j_ := ⟨_, rfl⟩
                          replace H : (if 0 ≤ (ji19) then (if (ji19) ≤ (x0_2.size : Int) then (spec_Wrapped.l0 k2 (x0_2.extract ((ji19) : Int).toNat x0_2.size) ji5 x2_5 a3 ((x9_2 ++ (x0_2.extract 0 (t112 : Int).toNat)) ++ x2_5)) else (none)) else (none)) = some r := by first | (rw [hji19] at H; exact H) | (simp only [hji19] at H ⊢; exact H)
                          (try rw [hji19] at A13)
                          have hji19w : (IntKind.i64.wrap (t112 + 1)) = ji19 := (i64_w _).trans hji19
                          by_cases c20 : 0 ≤ (ji19)
                          · rw [if_pos c20] at H
                            have c20b0 := eq_true c20
                            have c20b1 : decide (0 ≤ (ji19)) = true := decide_eq_true c20
                            clear c20
                            by_cases c21 : (ji19) ≤ (x0_2.size : Int)
                            · rw [if_pos c21] at H
                              have c21b0 := eq_true c21
                              have c21b1 : decide ((ji19) ≤ (x0_2.size : Int)) = true := decide_eq_true c21
                              clear c21
                              have H' := Aside0.mk H
                              clear H
                              have p10 : 0 ≤ (0 : Int) := (by omega)
                              have q10 : 0 < x0_2.size := (by have : (0 : Int) < (x0_2.size : Int) := of_decide_eq_true (by first | (with_reducible assumption) | assumption); omega)
                              have hx10 : ∀ h : 0 < x0_2.size, ((x0_2[0]'h).toNat : Int) = bt x0_2 0 := bt_at x0_2 0
                              clear p10
                              have qi10 : (0 < (x0_2.size : Int)) = True := eq_true (of_decide_eq_true (by first | (with_reducible assumption) | assumption))
                              replace q10 := eq_true q10
                              go_wp2_with (first | (go_at_call 56; (with_reducible refine (spec_lastBlank.calls k2 x0_2 0 (wrap64 (ji5 + 1)) t112 _ A13.out).mono ?_); rintro e w22 ⟨rfl, hb⟩; have n0_ := Aside0.mk (below_step (by repeat (first | (with_reducible first | exact HB.out | apply below_alloc | apply pw_below_drewN | apply below_drew1) | exact HB.out)) hb); clear HB; have HB := n0_; clear n0_; (try clear hb); (try clear hb2); (try clear hk); (try clear hi)))
                              repeat (go_quiet (first | (go_at_call 56; (with_reducible refine (spec_lastBlank.calls k2 x0_2 0 (wrap64 (ji5 + 1)) t112 _ A13.out).mono ?_); rintro e w22 ⟨rfl, hb⟩; have n0_ := Aside0.mk (below_step (by repeat (first | (with_reducible first | exact HB.out | apply below_alloc | apply pw_below_drewN | apply below_drew1) | exact HB.out)) hb); clear HB; have HB := n0_; clear n0_; (try clear hb); (try clear hb2); (try clear hk); (try clear hi))); try go_wp2_with (first | (go_at_call 56; (with_reducible refine (spec_lastBlank.calls k2 x0_2 0 (wrap64 (ji5 + 1)) t112 _ A13.out).mono ?_); rintro e w22 ⟨rfl, hb⟩; have n0_ := Aside0.mk (below_step (by repeat (first | (with_reducible first | exact HB.out | apply below_alloc | apply pw_below_drewN | apply below_drew1) | exact HB.out)) hb); clear HB; have HB := n0_; clear n0_; (try clear hb); (try clear hb2); (try clear hk); (try clear hi))))
                              go_roundg k2
                              case measure => have := HJ5.out; have := HK2.out; omega
                              case rel => exact ⟨(x0_2.extract ((ji19) : Int).toNat x0_2.size), ((x9_2 ++ (x0_2.extract 0 (t112 : Int).toNat)) ++ x2_5), (by first | rfl | (simp; done) | (simp only [← hji19] <;> (first | rfl | simp)) | (simp [*]; done)), (by first | rfl | (simp; done) | (simp [*]; done)), H', ⟨by have := HJ5.out; have := HK2.out; omega⟩, ⟨by repeat (first | (with_reducible first | exact HB.out | apply below_alloc | apply pw_below_drewN | apply below_drew1) | exact HB.out)⟩⟩
                            · rw [if_neg c21] at H
                              exact absurd H (by simp)
                          · rw [if_neg c20] at H
                            exact absurd H (by simp)
                        · rw [if_neg c18] at H
                          exact absurd H (by simp)
                      · rw [if_neg c17] at H
                        exact absurd H (by simp)
                    · rw [if_neg c16] at H
                      exact absurd H (by simp)
                  · rw [if_neg c15] at H
                    exact absurd H (by simp)
                · rw [if_neg c14] at H
                  have c14b0 : decide (0 ≤ t112) = false := decide_eq_false c14
                  clear c14
                  by_cases c23 : a3 = true
                  · subst c23
                    have H1 : (if 0 ≤ ji5 then (if ji5 ≤ (x0_2.size : Int) then (if x9_2.size + (x0_2.extract 0 (ji5 : Int).toNat).size ≤ 9223372036854775807 then (if (x9_2 ++ (x0_2.extract 0 (ji5 : Int).toNat)).size + x2_5.size ≤ 9223372036854775807 then (spec_Wrapped.l0 k2 (x0_2.extract (ji5 : Int).toNat x0_2.size) ji5 x2_5 true ((x9_2 ++ (x0_2.extract 0 (ji5 : Int).toNat)) ++ x2_5)) else (none)) else (none)) else (none)) else (none)) = some r := by rw [if_pos rfl] at H; exact H
                    clear H
                    have H := H1
                    clear H1
                    by_cases c24 : 0 ≤ ji5
                    · rw [if_pos c24] at H
                      have c24b0 := eq_true c24
                      have c24b1 : decide (0 ≤ ji5) = true := decide_eq_true c24
                      clear c24
                      by_cases c25 : ji5 ≤ (x0_2.size : Int)
                      · rw [if_pos c25] at H
                        have c25b0 := eq_true c25
                        have c25b1 : decide (ji5 ≤ (x0_2.size : Int)) = true := decide_eq_true c25
                        clear c25
                        by_cases c26 : x9_2.size + (x0_2.extract 0 (ji5 : Int).toNat).size ≤ 9223372036854775807
                        · rw [if_pos c26] at H
                          have c26b0 := eq_true c26
                          have c26b1 : decide (x9_2.size + (x0_2.extract 0 (ji5 : Int).toNat).size ≤ 9223372036854775807) = true := decide_eq_true c26
                          try have c26b2 : (9223372036854775807 < x9_2.size + (x0_2.extract 0 (ji5 : Int).toNat).size) = False := eq_false (Nat.not_lt.2 c26)
                          by_cases c27 : (x9_2 ++ (x0_2.extract 0 (ji5 : Int).toNat)).size + x2_5.size ≤ 9223372036854775807
                          · rw [if_pos c27] at H
                            have c27b0 := eq_true c27
                            have c27b1 : decide ((x9_2 ++ (x0_2.extract 0 (ji5 : Int).toNat)).size + x2_5.size ≤ 9223372036854775807) = true := decide_eq_true c27
                            try have c27b2 : (9223372036854775807 < (x9_2 ++ (x0_2.extract 0 (ji5 : Int).toNat)).size + x2_5.size) = False := eq_false (Nat.not_lt.2 c27)
                            have c28b0 := eq_true (of_decide_eq_true (by first | (with_reducible assumption) | assumption) : 0 ≤ ji5)
                            have c29b0 := eq_true (of_decide_eq_true (by first | (with_reducible assumption) | assumption) : ji5 ≤ (x0_2.size : Int))
                            have H' := Aside0.mk H
                            clear H
                            have p10 : 0 ≤ (0 : Int) := (by omega)
                            have q10 : 0 < x0_2.size := (by have : (0 : Int) < (x0_2.size : Int) := of_decide_eq_true (by first | (with_reducible assumption) | assumption); omega)
                            have hx10 : ∀ h : 0 < x0_2.size, ((x0_2[0]'h).toNat : Int) = bt x0_2 0 := bt_at x0_2 0
                            clear p10
                            have qi10 : (0 < (x0_2.size : Int)) = True := eq_true (of_decide_eq_true (by first | (with_reducible assumption) | assumption))
                            replace q10 := eq_true q10
                            go_wp2_with (first | (go_at_call 56; (with_reducible refine (spec_lastBlank.calls k2 x0_2 0 (wrap64 (ji5 + 1)) t112 _ A13.out).mono ?_); rintro e w30 ⟨rfl, hb⟩; have n0_ := Aside0.mk (below_step (by repeat (first | (with_reducible first | exact HB.out | apply below_alloc | apply pw_below_drewN | apply below_drew1) | exact HB.out)) hb); clear HB; have HB := n0_; clear n0_; (try clear hb); (try clear hb2); (try clear hk); (try clear hi)))
                            repeat (go_quiet (first | (go_at_call 56; (with_reducible refine (spec_lastBlank.calls k2 x0_2 0 (wrap64 (ji5 + 1)) t112 _ A13.out).mono ?_); rintro e w30 ⟨rfl, hb⟩; have n0_ := Aside0.mk (below_step (by repeat (first | (with_reducible first | exact HB.out | apply below_alloc | apply pw_below_drewN | apply below_drew1) | exact HB.out)) hb); clear HB; have HB := n0_; clear n0_; (try clear hb); (try clear hb2); (try clear hk); (try clear hi))); try go_wp2_with (first | (go_at_call 56; (with_reducible refine (spec_lastBlank.calls k2 x0_2 0 (wrap64 (ji5 + 1)) t112 _ A13.out).mono ?_); rintro e w30 ⟨rfl, hb⟩; have n0_ := Aside0.mk (below_step (by repeat (first | (with_reducible first | exact HB.out | apply below_alloc | apply pw_below_drewN | apply below_drew1) | exact HB.out)) hb); clear HB; have HB := n0_; clear n0_; (try clear hb); (try clear hb2); (try clear hk); (try clear hi))))
                            go_roundg k2
                            case measure => have := HJ5.out; have := HK2.out; omega
                            case rel => exact ⟨(x0_2.extract (ji5 : Int).toNat x0_2.size), ((x9_2 ++ (x0_2.extract 0 (ji5 : Int).toNat)) ++ x2_5), (by first | rfl | (simp; done) | (simp only [← hji5] <;> (first | rfl | simp)) | (simp [*]; done)), (by first | rfl | (simp; done) | (simp only [← hji5] <;> (first | rfl | simp)) | (simp [*]; done)), H', ⟨by have := HJ5.out; have := HK2.out; omega⟩, ⟨by repeat (first | (with_reducible first | exact HB.out | apply below_alloc | apply pw_below_drewN | apply below_drew1) | exact HB.out)⟩⟩
                          · rw [if_neg c27] at H
                            exact absurd H (by simp)
                        · rw [if_neg c26] at H
                          exact absurd H (by simp)
                      · rw [if_neg c25] at H
                        exact absurd H (by simp)
                    · rw [if_neg c24] at H
                      exact absurd H (by simp)
                  · replace c23 := Bool.eq_false_iff.mpr c23
                    subst c23
                    have H1 : ((spec_nextBlank.f k2 x0_2 ji5).bind fun t113 => (if t113 < 0 then (if x9_2.size + x0_2.size ≤ 9223372036854775807 then (some (x9_2 ++ x0_2)) else (none)) else (if 0 ≤ t113 then (if t113 ≤ (x0_2.size : Int) then (if x9_2.size + (x0_2.extract 0 (t113 : Int).toNat).size ≤ 9223372036854775807 then (if (x9_2 ++ (x0_2.extract 0 (t113 : Int).toNat)).size + x2_5.size ≤ 9223372036854775807 then (if 0 ≤ (wrap64 (t113 + 1)) then (if (wrap64 (t113 + 1)) ≤ (x0_2.size : Int) then (spec_Wrapped.l0 k2 (x0_2.extract ((wrap64 (t113 + 1)) : Int).toNat x0_2.size) ji5 x2_5 false ((x9_2 ++ (x0_2.extract 0 (t113 : Int).toNat)) ++ x2_5)) else (none)) else (none)) else (none)) else (none)) else (none)) else (none)))) = some r := by rw [if_neg (show ¬ (false = true) by decide)] at H; exact H
                    clear H
                    have H := H1
                    clear H1
                    replace H := Option.bind_eq_some_iff.mp H
                    obtain ⟨t113, A310, H⟩ := H
                    replace H : (if t113 < 0 then (if x9_2.size + x0_2.size ≤ 9223372036854775807 then (some (x9_2 ++ x0_2)) else (none)) else (if 0 ≤ t113 then (if t113 ≤ (x0_2.size : Int) then (if x9_2.size + (x0_2.extract 0 (t113 : Int).toNat).size ≤ 9223372036854775807 then (if (x9_2 ++ (x0_2.extract 0 (t113 : Int).toNat)).size + x2_5.size ≤ 9223372036854775807 then (if 0 ≤ (wrap64 (t113 + 1)) then (if (wrap64 (t113 + 1)) ≤ (x0_2.size : Int) then (spec_Wrapped.l0 k2 (x0_2.extract ((wrap64 (t113 + 1)) : Int).toNat x0_2.size) ji5 x2_5 false ((x9_2 ++ (x0_2.extract 0 (t113 : Int).toNat)) ++ x2_5)) else (none)) else (none)) else (none)) else (none)) else (none)) else (none))) = some r := H
                    have A31 := Aside0.mk A310
                    clear A310
                    by_cases c32 : t113 < 0
                    · rw [if_pos c32] at H
                      have c32b0 : decide (t113 < 0) = true := decide_eq_true c32
                      clear c32
                      by_cases c33 : x9_2.size + x0_2.size ≤ 9223372036854775807
                      · rw [if_pos c33] at H
                        have c33b0 := eq_true c33
                        have c33b1 : decide (x9_2.size + x0_2.size ≤ 9223372036854775807) = true := decide_eq_true c33
                        try have c33b2 : (9223372036854775807 < x9_2.size + x0_2.size) = False := eq_false (Nat.not_lt.2 c33)
                        obtain rfl := Option.some.inj H
                        have p10 : 0 ≤ (0 : Int) := (by omega)
                        have q10 : 0 < x0_2.size := (by have : (0 : Int) < (x0_2.size : Int) := of_decide_eq_true (by first | (with_reducible assumption) | assumption); omega)
                        have hx10 : ∀ h : 0 < x0_2.size, ((x0_2[0]'h).toNat : Int) = bt x0_2 0 := bt_at x0_2 0
                        clear p10
                        have qi10 : (0 < (x0_2.size : Int)) = True := eq_true (of_decide_eq_true (by first | (with_reducible assumption) | assumption))
                        replace q10 := eq_true q10
                        go_wp2_with (first | (go_at_call 56; (with_reducible refine (spec_lastBlank.calls k2 x0_2 0 (wrap64 (ji5 + 1)) t112 _ A13.out).mono ?_); rintro e w34 ⟨rfl, hb⟩; have n0_ := Aside0.mk (below_step (by repeat (first | (with_reducible first | exact HB.out | apply below_alloc | apply pw_below_drewN | apply below_drew1) | exact HB.out)) hb); clear HB; have HB := n0_; clear n0_; (try clear hb); (try clear hb2); (try clear hk); (try clear hi)) | (go_at_call 57; (with_reducible refine (spec_nextBlank.calls k2 x0_2 ji5 t113 _ A31.out).mono ?_); rintro e w' ⟨rfl, ⟨nd, rfl⟩⟩; (try first | exact ⟨rfl, _, World.drewN_drewN _ _ _⟩ | exact ⟨rfl, _, Eq.trans (World.drewN_drewN _ _ _) (congrArg (World.drewN _) (Nat.add_assoc _ _ _))⟩)))
                        repeat (go_quiet (first | (go_at_call 56; (with_reducible refine (spec_lastBlank.calls k2 x0_2 0 (wrap64 (ji5 + 1)) t112 _ A13.out).mono ?_); rintro e w34 ⟨rfl, hb⟩; have n0_ := Aside0.mk (below_step (by repeat (first | (with_reducible first | exact HB.out | apply below_alloc | apply pw_below_drewN | apply below_drew1) | exact HB.out)) hb); clear HB; have HB := n0_; clear n0_; (try clear hb); (try clear hb2); (try clear hk); (try clear hi)) | (go_at_call 57; (with_reducible refine (spec_nextBlank.calls k2 x0_2 ji5 t113 _ A31.out).mono ?_); rintro e w' ⟨rfl, ⟨nd, rfl⟩⟩; (try first | exact ⟨rfl, _, World.drewN_drewN _ _ _⟩ | exact ⟨rfl, _, Eq.trans (World.drewN_drewN _ _ _) (congrArg (World.drewN _) (Nat.add_assoc _ _ _))⟩))); try go_wp2_with (first | (go_at_call 56; (with_reducible refine (spec_lastBlank.calls k2 x0_2 0 (wrap64 (ji5 + 1)) t112 _ A13.out).mono ?_); rintro e w34 ⟨rfl, hb⟩; have n0_ := Aside0.mk (below_step (by repeat (first | (with_reducible first | exact HB.out | apply below_alloc | apply pw_below_drewN | apply below_drew1) | exact HB.out)) hb); clear HB; have HB := n0_; clear n0_; (try clear hb); (try clear hb2); (try clear hk); (try clear hi)) | (go_at_call 57; (with_reducible refine (spec_nextBlank.calls k2 x0_2 ji5 t113 _ A31.out).mono ?_); rintro e w' ⟨rfl, ⟨nd, rfl⟩⟩; (try first | exact ⟨rfl, _, World.drewN_drewN _ _ _⟩ | exact ⟨rfl, _, Eq.trans (World.drewN_drewN _ _ _) (congrArg (World.drewN _) (Nat.add_assoc _ _ _))⟩))))
                        go_ret
                        exact ⟨by first | rfl | (simp [errW_none, errW_some] <;> rfl) | (simp only [← hji5]; first | rfl | (simp [errW_none, errW_some] <;> rfl)) | (simp [*, errW_none, errW_some] <;> rfl), by repeat (first | (with_reducible first | exact HB.out | apply below_alloc | apply pw_below_drewN | apply below_drew1) | exact HB.out)⟩
                      · rw [if_neg c33] at H
                        exact absurd H (by simp)
                    · rw [if_neg c32] at H
                      have c32b0 : decide (t113 < 0) = false := decide_eq_false c32
                      clear c32
                      by_cases c35 : 0 ≤ t113
                      · rw [if_pos c35] at H
                        have c35b0 := eq_true c35
                        have c35b1 : decide (0 ≤ t113) = true := decide_eq_true c35
                        clear c35
                        by_cases c36 : t113 ≤ (x0_2.size : Int)
                        · rw [if_pos c36] at H
                          have c36b0 := eq_true c36
                          have c36b1 : decide (t113 ≤ (x0_2.size : Int)) = true := decide_eq_true c36
                          clear c36
                          by_cases c37 : x9_2.size + (x0_2.extract 0 (t113 : Int).toNat).size ≤ 9223372036854775807
                          · rw [if_pos c37] at H
                            have c37b0 := eq_true c37
                            have c37b1 : decide (x9_2.size + (x0_2.extract 0 (t113 : Int).toNat).size ≤ 9223372036854775807) = true := decide_eq_true c37
                            try have c37b2 : (9223372036854775807 < x9_2.size + (x0_2.extract 0 (t113 : Int).toNat).size) = False := eq_false (Nat.not_lt.2 c37)
                            by_cases c38 : (x9_2 ++ (x0_2.extract 0 (t113 : Int).toNat)).size + x2_5.size ≤ 9223372036854775807
                            · rw [if_pos c38] at H
                              have c38b0 := eq_true c38
                              have c38b1 : decide ((x9_2 ++ (x0_2.extract 0 (t113 : Int).toNat)).size + x2_5.size ≤ 9223372036854775807) = true := decide_eq_true c38
                              try have c38b2 : (9223372036854775807 < (x9_2 ++ (x0_2.extract 0 (t113 : Int).toNat)).size + x2_5.size) = False := eq_false (Nat.not_lt.2 c38)
                              obtain ⟨ji39, hji39⟩ : ∃ j_ : Int, (wrap64 (t113 + 1)) = j_ := ⟨_, rfl⟩
                              replace H : (if 0 ≤ (ji39) then (if (ji39) ≤ (x0_2.size : Int) then (spec_Wrapped.l0 k2 (x0_2.extract ((ji39) : Int).toNat x0_2.size) ji5 x2_5 false ((x9_2 ++ (x0_2.extract 0 (t113 : Int).toNat)) ++ x2_5)) else (none)) else (none)) = some r := by first | (rw [hji39] at H; exact H) | (simp only [hji39] at H ⊢; exact H)
                              (try rw [hji39] at A13)
                              (try rw [hji39] at A31)
                              have hji39w : (IntKind.i64.wrap (t113 + 1)) = ji39 := (i64_w _).trans hji39
                              by_cases c40 : 0 ≤ (ji39)
                              · rw [if_pos c40] at H
                                have c40b0 := eq_true c40
                                have c40b1 : decide (0 ≤ (ji39)) = true := decide_eq_true c40
                                clear c40
                                by_cases c41 : (ji39) ≤ (x0_2.size : Int)
                                · rw [if_pos c41] at H
                                  have c41b0 := eq_true c41
                                  have c41b1 : decide ((ji39) ≤ (x0_2.size : Int)) = true := decide_eq_true c41
                                  clear c41
                                  have H' := Aside0.mk H
                                  clear H
                                  have p10 : 0 ≤ (0 : Int) := (by omega)
                                  have q10 : 0 < x0_2.size := (by have : (0 : Int) < (x0_2.size : Int) := of_decide_eq_true (by first | (with_reducible assumption) | assumption); omega)
                                  have hx10 : ∀ h : 0 < x0_2.size, ((x0_2[0]'h).toNat : Int) = bt x0_2 0 := bt_at x0_2 0
                                  clear p10
                                  have qi10 : (0 < (x0_2.size : Int)) = True := eq_true (of_decide_eq_true (by first | (with_reducible assumption) | assumption))
                                  replace q10 := eq_true q10
                                  go_wp2_with (first | (go_at_call 56; (with_reducible refine (spec_lastBlank.calls k2 x0_2 0 (wrap64 (ji5 + 1)) t112 _ A13.out).mono ?_); rintro e w42 ⟨rfl, hb⟩; have n0_ := Aside0.mk (below_step (by repeat (first | (with_reducible first | exact HB.out | apply below_alloc | apply pw_below_drewN | apply below_drew1) | exact HB.out)) hb); clear HB; have HB := n0_; clear n0_; (try clear hb); (try clear hb2); (try clear hk); (try clear hi)) | (go_at_call 57; (with_reducible refine (spec_nextBlank.calls k2 x0_2 ji5 t113 _ A31.out).mono ?_); rintro e w' ⟨rfl, ⟨nd, rfl⟩⟩; (try first | exact ⟨rfl, _, World.drewN_drewN _ _ _⟩ | exact ⟨rfl, _, Eq.trans (World.drewN_drewN _ _ _) (congrArg (World.drewN _) (Nat.add_assoc _ _ _))⟩)))
                                  repeat (go_quiet (first | (go_at_call 56; (with_reducible refine (spec_lastBlank.calls k2 x0_2 0 (wrap64 (ji5 + 1)) t112 _ A13.out).mono ?_); rintro e w42 ⟨rfl, hb⟩; have n0_ := Aside0.mk (below_step (by repeat (first | (with_reducible first | exact HB.out | apply below_alloc | apply pw_below_drewN | apply below_drew1) | exact HB.out)) hb); clear HB; have HB := n0_; clear n0_; (try clear hb); (try clear hb2); (try clear hk); (try clear hi)) | (go_at_call 57; (with_reducible refine (spec_nextBlank.calls k2 x0_2 ji5 t113 _ A31.out).mono ?_); rintro e w' ⟨rfl, ⟨nd, rfl⟩⟩; (try first | exact ⟨rfl, _, World.drewN_drewN _ _ _⟩ | exact ⟨rfl, _, Eq.trans (World.drewN_drewN _ _ _) (congrArg (World.drewN _) (Nat.add_assoc _ _ _))⟩))); try go_wp2_with (first | (go_at_call 56; (with_reducible refine (spec_lastBlank.calls k2 x0_2 0 (wrap64 (ji5 + 1)) t112 _ A13.out).mono ?_); rintro e w42 ⟨rfl, hb⟩; have n0_ := Aside0.mk (below_step (by repeat (first | (with_reducible first | exact HB.out | apply below_alloc | apply pw_below_drewN | apply below_drew1) | exact HB.out)) hb); clear HB; have HB := n0_; clear n0_; (try clear hb); (try clear hb2); (try clear hk); (try clear hi)) | (go_at_call 57; (with_reducible refine (spec_nextBlank.calls k2 x0_2 ji5 t113 _ A31.out).mono ?_); rintro e w' ⟨rfl, ⟨nd, rfl⟩⟩; (try first | exact ⟨rfl, _, World.drewN_drewN _ _ _⟩ | exact ⟨rfl, _, Eq.trans (World.drewN_drewN _ _ _) (congrArg (World.drewN _) (Nat.add_assoc _ _ _))⟩))))
                                  go_roundg k2
                                  case measure => have := HJ5.out; have := HK2.out; omega
                                  case rel => exact ⟨(x0_2.extract ((ji39) : Int).toNat x0_2.size), ((x9_2 ++ (x0_2.extract 0 (t113 : Int).toNat)) ++ x2_5), (by first | rfl | (simp; done) | (simp only [← hji39] <;> (first | rfl | simp)) | (simp [*]; done)), (by first | rfl | (simp; done) | (simp [*]; done)), H', ⟨by have := HJ5.out; have := HK2.out; omega⟩, ⟨by repeat (first | (with_reducible first | exact HB.out | apply below_alloc | apply pw_below_drewN | apply below_drew1) | exact HB.out)⟩⟩
                                · rw [if_neg c41] at H
                                  exact absurd H (by simp)
                              · rw [if_neg c40] at H
                                exact absurd H (by simp)
                            · rw [if_neg c38] at H
                              exact absurd H (by simp)
                          · rw [if_neg c37] at H
                            exact absurd H (by simp)
                        · rw [if_neg c36] at H
                          exact absurd H (by simp)
                      · rw [if_neg c35] at H
                        exact absurd H (by simp)
            · rw [if_neg c9] at H
              exact absurd H (by simp)
          · rw [if_neg c8] at H
            have c8b0 : decide (ji5 < (x0_2.size : Int)) = false := decide_eq_false c8
            clear c8
            by_cases c43 : x9_2.size + x0_2.size ≤ 9223372036854775807
            · rw [if_pos c43] at H
              have c43b0 := eq_true c43
              have c43b1 : decide (x9_2.size + x0_2.size ≤ 9223372036854775807) = true := decide_eq_true c43
              try have c43b2 : (9223372036854775807 < x9_2.size + x0_2.size) = False := eq_false (Nat.not_lt.2 c43)
              obtain rfl := Option.some.inj H
              go_wp2
              repeat (go_quiet (fail); try go_wp2)
              go_ret
              exact ⟨by first | rfl | (simp [errW_none, errW_some] <;> rfl) | (simp only [← hji5]; first | rfl | (simp [errW_none, errW_some] <;> rfl)) | (simp [*, errW_none, errW_some] <;> rfl), by repeat (first | (with_reducible first | exact HB.out | apply below_alloc | apply pw_below_drewN | apply below_drew1) | exact HB.out)⟩
            · rw [if_neg c43] at H
              exact absurd H (by simp)

/-! ### laws_FnWrapCustom: function 7 -/
mutual
def laws_FnWrapCustom.j0 : Nat → ByteArray → Int → ByteArray → Bool → Bool → Option (Bool)
  | 0, _, _, _, _, _ => none
  | k + 1, x0, x1, x2, x3, x16 => if x16 = true then (some true) else ((laws_plain9.f k (([x0] : List ByteArray))).bind fun t117 => (if t117 = true then (if (x2.size : Int) > 20 then (laws_FnWrapCustom.j1 k x0 x1 x2 x3 true) else ((laws_far9.f x1).bind fun t118 => (laws_FnWrapCustom.j1 k x0 x1 x2 x3 t118))) else (laws_FnWrapCustom.j1 k x0 x1 x2 x3 true)))
def laws_FnWrapCustom.j1 : Nat → ByteArray → Int → ByteArray → Bool → Bool → Option (Bool)
  | 0, _, _, _, _, _ => none
  | k + 1, x0, x1, x2, x3, x29 => if x29 = true then (some true) else ((impl_WrapCustom.f x0 x1 x2 x3).bind fun t119 => ((spec_Wrapped.f k x0 x1 x2 x3).bind fun t120 => (if t119.toList = t120.toList then ((impl_WrapCustom.f (⟨#[97, 32, 98]⟩ : ByteArray) 1 (⟨#[]⟩ : ByteArray) false).bind fun t121 => (some (t121.toList == ([97, 10, 98] : List UInt8)))) else (some false))))
end
def laws_FnWrapCustom.f (k : Nat) (a0 : ByteArray) (a1 : Int) (a2 : ByteArray) (a3 : Bool) : Option (Bool) := if (a0.size : Int) > 2147483647 then (laws_FnWrapCustom.j0 k a0 a1 a2 a3 true) else (laws_FnWrapCustom.j0 k a0 a1 a2 a3 (decide ((a2.size : Int) > 2147483647)))
theorem laws_FnWrapCustom.mono_l : ∀ k, (∀ y0 y1 y2 y3 y4, LeO (laws_FnWrapCustom.j0 k y0 y1 y2 y3 y4) (laws_FnWrapCustom.j0 (k + 1) y0 y1 y2 y3 y4)) ∧ (∀ y0 y1 y2 y3 y4, LeO (laws_FnWrapCustom.j1 k y0 y1 y2 y3 y4) (laws_FnWrapCustom.j1 (k + 1) y0 y1 y2 y3 y4))
  | 0 => ⟨fun _ _ _ _ _ r h => by simp [laws_FnWrapCustom.j0] at h, fun _ _ _ _ _ r h => by simp [laws_FnWrapCustom.j1] at h⟩
  | k + 1 => by
    obtain ⟨ih0, ih1⟩ := laws_FnWrapCustom.mono_l k
    refine ⟨?_, ?_⟩
    · intro y0 y1 y2 y3 y4
      unfold laws_FnWrapCustom.j0
      repeat' first
      | (with_reducible exact ih0 _ _ _ _ _)
      | (with_reducible exact ih1 _ _ _ _ _)
      | (with_reducible exact laws_plain9.mono _ _)
      | (with_reducible exact spec_Wrapped.mono _ _ _ _ _)
      | (with_reducible exact LeO.refl _)
      | (with_reducible exact LeO.none _)
      | (with_reducible refine LeO.ite ?_ ?_)
      | (with_reducible refine LeO.bind ?_ (fun _ => ?_))
      | exact ih0 _ _ _ _ _
      | exact ih1 _ _ _ _ _
      | exact laws_plain9.mono _ _
      | exact spec_Wrapped.mono _ _ _ _ _
      | exact LeO.none _
      | refine LeO.ite ?_ ?_
      | refine LeO.bind ?_ (fun _ => ?_)
    · intro y0 y1 y2 y3 y4
      unfold laws_FnWrapCustom.j1
      repeat' first
      | (with_reducible exact ih0 _ _ _ _ _)
      | (with_reducible exact ih1 _ _ _ _ _)
      | (with_reducible exact laws_plain9.mono _ _)
      | (with_reducible exact spec_Wrapped.mono _ _ _ _ _)
      | (with_reducible exact LeO.refl _)
      | (with_reducible exact LeO.none _)
      | (with_reducible refine LeO.ite ?_ ?_)
      | (with_reducible refine LeO.bind ?_ (fun _ => ?_))
      | exact ih0 _ _ _ _ _
      | exact ih1 _ _ _ _ _
      | exact laws_plain9.mono _ _
      | exact spec_Wrapped.mono _ _ _ _ _
      | exact LeO.none _
      | refine LeO.ite ?_ ?_
      | refine LeO.bind ?_ (fun _ => ?_)
theorem laws_FnWrapCustom.mono : ∀ a0 a1 a2 a3 k, LeO (laws_FnWrapCustom.f k a0 a1 a2 a3) (laws_FnWrapCustom.f (k + 1) a0 a1 a2 a3) := by
  intro a0 a1 a2 a3 k
  obtain ⟨ih0, ih1⟩ := laws_FnWrapCustom.mono_l k
  unfold laws_FnWrapCustom.f
  repeat' first
      | (with_reducible exact ih0 _ _ _ _ _)
      | (with_reducible exact ih1 _ _ _ _ _)
      | (with_reducible exact laws_plain9.mono _ _)
      | (with_reducible exact spec_Wrapped.mono _ _ _ _ _)
      | (with_reducible exact LeO.refl _)
      | (with_reducible exact LeO.none _)
      | (with_reducible refine LeO.ite ?_ ?_)
      | (with_reducible refine LeO.bind ?_ (fun _ => ?_))
      | exact ih0 _ _ _ _ _
      | exact ih1 _ _ _ _ _
      | exact laws_plain9.mono _ _
      | exact spec_Wrapped.mono _ _ _ _ _
      | exact LeO.none _
      | refine LeO.ite ?_ ?_
      | refine LeO.bind ?_ (fun _ => ?_)
set_option maxHeartbeats 8000000 in
set_option maxRecDepth 100000 in
theorem laws_FnWrapCustom.calls (k : Nat) (a0 : ByteArray) (a1 : Int) (a2 : ByteArray) (a3 : Bool) (r : Bool) (w : World) (h : laws_FnWrapCustom.f k a0 a1 a2 a3 = some r) :
    Calls Tryd.prog 7 #[.string a0, .int .i64 a1, .string a2, .bool a3] w fun e w' => e = .returned (.bool r) ∧ Below w.heap.size w w' := by
  have HB := Aside0.mk (Below.refl w.heap.size w)
  have H : (if (a0.size : Int) > 2147483647 then (laws_FnWrapCustom.j0 k a0 a1 a2 a3 true) else (laws_FnWrapCustom.j0 k a0 a1 a2 a3 (decide ((a2.size : Int) > 2147483647)))) = some r := h
  clear h
  have HC5 := Aside0.mk H
  clear H
  go_enter Tryd.func7, Tryd.ntmps7
  go_upto_region 1 with (fail)
  go_cut [16] (fun v16 wc => ∃ (kq : Nat) (x16_4 : Bool), v16 = .bool x16_4 ∧ Aside0 (laws_FnWrapCustom.j0 kq a0 a1 a2 a3 x16_4 = some r) ∧ Aside0 (kq ≤ k) ∧ Aside0 (Below w.heap.size w wc))
  case first =>
    have H := HC5.out
    clear HC5
    by_cases c6 : (a0.size : Int) > 2147483647
    · rw [if_pos c6] at H
      have c6b0 : decide (2147483647 < (a0.size : Int)) = true := decide_eq_true c6
      have c6b1 : decide (2147483647 < a0.size) = true := decide_eq_true (by omega)
      clear c6
      (first | rw [c6b0] | (simp only [i64_w, i32_w]; rw [c6b0]) | skip)
      have H' := Aside0.mk H
      clear H
      go_wp2
      go_meet
      case rel => exact ⟨_, (true), (by first | rfl | (simp; done) | (simp [*]; done)), H', ⟨by first | omega | exact Nat.le_refl _⟩, ⟨by repeat (first | (with_reducible first | exact HB.out | apply below_alloc | apply pw_below_drewN | apply below_drew1) | exact HB.out)⟩⟩
    · rw [if_neg c6] at H
      have c6b0 : decide (2147483647 < (a0.size : Int)) = false := decide_eq_false c6
      have c6b1 : decide (2147483647 < a0.size) = false := decide_eq_false (by omega)
      clear c6
      (first | rw [c6b0] | (simp only [i64_w, i32_w]; rw [c6b0]) | skip)
      have H' := Aside0.mk H
      clear H
      go_wp2
      go_meet
      case rel => exact ⟨_, (decide ((a2.size : Int) > 2147483647)), (by first | rfl | (simp; done) | (simp [*]; done)), H', ⟨by first | omega | exact Nat.le_refl _⟩, ⟨by repeat (first | (with_reducible first | exact HB.out | apply below_alloc | apply pw_below_drewN | apply below_drew1) | exact HB.out)⟩⟩
  case rest =>
    clear HC5
    try clear p2
    try clear c6
    try clear c6b0
    try clear c6b1
    obtain ⟨kq, x16_4, rfl, HA, HJ4, HB⟩ := hcut
    cases kq with
    | zero => exact absurd HA.out (by simp [laws_FnWrapCustom.j0])
    | succ kj4 =>
      have H := HA.out
      clear HA
      simp only [laws_FnWrapCustom.j0] at H
      by_cases c7 : x16_4 = true
      · subst c7
        have H1 : (some true) = some r := by rw [if_pos rfl] at H; exact H
        clear H
        have H := H1
        clear H1
        obtain rfl := Option.some.inj H
        go_wp2
        go_ret
        exact ⟨by first | rfl | (simp [errW_none, errW_some] <;> rfl) | (simp [*, errW_none, errW_some] <;> rfl), by repeat (first | (with_reducible first | exact HB.out | apply below_alloc | apply pw_below_drewN | apply below_drew1) | exact HB.out)⟩
      · replace c7 := Bool.eq_false_iff.mpr c7
        subst c7
        have H1 : ((laws_plain9.f kj4 (([a0] : List ByteArray))).bind fun t117 => (if t117 = true then (if (a2.size : Int) > 20 then (laws_FnWrapCustom.j1 kj4 a0 a1 a2 a3 true) else ((laws_far9.f a1).bind fun t118 => (laws_FnWrapCustom.j1 kj4 a0 a1 a2 a3 t118))) else (laws_FnWrapCustom.j1 kj4 a0 a1 a2 a3 true))) = some r := by rw [if_neg (show ¬ (false = true) by decide)] at H; exact H
        clear H
        have H := H1
        clear H1
        have HC8 := Aside0.mk H
        clear H
        go_upto_region 3 with (fail)
        go_cut [29] (fun v29 wc => ∃ (kq : Nat) (x29_7 : Bool), v29 = .bool x29_7 ∧ Aside0 (laws_FnWrapCustom.j1 kq a0 a1 a2 a3 x29_7 = some r) ∧ Aside0 (kq ≤ kj4) ∧ Aside0 (Below w.heap.size w wc))
        case first =>
          have H := HC8.out
          clear HC8
          obtain ⟨y114, hy114⟩ : ∃ y_ : List ByteArray, y_ = (([a0] : List ByteArray)) := ⟨_, rfl⟩
          replace H : ((laws_plain9.f kj4 y114).bind fun t117 => (if t117 = true then (if (a2.size : Int) > 20 then (laws_FnWrapCustom.j1 kj4 a0 a1 a2 a3 true) else ((laws_far9.f a1).bind fun t118 => (laws_FnWrapCustom.j1 kj4 a0 a1 a2 a3 t118))) else (laws_FnWrapCustom.j1 kj4 a0 a1 a2 a3 true))) = some r := by first | (rw [hy114]; with_reducible exact H) | (have H2_ := (Option.bind_some _ _).symm.trans H; rw [hy114]; with_reducible exact H2_) | (have H2_ := (Option.bind_some _ _).symm.trans H; with_reducible exact H2_) | with_reducible exact H | (rw [hy114]; exact H) | exact H
          have Ny114 := Aside0.mk hy114
          clear hy114
          replace H := Option.bind_eq_some_iff.mp H
          obtain ⟨t117, A90, H⟩ := H
          replace H : (if t117 = true then (if (a2.size : Int) > 20 then (laws_FnWrapCustom.j1 kj4 a0 a1 a2 a3 true) else ((laws_far9.f a1).bind fun t118 => (laws_FnWrapCustom.j1 kj4 a0 a1 a2 a3 t118))) else (laws_FnWrapCustom.j1 kj4 a0 a1 a2 a3 true)) = some r := H
          have A9 := Aside0.mk A90
          clear A90
          by_cases c10 : t117 = true
          · subst c10
            have H1 : (if (a2.size : Int) > 20 then (laws_FnWrapCustom.j1 kj4 a0 a1 a2 a3 true) else ((laws_far9.f a1).bind fun t118 => (laws_FnWrapCustom.j1 kj4 a0 a1 a2 a3 t118))) = some r := by rw [if_pos rfl] at H; exact H
            clear H
            have H := H1
            clear H1
            by_cases c11 : (a2.size : Int) > 20
            · rw [if_pos c11] at H
              have c11b0 : decide (20 < (a2.size : Int)) = true := decide_eq_true c11
              have c11b1 : decide (20 < a2.size) = true := decide_eq_true (by omega)
              clear c11
              (first | rw [c11b0] | (simp only [i64_w, i32_w]; rw [c11b0]) | skip)
              have H' := Aside0.mk H
              clear H
              go_wp2_with (first | ((with_reducible refine gate_dst (N := 18) rfl ?_); (try (refine gate_guard (by rfl) ?_; dsimp only)); refine Kd.R_lit Kd.string _ 9 ?hg (N := 18) ?hd (xs := ([a0] : List ByteArray)) (inner := [.string a0]) (ok := fun _ => True) (okp := fun _ => True) ?hr ?hp (fun _ hk => hk) trivial (Below.refl _ _) (Nat.le_refl _) (by simp) ?_; (case hd => rfl); (case hg => rfl); (case hr => first | (go_simp; done) | (go_simp; rfl)); (case hp => exact (Reps.one (show Kd.M Kd.string _ _ _ a0 [.string a0] from rfl) (Reps.none _ _))); intro v115 w12 ho13 hb hg_ hnew_; clear hg_ hnew_; (first | rw [← Ny114.out] at ho13 | (simp only [Int.reduceToNat] at ho13; rw [← Ny114.out] at ho13)); have n0_ := Aside0.mk (Kd.R_lower ho13 (below_size (by repeat (first | (with_reducible first | exact HB.out | apply below_alloc | apply pw_below_drewN | apply below_drew1) | exact HB.out)))); have n1_ := Aside0.mk (below_step (by repeat (first | (with_reducible first | exact HB.out | apply below_alloc | apply pw_below_drewN | apply below_drew1) | exact HB.out)) hb); clear HB; have HO116 := n0_; have HB := n1_; clear n0_ n1_; clear hb ho13; obtain ⟨Ao14, co14, eo14⟩ := Kd.R_slice HO116.out; subst eo14) | ((with_reducible refine gate_callee (f := 21) rfl ?_); refine goesL_ (some 19) rfl rfl Tryd.func21 (by kernel_rfl) rfl #[.slice Ao14 y114.length co14] rfl (by (try simp only [List.map_toArray, List.map_cons, List.map_nil]); first | done | rfl | (simp only [List.length_drop, List.length_take]; rfl)) ?_; (with_reducible refine (laws_plain9.calls kj4 _ _ y114 true _ ?side1 ?side2 A9.out).mono ?_); (case side1 => repeat (first | exact (Kd.R_reads' HO116.out).2.2 | (with_reducible refine Kd.C_alloc ?_ _) | (with_reducible refine Kd.C_drewN ?_ _) | (with_reducible refine Kd.C_drew ?_))); (case side2 => exact (Kd.R_reads' HO116.out).2.1); rintro e w' ⟨rfl, ⟨nd, rfl⟩⟩; refine ⟨_, rfl, ?_⟩))
              go_meet
              case rel => exact ⟨_, (true), (by first | rfl | (simp; done) | (simp [*]; done)), H', ⟨by have := HJ4.out; first | omega | exact Nat.le_refl _⟩, ⟨by repeat (first | (with_reducible first | exact HB.out | apply below_alloc | apply pw_below_drewN | apply below_drew1) | exact HB.out)⟩⟩
            · rw [if_neg c11] at H
              have c11b0 : decide (20 < (a2.size : Int)) = false := decide_eq_false c11
              have c11b1 : decide (20 < a2.size) = false := decide_eq_false (by omega)
              clear c11
              (first | rw [c11b0] | (simp only [i64_w, i32_w]; rw [c11b0]) | skip)
              replace H := Option.bind_eq_some_iff.mp H
              obtain ⟨t118, A150, H⟩ := H
              replace H : (laws_FnWrapCustom.j1 kj4 a0 a1 a2 a3 t118) = some r := H
              have A15 := Aside0.mk A150
              clear A150
              have H' := Aside0.mk H
              clear H
              go_wp2_with (first | ((with_reducible refine gate_dst (N := 18) rfl ?_); (try (refine gate_guard (by rfl) ?_; dsimp only)); refine Kd.R_lit Kd.string _ 9 ?hg (N := 18) ?hd (xs := ([a0] : List ByteArray)) (inner := [.string a0]) (ok := fun _ => True) (okp := fun _ => True) ?hr ?hp (fun _ hk => hk) trivial (Below.refl _ _) (Nat.le_refl _) (by simp) ?_; (case hd => rfl); (case hg => rfl); (case hr => first | (go_simp; done) | (go_simp; rfl)); (case hp => exact (Reps.one (show Kd.M Kd.string _ _ _ a0 [.string a0] from rfl) (Reps.none _ _))); intro v115 w16 ho17 hb hg_ hnew_; clear hg_ hnew_; (first | rw [← Ny114.out] at ho17 | (simp only [Int.reduceToNat] at ho17; rw [← Ny114.out] at ho17)); have n0_ := Aside0.mk (Kd.R_lower ho17 (below_size (by repeat (first | (with_reducible first | exact HB.out | apply below_alloc | apply pw_below_drewN | apply below_drew1) | exact HB.out)))); have n1_ := Aside0.mk (below_step (by repeat (first | (with_reducible first | exact HB.out | apply below_alloc | apply pw_below_drewN | apply below_drew1) | exact HB.out)) hb); clear HB; have HO116 := n0_; have HB := n1_; clear n0_ n1_; clear hb ho17; obtain ⟨Ao18, co18, eo18⟩ := Kd.R_slice HO116.out; subst eo18) | ((with_reducible refine gate_callee (f := 21) rfl ?_); refine goesL_ (some 19) rfl rfl Tryd.func21 (by kernel_rfl) rfl #[.slice Ao18 y114.length co18] rfl (by (try simp only [List.map_toArray, List.map_cons, List.map_nil]); first | done | rfl | (simp only [List.length_drop, List.length_take]; rfl)) ?_; (with_reducible refine (laws_plain9.calls kj4 _ _ y114 true _ ?side1 ?side2 A9.out).mono ?_); (case side1 => repeat (first | exact (Kd.R_reads' HO116.out).2.2 | (with_reducible refine Kd.C_alloc ?_ _) | (with_reducible refine Kd.C_drewN ?_ _) | (with_reducible refine Kd.C_drew ?_))); (case side2 => exact (Kd.R_reads' HO116.out).2.1); rintro e w' ⟨rfl, ⟨nd, rfl⟩⟩; refine ⟨_, rfl, ?_⟩) | (go_at_call 28; (with_reducible refine (laws_far9.calls a1 t118 _ A15.out).mono ?_); rintro e w' ⟨rfl, ⟨nd, rfl⟩⟩))
              go_meet
              case rel => exact ⟨_, (t118), (by first | rfl | (simp; done) | (simp [*]; done)), H', ⟨by have := HJ4.out; first | omega | exact Nat.le_refl _⟩, ⟨by repeat (first | (with_reducible first | exact HB.out | apply below_alloc | apply pw_below_drewN | apply below_drew1) | exact HB.out)⟩⟩
          · replace c10 := Bool.eq_false_iff.mpr c10
            subst c10
            have H1 : (laws_FnWrapCustom.j1 kj4 a0 a1 a2 a3 true) = some r := by rw [if_neg (show ¬ (false = true) by decide)] at H; exact H
            clear H
            have H := H1
            clear H1
            have H' := Aside0.mk H
            clear H
            go_wp2_with (first | ((with_reducible refine gate_dst (N := 18) rfl ?_); (try (refine gate_guard (by rfl) ?_; dsimp only)); refine Kd.R_lit Kd.string _ 9 ?hg (N := 18) ?hd (xs := ([a0] : List ByteArray)) (inner := [.string a0]) (ok := fun _ => True) (okp := fun _ => True) ?hr ?hp (fun _ hk => hk) trivial (Below.refl _ _) (Nat.le_refl _) (by simp) ?_; (case hd => rfl); (case hg => rfl); (case hr => first | (go_simp; done) | (go_simp; rfl)); (case hp => exact (Reps.one (show Kd.M Kd.string _ _ _ a0 [.string a0] from rfl) (Reps.none _ _))); intro v115 w19 ho20 hb hg_ hnew_; clear hg_ hnew_; (first | rw [← Ny114.out] at ho20 | (simp only [Int.reduceToNat] at ho20; rw [← Ny114.out] at ho20)); have n0_ := Aside0.mk (Kd.R_lower ho20 (below_size (by repeat (first | (with_reducible first | exact HB.out | apply below_alloc | apply pw_below_drewN | apply below_drew1) | exact HB.out)))); have n1_ := Aside0.mk (below_step (by repeat (first | (with_reducible first | exact HB.out | apply below_alloc | apply pw_below_drewN | apply below_drew1) | exact HB.out)) hb); clear HB; have HO116 := n0_; have HB := n1_; clear n0_ n1_; clear hb ho20; obtain ⟨Ao21, co21, eo21⟩ := Kd.R_slice HO116.out; subst eo21) | ((with_reducible refine gate_callee (f := 21) rfl ?_); refine goesL_ (some 19) rfl rfl Tryd.func21 (by kernel_rfl) rfl #[.slice Ao21 y114.length co21] rfl (by (try simp only [List.map_toArray, List.map_cons, List.map_nil]); first | done | rfl | (simp only [List.length_drop, List.length_take]; rfl)) ?_; (with_reducible refine (laws_plain9.calls kj4 _ _ y114 false _ ?side1 ?side2 A9.out).mono ?_); (case side1 => repeat (first | exact (Kd.R_reads' HO116.out).2.2 | (with_reducible refine Kd.C_alloc ?_ _) | (with_reducible refine Kd.C_drewN ?_ _) | (with_reducible refine Kd.C_drew ?_))); (case side2 => exact (Kd.R_reads' HO116.out).2.1); rintro e w' ⟨rfl, ⟨nd, rfl⟩⟩; refine ⟨_, rfl, ?_⟩))
            go_meet
            case rel => exact ⟨_, (true), (by first | rfl | (simp; done) | (simp [*]; done)), H', ⟨by have := HJ4.out; first | omega | exact Nat.le_refl _⟩, ⟨by repeat (first | (with_reducible first | exact HB.out | apply below_alloc | apply pw_below_drewN | apply below_drew1) | exact HB.out)⟩⟩
        case rest =>
          clear HC8
          try clear c1
          try clear c2
          try clear p2
          try clear c6
          try clear c6b0
          try clear c6b1
          try clear c7
          try clear c10
          try clear c11
          try clear c11b0
          try clear c11b1
          try clear c21
          try clear p2
          obtain ⟨kq, x29_7, rfl, HA, HJ7, HB⟩ := hcut
          cases kq with
          | zero => exact absurd HA.out (by simp [laws_FnWrapCustom.j1])
          | succ kj7 =>
            have H := HA.out
            clear HA
            simp only [laws_FnWrapCustom.j1] at H
            by_cases c22 : x29_7 = true
            · subst c22
              have H1 : (some true) = some r := by rw [if_pos rfl] at H; exact H
              clear H
              have H := H1
              clear H1
              obtain rfl := Option.some.inj H
              go_wp2
              go_ret
              exact ⟨by first | rfl | (simp [errW_none, errW_some] <;> rfl) | (simp [*, errW_none, errW_some] <;> rfl), by repeat (first | (with_reducible first | exact HB.out | apply below_alloc | apply pw_below_drewN | apply below_drew1) | exact HB.out)⟩
            · replace c22 := Bool.eq_false_iff.mpr c22
              subst c22
              have H1 : ((impl_WrapCustom.f a0 a1 a2 a3).bind fun t119 => ((spec_Wrapped.f kj7 a0 a1 a2 a3).bind fun t120 => (if t119.toList = t120.toList then ((impl_WrapCustom.f (⟨#[97, 32, 98]⟩ : ByteArray) 1 (⟨#[]⟩ : ByteArray) false).bind fun t121 => (some (t121.toList == ([97, 10, 98] : List UInt8)))) else (some false)))) = some r := by rw [if_neg (show ¬ (false = true) by decide)] at H; exact H
              clear H
              have H := H1
              clear H1
              replace H := Option.bind_eq_some_iff.mp H
              obtain ⟨t119, A230, H⟩ := H
              replace H : ((spec_Wrapped.f kj7 a0 a1 a2 a3).bind fun t120 => (if t119.toList = t120.toList then ((impl_WrapCustom.f (⟨#[97, 32, 98]⟩ : ByteArray) 1 (⟨#[]⟩ : ByteArray) false).bind fun t121 => (some (t121.toList == ([97, 10, 98] : List UInt8)))) else (some false))) = some r := H
              have A23 := Aside0.mk A230
              clear A230
              replace H := Option.bind_eq_some_iff.mp H
              obtain ⟨t120, A240, H⟩ := H
              replace H : (if t119.toList = t120.toList then ((impl_WrapCustom.f (⟨#[97, 32, 98]⟩ : ByteArray) 1 (⟨#[]⟩ : ByteArray) false).bind fun t121 => (some (t121.toList == ([97, 10, 98] : List UInt8)))) else (some false)) = some r := H
              have A24 := Aside0.mk A240
              clear A240
              by_cases c25 : t119.toList = t120.toList
              · rw [if_pos c25] at H
                have c25b0 : (t119.toList == t120.toList) = true := beq_iff_eq.mpr c25
                have c25b1 : (t119.toList != t120.toList) = false := bne_eq_false_iff_eq.mpr c25
                clear c25
                replace H := Option.bind_eq_some_iff.mp H
                obtain ⟨t121, A260, H⟩ := H
                replace H : (some (t121.toList == ([97, 10, 98] : List UInt8))) = some r := H
                have A26 := Aside0.mk A260
                clear A260
                obtain rfl := Option.some.inj H
                go_wp2_with (first | ((with_reducible refine gate_callee (f := 29) rfl ?_); refine goesL_ (some 34) rfl rfl Tryd.func29 (by kernel_rfl) rfl #[.string a0, .int .i64 a1, .string a2, .bool a3] rfl (by (try simp only [List.map_toArray, List.map_cons, List.map_nil]); first | done | rfl | (simp only [List.length_drop, List.length_take]; rfl)) ?_; (with_reducible refine (impl_WrapCustom.calls a0 a1 a2 a3 t119 _ A23.out).mono ?_); rintro e w27 ⟨rfl, hb⟩; refine ⟨_, rfl, ?_⟩; have n0_ := Aside0.mk (below_step (by repeat (first | (with_reducible first | exact HB.out | apply below_alloc | apply pw_below_drewN | apply below_drew1) | exact HB.out)) hb); clear HB; have HB := n0_; clear n0_; (try clear hb); (try clear hb2); (try clear hk); (try clear hi)) | ((with_reducible refine gate_callee (f := 30) rfl ?_); refine goesL_ (some 39) rfl rfl Tryd.func30 (by kernel_rfl) rfl #[.string a0, .int .i64 a1, .string a2, .bool a3] rfl (by (try simp only [List.map_toArray, List.map_cons, List.map_nil]); first | done | rfl | (simp only [List.length_drop, List.length_take]; rfl)) ?_; (with_reducible refine (spec_Wrapped.calls kj7 a0 a1 a2 a3 t120 _ A24.out).mono ?_); rintro e w28 ⟨rfl, hb⟩; refine ⟨_, rfl, ?_⟩; have n0_ := Aside0.mk (below_step (by repeat (first | (with_reducible first | exact HB.out | apply below_alloc | apply pw_below_drewN | apply below_drew1) | exact HB.out)) hb); clear HB; have HB := n0_; clear n0_; (try clear hb); (try clear hb2); (try clear hk); (try clear hi)) | (go_at_call 29; (with_reducible refine (impl_WrapCustom.calls (⟨#[97, 32, 98]⟩ : ByteArray) 1 (⟨#[]⟩ : ByteArray) false t121 _ A26.out).mono ?_); rintro e w29 ⟨rfl, hb⟩; have n0_ := Aside0.mk (below_step (by repeat (first | (with_reducible first | exact HB.out | apply below_alloc | apply pw_below_drewN | apply below_drew1) | exact HB.out)) hb); clear HB; have HB := n0_; clear n0_; (try clear hb); (try clear hb2); (try clear hk); (try clear hi)))
                go_ret
                exact ⟨by first | rfl | (simp [errW_none, errW_some] <;> rfl) | (simp [*, errW_none, errW_some] <;> rfl), by repeat (first | (with_reducible first | exact HB.out | apply below_alloc | apply pw_below_drewN | apply below_drew1) | exact HB.out)⟩
              · rw [if_neg c25] at H
                have c25b0 : (t119.toList == t120.toList) = false := beq_eq_false_iff_ne.mpr c25
                have c25b1 : (t119.toList != t120.toList) = true := bne_iff_ne.mpr c25
                obtain rfl := Option.some.inj H
                go_wp2_with (first | ((with_reducible refine gate_callee (f := 29) rfl ?_); refine goesL_ (some 34) rfl rfl Tryd.func29 (by kernel_rfl) rfl #[.string a0, .int .i64 a1, .string a2, .bool a3] rfl (by (try simp only [List.map_toArray, List.map_cons, List.map_nil]); first | done | rfl | (simp only [List.length_drop, List.length_take]; rfl)) ?_; (with_reducible refine (impl_WrapCustom.calls a0 a1 a2 a3 t119 _ A23.out).mono ?_); rintro e w30 ⟨rfl, hb⟩; refine ⟨_, rfl, ?_⟩; have n0_ := Aside0.mk (below_step (by repeat (first | (with_reducible first | exact HB.out | apply below_alloc | apply pw_below_drewN | apply below_drew1) | exact HB.out)) hb); clear HB; have HB := n0_; clear n0_; (try clear hb); (try clear hb2); (try clear hk); (try clear hi)) | ((with_reducible refine gate_callee (f := 30) rfl ?_); refine goesL_ (some 39) rfl rfl Tryd.func30 (by kernel_rfl) rfl #[.string a0, .int .i64 a1, .string a2, .bool a3] rfl (by (try simp only [List.map_toArray, List.map_cons, List.map_nil]); first | done | rfl | (simp only [List.length_drop, List.length_take]; rfl)) ?_; (with_reducible refine (spec_Wrapped.calls kj7 a0 a1 a2 a3 t120 _ A24.out).mono ?_); rintro e w31 ⟨rfl, hb⟩; refine ⟨_, rfl, ?_⟩; have n0_ := Aside0.mk (below_step (by repeat (first | (with_reducible first | exact HB.out | apply below_alloc | apply pw_below_drewN | apply below_drew1) | exact HB.out)) hb); clear HB; have HB := n0_; clear n0_; (try clear hb); (try clear hb2); (try clear hk); (try clear hi)))
                go_ret
                exact ⟨by first | rfl | (simp [errW_none, errW_some] <;> rfl) | (simp [*, errW_none, errW_some] <;> rfl), by repeat (first | (with_reducible first | exact HB.out | apply below_alloc | apply pw_below_drewN | apply below_drew1) | exact HB.out)⟩

/-- THE ONE PURE STATEMENT of laws_FnWrapCustom: yours. -/
def laws_FnWrapCustom.Pure : Prop := ∀ (a0 : ByteArray) (a1 : Int) (a2 : ByteArray) (a3 : Bool), a0.size ≤ 140737488351232 → (Lit.int .i64 a1).wf = true → a2.size ≤ 140737488351232 → ∃ k, laws_FnWrapCustom.f k a0 a1 a2 a3 = some true
theorem laws_FnWrapCustom.walk (P : laws_FnWrapCustom.Pure) (a0 : ByteArray) (a1 : Int) (a2 : ByteArray) (a3 : Bool) (w : World) (w0 : a0.size ≤ 140737488351232) (w1 : (Lit.int .i64 a1).wf = true) (w2 : a2.size ≤ 140737488351232) :
    Calls Tryd.prog 7 #[.string a0, .int .i64 a1, .string a2, .bool a3] w fun e w' => e = .returned (.bool true) ∧ Below w.heap.size w w' := by
  obtain ⟨k, h⟩ := P a0 a1 a2 a3 w0 w1 w2
  refine (laws_FnWrapCustom.calls k a0 a1 a2 a3 true w h).mono ?_
  rintro e w' ⟨rfl, hd⟩
  exact ⟨rfl, hd⟩


end Go.Proofs.YtpkdoinofenahaaDoor.PFnWrapCustom
