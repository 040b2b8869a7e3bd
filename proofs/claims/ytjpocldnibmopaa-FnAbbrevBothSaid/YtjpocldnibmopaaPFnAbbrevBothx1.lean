-- Written by gprint.py (a program of this session, over the kit's print) out of Lean's own print of the program.
import Derived.Test.YtjpocldnibmopaaPFnAbbrevBothx0
namespace Go.Proofs.Ytjpocldnibmopaa.PFnAbbrevBoth
open Go.Proofs.Ytjpocldnibmopaa.Giv
open Go.RowKit Go.Proofs.YtjpocldnibmopaaW.PrintWords Go.Proofs.YtjpocldnibmopaaW.PrintLast Go.Proofs.YtjpocldnibmopaaW.PrintMore
attribute [local go_sem] max2_int min2_int max_two min_two max_three min_three max_four min_four   -- for this text's walks alone
set_option linter.unusedVariables false
set_option linter.unusedSimpArgs false

/-! ### spec_ASCII: function 45 -/
def spec_ASCII.l0 : Nat → ByteArray → Int → Option (Bool)
  | 0, _, _ => none
  | k + 1, x0, x3 => if x3 < (x0.size : Int) then (if 0 ≤ x3 then (if (bt x0 x3) ≥ 128 then (some false) else (spec_ASCII.l0 k x0 (wrap64 (x3 + 1)))) else (none)) else (some true)
def spec_ASCII.f (k : Nat) (a0 : ByteArray) : Option (Bool) := spec_ASCII.l0 k a0 0
theorem spec_ASCII.mono_l : ∀ k, (∀ y0 y1, LeO (spec_ASCII.l0 k y0 y1) (spec_ASCII.l0 (k + 1) y0 y1))
  | 0 => fun _ _ r h => by simp [spec_ASCII.l0] at h
  | k + 1 => by
    have ih0 := spec_ASCII.mono_l k
    · intro y0 y1
      unfold spec_ASCII.l0
      repeat' first
      | (with_reducible exact ih0 _ _)
      | (with_reducible exact LeO.refl _)
      | (with_reducible exact LeO.none _)
      | (with_reducible refine LeO.ite ?_ ?_)
      | (with_reducible refine LeO.bind ?_ (fun _ => ?_))
      | exact ih0 _ _
      | exact LeO.none _
      | refine LeO.ite ?_ ?_
      | refine LeO.bind ?_ (fun _ => ?_)
theorem spec_ASCII.mono : ∀ a0 k, LeO (spec_ASCII.f k a0) (spec_ASCII.f (k + 1) a0) := by
  intro a0 k
  have ih0 := spec_ASCII.mono_l k
  unfold spec_ASCII.f
  repeat' first
      | (with_reducible exact ih0 _ _)
      | (with_reducible exact LeO.refl _)
      | (with_reducible exact LeO.none _)
      | (with_reducible refine LeO.ite ?_ ?_)
      | (with_reducible refine LeO.bind ?_ (fun _ => ?_))
      | exact ih0 _ _
      | exact LeO.none _
      | refine LeO.ite ?_ ?_
      | refine LeO.bind ?_ (fun _ => ?_)
set_option maxHeartbeats 8000000 in
set_option maxRecDepth 100000 in
theorem spec_ASCII.calls (k : Nat) (a0 : ByteArray) (r : Bool) (w : World) (h : spec_ASCII.f k a0 = some r) :
    Calls Try.prog 45 #[.string a0] w fun e w' => e = .returned (.bool r) ∧ Drawn0 w w' := by
  have H : (spec_ASCII.l0 k a0 0) = some r := h
  clear h
  have H' := Aside0.mk H
  clear H
  go_enter Try.func45, Try.ntmps45
  go_wp2
  go_loopg [3] k (fun kq v3 w' => ∃ (x3_1 : Int), v3 = .int .i64 x3_1 ∧ Aside0 (spec_ASCII.l0 kq a0 x3_1 = some r) ∧ Aside0 (kq ≤ k) ∧ Drawn0 w w')
  case atStart => exact ⟨(0), (by first | rfl | (simp; done) | (simp [*]; done)), H', ⟨Nat.le_refl _⟩, by repeat (first | exact Drawn0.refl _ | apply Drawn0.step)⟩
  case round =>
    clear H'
    obtain ⟨x3_1, rfl, HA, HK1, ⟨m1, rfl⟩⟩ := hrel
    cases gk with
    | zero => exact absurd HA.out (by simp [spec_ASCII.l0])
    | succ k1 =>
      have H := HA.out
      clear HA
      simp only [spec_ASCII.l0] at H
      by_cases c2 : x3_1 < (a0.size : Int)
      · rw [if_pos c2] at H
        have c2b0 : decide (x3_1 < (a0.size : Int)) = true := decide_eq_true c2
        clear c2
        by_cases c3 : 0 ≤ x3_1
        · rw [if_pos c3] at H
          have c3b0 : decide (0 ≤ x3_1) = true := decide_eq_true c3
          clear c3
          by_cases c5 : (bt a0 x3_1) ≥ 128
          · rw [if_pos c5] at H
            have c5b0 : decide (128 ≤ (bt a0 x3_1)) = true := decide_eq_true c5
            clear c5
            obtain rfl := Option.some.inj H
            have p4 : 0 ≤ (x3_1 : Int) := of_decide_eq_true (by first | (with_reducible assumption) | assumption)
            have q4 : x3_1 < (a0.size : Int) := of_decide_eq_true (by first | (with_reducible assumption) | assumption)
            have hx4 := bt_at a0 x3_1
            replace p4 := eq_true p4
            replace q4 := eq_true q4
            go_wp2
            go_ret
            exact ⟨by first | rfl | (simp; done) | (simp [*]; done), by repeat (first | exact Drawn0.refl _ | apply Drawn0.step)⟩
          · rw [if_neg c5] at H
            have c5b0 : decide (128 ≤ (bt a0 x3_1)) = false := decide_eq_false c5
            clear c5
            have H' := Aside0.mk H
            clear H
            have p4 : 0 ≤ (x3_1 : Int) := of_decide_eq_true (by first | (with_reducible assumption) | assumption)
            have q4 : x3_1 < (a0.size : Int) := of_decide_eq_true (by first | (with_reducible assumption) | assumption)
            have hx4 := bt_at a0 x3_1
            replace p4 := eq_true p4
            replace q4 := eq_true q4
            go_wp2
            go_roundg k1
            case measure => have := HK1.out; omega
            case rel => exact ⟨(wrap64 (x3_1 + 1)), (by first | rfl | (simp; done) | (simp [*]; done)), H', ⟨by have := HK1.out; omega⟩, by repeat (first | exact Drawn0.refl _ | apply Drawn0.step)⟩
        · rw [if_neg c3] at H
          exact absurd H (by simp)
      · rw [if_neg c2] at H
        have c2b0 : decide (x3_1 < (a0.size : Int)) = false := decide_eq_false c2
        clear c2
        obtain rfl := Option.some.inj H
        go_wp2
        go_ret
        exact ⟨by first | rfl | (simp; done) | (simp [*]; done), by repeat (first | exact Drawn0.refl _ | apply Drawn0.step)⟩

/-! ### laws_plain9: function 20 -/
def laws_plain9.l0 : Nat → List ByteArray → Int → Int → Option (Bool)
  | 0, _, _, _ => none
  | k + 1, x0, x5, x6 => if x6 < x5 then (if 0 ≤ x6 then (if x6 < (x0.length : Int) then (if ((rdOf ByteArray.empty x0 x6).size : Int) > 500 then (some false) else ((spec_ASCII.f k (rdOf ByteArray.empty x0 x6)).bind fun t103 => (if t103 = true then (laws_plain9.l0 k x0 x5 (wrap64 (x6 + 1))) else (some false)))) else (none)) else (none)) else (some true)
def laws_plain9.f (k : Nat) (l0 : List ByteArray) : Option (Bool) := laws_plain9.l0 k l0 (l0.length : Int) 0
theorem laws_plain9.mono_l : ∀ k, (∀ y0 y1 y2, LeO (laws_plain9.l0 k y0 y1 y2) (laws_plain9.l0 (k + 1) y0 y1 y2))
  | 0 => fun _ _ _ r h => by simp [laws_plain9.l0] at h
  | k + 1 => by
    have ih0 := laws_plain9.mono_l k
    · intro y0 y1 y2
      unfold laws_plain9.l0
      repeat' first
      | (with_reducible exact ih0 _ _ _)
      | (with_reducible exact spec_ASCII.mono _ _)
      | (with_reducible exact LeO.refl _)
      | (with_reducible exact LeO.none _)
      | (with_reducible refine LeO.ite ?_ ?_)
      | (with_reducible refine LeO.bind ?_ (fun _ => ?_))
      | exact ih0 _ _ _
      | exact spec_ASCII.mono _ _
      | exact LeO.none _
      | refine LeO.ite ?_ ?_
      | refine LeO.bind ?_ (fun _ => ?_)
theorem laws_plain9.mono : ∀ a0 k, LeO (laws_plain9.f k a0) (laws_plain9.f (k + 1) a0) := by
  intro a0 k
  have ih0 := laws_plain9.mono_l k
  unfold laws_plain9.f
  repeat' first
      | (with_reducible exact ih0 _ _ _)
      | (with_reducible exact spec_ASCII.mono _ _)
      | (with_reducible exact LeO.refl _)
      | (with_reducible exact LeO.none _)
      | (with_reducible refine LeO.ite ?_ ?_)
      | (with_reducible refine LeO.bind ?_ (fun _ => ?_))
      | exact ih0 _ _ _
      | exact spec_ASCII.mono _ _
      | exact LeO.none _
      | refine LeO.ite ?_ ?_
      | refine LeO.bind ?_ (fun _ => ?_)
set_option maxHeartbeats 8000000 in
set_option maxRecDepth 100000 in
theorem laws_plain9.calls (k : Nat) (A0 : Option Addr) (c0 : Nat) (l0 : List ByteArray) (r : Bool) (w : World) (hr0 : Kd.C Kd.string w A0 l0.length l0) (hc0 : l0.length ≤ c0) (h : laws_plain9.f k l0 = some r) :
    Calls Try.prog 20 #[.slice A0 l0.length c0] w fun e w' => e = .returned (.bool r) ∧ Drawn0 w w' := by
  have HR0 := Aside0.mk hr0
  have HC0 := Aside0.mk hc0
  clear hr0 hc0
  have H : (laws_plain9.l0 k l0 (l0.length : Int) 0) = some r := h
  clear h
  have H' := Aside0.mk H
  clear H
  go_enter Try.func20, Try.ntmps20
  go_wp2
  go_loopg [6] k (fun kq v6 w' => ∃ (x6_1 : Int), v6 = .int .i64 x6_1 ∧ Aside0 (laws_plain9.l0 kq l0 (l0.length : Int) x6_1 = some r) ∧ Aside0 (kq ≤ k) ∧ Drawn0 w w')
  case atStart => exact ⟨(0), (by first | rfl | (simp; done) | (simp [*]; done)), H', ⟨Nat.le_refl _⟩, by repeat (first | exact Drawn0.refl _ | apply Drawn0.step)⟩
  case round =>
    clear H'
    obtain ⟨x6_1, rfl, HA, HK1, ⟨m1, rfl⟩⟩ := hrel
    cases gk with
    | zero => exact absurd HA.out (by simp [laws_plain9.l0])
    | succ k1 =>
      have H := HA.out
      clear HA
      simp only [laws_plain9.l0] at H
      by_cases c2 : x6_1 < (l0.length : Int)
      · rw [if_pos c2] at H
        have c2b0 : decide (x6_1 < (l0.length : Int)) = true := decide_eq_true c2
        clear c2
        by_cases c3 : 0 ≤ x6_1
        · rw [if_pos c3] at H
          have c3b0 : decide (0 ≤ x6_1) = true := decide_eq_true c3
          clear c3
          by_cases c4 : x6_1 < (l0.length : Int)
          · rw [if_pos c4] at H
            have c4b0 : decide (x6_1 < (l0.length : Int)) = true := decide_eq_true c4
            clear c4
            by_cases c5 : ((rdOf ByteArray.empty l0 x6_1).size : Int) > 500
            · rw [if_pos c5] at H
              have c5b0 : decide (500 < ((rdOf ByteArray.empty l0 x6_1).size : Int)) = true := decide_eq_true c5
              have c5b1 : decide (500 < (rdOf ByteArray.empty l0 x6_1).size) = true := decide_eq_true (by omega)
              clear c5
              obtain rfl := Option.some.inj H
              have p101 : 0 ≤ (x6_1 : Int) := of_decide_eq_true (by first | (with_reducible assumption) | assumption)
              have q101 : x6_1 < (l0.length : Int) := of_decide_eq_true (by first | (with_reducible assumption) | assumption)
              obtain ⟨ad101, e101, hx101_0⟩ := Kd.at_string HR0.out x6_1 p101 q101
              cases e101
              replace p101 := eq_true p101
              replace q101 := eq_true q101
              go_wp2
              go_ret
              exact ⟨by first | rfl | (simp; done) | (simp [*]; done), by repeat (first | exact Drawn0.refl _ | apply Drawn0.step)⟩
            · rw [if_neg c5] at H
              have c5b0 : decide (500 < ((rdOf ByteArray.empty l0 x6_1).size : Int)) = false := decide_eq_false c5
              have c5b1 : decide (500 < (rdOf ByteArray.empty l0 x6_1).size) = false := decide_eq_false (by omega)
              clear c5
              replace H := Option.bind_eq_some_iff.mp H
              obtain ⟨t103, A60, H⟩ := H
              replace H : (if t103 = true then (laws_plain9.l0 k1 l0 (l0.length : Int) (wrap64 (x6_1 + 1))) else (some false)) = some r := H
              have A6 := Aside0.mk A60
              clear A60
              by_cases c7 : t103 = true
              · subst c7
                have H1 : (laws_plain9.l0 k1 l0 (l0.length : Int) (wrap64 (x6_1 + 1))) = some r := by rw [if_pos rfl] at H; exact H
                clear H
                have H := H1
                clear H1
                have H' := Aside0.mk H
                clear H
                have p101 : 0 ≤ (x6_1 : Int) := of_decide_eq_true (by first | (with_reducible assumption) | assumption)
                have q101 : x6_1 < (l0.length : Int) := of_decide_eq_true (by first | (with_reducible assumption) | assumption)
                obtain ⟨ad101, e101, hx101_0⟩ := Kd.at_string HR0.out x6_1 p101 q101
                cases e101
                replace p101 := eq_true p101
                replace q101 := eq_true q101
                have p102 : 0 ≤ (x6_1 : Int) := of_decide_eq_true (by first | (with_reducible assumption) | assumption)
                have q102 : x6_1 < (l0.length : Int) := of_decide_eq_true (by first | (with_reducible assumption) | assumption)
                obtain ⟨ad102, e102, hx102_0⟩ := Kd.at_string HR0.out x6_1 p102 q102
                obtain rfl : ad101 = ad102 := (by injection e102)
                replace p102 := eq_true p102
                replace q102 := eq_true q102
                go_wp2_with (first | (go_at_call 45; (with_reducible refine (spec_ASCII.calls k1 (rdOf ByteArray.empty l0 x6_1) true _ A6.out).mono ?_); rintro e w' ⟨rfl, ⟨nd, rfl⟩⟩))
                go_roundg k1
                case measure => have := HK1.out; omega
                case rel => exact ⟨(wrap64 (x6_1 + 1)), (by first | rfl | (simp; done) | (simp [*]; done)), H', ⟨by have := HK1.out; omega⟩, by repeat (first | exact Drawn0.refl _ | apply Drawn0.step)⟩
              · replace c7 := Bool.eq_false_iff.mpr c7
                subst c7
                have H1 : (some false) = some r := by rw [if_neg (show ¬ (false = true) by decide)] at H; exact H
                clear H
                have H := H1
                clear H1
                obtain rfl := Option.some.inj H
                have p101 : 0 ≤ (x6_1 : Int) := of_decide_eq_true (by first | (with_reducible assumption) | assumption)
                have q101 : x6_1 < (l0.length : Int) := of_decide_eq_true (by first | (with_reducible assumption) | assumption)
                obtain ⟨ad101, e101, hx101_0⟩ := Kd.at_string HR0.out x6_1 p101 q101
                cases e101
                replace p101 := eq_true p101
                replace q101 := eq_true q101
                have p102 : 0 ≤ (x6_1 : Int) := of_decide_eq_true (by first | (with_reducible assumption) | assumption)
                have q102 : x6_1 < (l0.length : Int) := of_decide_eq_true (by first | (with_reducible assumption) | assumption)
                obtain ⟨ad102, e102, hx102_0⟩ := Kd.at_string HR0.out x6_1 p102 q102
                obtain rfl : ad101 = ad102 := (by injection e102)
                replace p102 := eq_true p102
                replace q102 := eq_true q102
                go_wp2_with (first | (go_at_call 45; (with_reducible refine (spec_ASCII.calls k1 (rdOf ByteArray.empty l0 x6_1) false _ A6.out).mono ?_); rintro e w' ⟨rfl, ⟨nd, rfl⟩⟩))
                go_ret
                exact ⟨by first | rfl | (simp; done) | (simp [*]; done), by repeat (first | exact Drawn0.refl _ | apply Drawn0.step)⟩
          · rw [if_neg c4] at H
            exact absurd H (by simp)
        · rw [if_neg c3] at H
          exact absurd H (by simp)
      · rw [if_neg c2] at H
        have c2b0 : decide (x6_1 < (l0.length : Int)) = false := decide_eq_false c2
        clear c2
        obtain rfl := Option.some.inj H
        go_wp2
        go_ret
        exact ⟨by first | rfl | (simp; done) | (simp [*]; done), by repeat (first | exact Drawn0.refl _ | apply Drawn0.step)⟩

/-! ### laws_far9: function 21 -/
def laws_far9.f (a0 : Int) : Option (Bool) := if a0 < (-1000000) then (some true) else (some (decide (a0 > 1000000)))
set_option maxHeartbeats 8000000 in
set_option maxRecDepth 100000 in
theorem laws_far9.calls (a0 : Int) (r : Bool) (w : World) (h : laws_far9.f a0 = some r) :
    Calls Try.prog 21 #[.int .i64 a0] w fun e w' => e = .returned (.bool r) ∧ Drawn0 w w' := by
  have H : (if a0 < (-1000000) then (some true) else (some (decide (a0 > 1000000)))) = some r := h
  clear h
  by_cases c2 : a0 < (-1000000)
  · rw [if_pos c2] at H
    have c2b0 : decide (a0 < (-1000000)) = true := decide_eq_true c2
    clear c2
    obtain rfl := Option.some.inj H
    go_enter Try.func21, Try.ntmps21
    go_wp2
    go_ret
    exact ⟨by first | rfl | (simp; done) | (simp [*]; done), by repeat (first | exact Drawn0.refl _ | apply Drawn0.step)⟩
  · rw [if_neg c2] at H
    have c2b0 : decide (a0 < (-1000000)) = false := decide_eq_false c2
    clear c2
    obtain rfl := Option.some.inj H
    go_enter Try.func21, Try.ntmps21
    go_wp2
    go_ret
    exact ⟨by first | rfl | (simp; done) | (simp [*]; done), by repeat (first | exact Drawn0.refl _ | apply Drawn0.step)⟩

-- GIVEN: function 28 (spec_Abbreviated): a contract of ours

-- NOT PRINTED: function 75 (errors_New)

-- NOT PRINTED: function 76 (goutils_Abbreviate)

-- NOT PRINTED: function 72 (goutils_AbbreviateFull)

-- GIVEN: function 66 (sprig_abbrevboth): a contract of ours

/-! ### sprig_AbbrevBoth: function 49 -/
def sprig_AbbrevBoth.f (a0 : Int) (a1 : Int) (a2 : ByteArray) : Option (ByteArray) := (sprig_abbrevboth.f a0 a1 a2).bind fun t105 => (some t105)
set_option maxHeartbeats 8000000 in
set_option maxRecDepth 100000 in
theorem sprig_AbbrevBoth.calls (a0 : Int) (a1 : Int) (a2 : ByteArray) (r : ByteArray) (w : World) (h : sprig_AbbrevBoth.f a0 a1 a2 = some r) :
    Calls Try.prog 49 #[.int .i64 a0, .int .i64 a1, .string a2] w fun e w' => e = .returned (.string r) ∧ Drawn0 w w' := by
  have H : ((sprig_abbrevboth.f a0 a1 a2).bind fun t105 => (some t105)) = some r := h
  clear h
  replace H := Option.bind_eq_some_iff.mp H
  obtain ⟨t105, A40, H⟩ := H
  replace H : (some t105) = some r := H
  have A4 := Aside0.mk A40
  clear A40
  obtain rfl := Option.some.inj H
  go_enter Try.func49, Try.ntmps49
  go_wp2_with (first | ((with_reducible refine gate_callee (f := 66) rfl ?_); refine goesL_ (some 10) rfl rfl Try.func66 (by kernel_rfl) rfl #[.int .i64 a0, .int .i64 a1, .string a2] rfl (by (try simp only [List.map_toArray, List.map_cons, List.map_nil]); first | done | rfl | (simp only [List.length_drop, List.length_take]; rfl)) ?_; (with_reducible refine (sprig_abbrevboth.calls a0 a1 a2 t105 _ A4.out).mono ?_); rintro e w' ⟨rfl, ⟨nd, rfl⟩⟩; refine ⟨_, rfl, ?_⟩))
  go_ret
  exact ⟨by first | rfl | (simp; done) | (simp [*]; done), by repeat (first | exact Drawn0.refl _ | apply Drawn0.step)⟩

/-! ### impl_AbbrevBoth: function 29 -/
def impl_AbbrevBoth.f (a0 : Int) (a1 : Int) (a2 : ByteArray) : Option (ByteArray) := (sprig_AbbrevBoth.f a0 a1 a2).bind fun t106 => (some t106)
set_option maxHeartbeats 8000000 in
set_option maxRecDepth 100000 in
theorem impl_AbbrevBoth.calls (a0 : Int) (a1 : Int) (a2 : ByteArray) (r : ByteArray) (w : World) (h : impl_AbbrevBoth.f a0 a1 a2 = some r) :
    Calls Try.prog 29 #[.int .i64 a0, .int .i64 a1, .string a2] w fun e w' => e = .returned (.string r) ∧ Drawn0 w w' := by
  have H : ((sprig_AbbrevBoth.f a0 a1 a2).bind fun t106 => (some t106)) = some r := h
  clear h
  replace H := Option.bind_eq_some_iff.mp H
  obtain ⟨t106, A40, H⟩ := H
  replace H : (some t106) = some r := H
  have A4 := Aside0.mk A40
  clear A40
  obtain rfl := Option.some.inj H
  go_enter Try.func29, Try.ntmps29
  go_wp2_with (first | ((with_reducible refine gate_callee (f := 49) rfl ?_); refine goesL_ (some 10) rfl rfl Try.func49 (by kernel_rfl) rfl #[.int .i64 a0, .int .i64 a1, .string a2] rfl (by (try simp only [List.map_toArray, List.map_cons, List.map_nil]); first | done | rfl | (simp only [List.length_drop, List.length_take]; rfl)) ?_; (with_reducible refine (sprig_AbbrevBoth.calls a0 a1 a2 t106 _ A4.out).mono ?_); rintro e w' ⟨rfl, ⟨nd, rfl⟩⟩; refine ⟨_, rfl, ?_⟩))
  go_ret
  exact ⟨by first | rfl | (simp; done) | (simp [*]; done), by repeat (first | exact Drawn0.refl _ | apply Drawn0.step)⟩

/-! ### laws_FnAbbrevBoth: function 9 -/
mutual
def laws_FnAbbrevBoth.j0 : Nat → Int → Int → ByteArray → Bool → Option (Bool)
  | 0, _, _, _, _ => none
  | k + 1, x0, x1, x2, x24 => if x24 = true then (some true) else ((spec_Abbreviated.f x2 x0 x1).bind fun bt113 => (if bt113.2.1 = true then (laws_FnAbbrevBoth.j1 k x0 x1 x2 bt113.1 (!bt113.2.2)) else (laws_FnAbbrevBoth.j1 k x0 x1 x2 bt113.1 true)))
def laws_FnAbbrevBoth.j1 : Nat → Int → Int → ByteArray → ByteArray → Bool → Option (Bool)
  | 0, _, _, _, _, _ => none
  | k + 1, x0, x1, x2, x7, x38 => if x38 = true then ((impl_AbbrevBoth.f x0 x1 x2).bind fun t116 => (if t116.toList = x2.toList then ((impl_AbbrevBoth.f 0 4 (⟨#[97, 98, 99, 100, 101]⟩ : ByteArray)).bind fun t117 => (some (t117.toList == ([97, 46, 46, 46] : List UInt8)))) else (some false))) else ((impl_AbbrevBoth.f x0 x1 x2).bind fun t118 => (if t118.toList = x7.toList then ((impl_AbbrevBoth.f 0 4 (⟨#[97, 98, 99, 100, 101]⟩ : ByteArray)).bind fun t119 => (some (t119.toList == ([97, 46, 46, 46] : List UInt8)))) else (some false)))
end
def laws_FnAbbrevBoth.f (k : Nat) (a0 : Int) (a1 : Int) (a2 : ByteArray) : Option (Bool) := if (a2.size : Int) > 2147483647 then (some true) else ((laws_plain9.f k (([a2] : List ByteArray))).bind fun t110 => (if t110 = true then ((laws_far9.f a0).bind fun t111 => (if t111 = true then (laws_FnAbbrevBoth.j0 k a0 a1 a2 true) else ((laws_far9.f a1).bind fun t112 => (laws_FnAbbrevBoth.j0 k a0 a1 a2 t112)))) else (laws_FnAbbrevBoth.j0 k a0 a1 a2 true)))
theorem laws_FnAbbrevBoth.mono_l : ∀ k, (∀ y0 y1 y2 y3, LeO (laws_FnAbbrevBoth.j0 k y0 y1 y2 y3) (laws_FnAbbrevBoth.j0 (k + 1) y0 y1 y2 y3)) ∧ (∀ y0 y1 y2 y3 y4, LeO (laws_FnAbbrevBoth.j1 k y0 y1 y2 y3 y4) (laws_FnAbbrevBoth.j1 (k + 1) y0 y1 y2 y3 y4))
  | 0 => ⟨fun _ _ _ _ r h => by simp [laws_FnAbbrevBoth.j0] at h, fun _ _ _ _ _ r h => by simp [laws_FnAbbrevBoth.j1] at h⟩
  | k + 1 => by
    obtain ⟨ih0, ih1⟩ := laws_FnAbbrevBoth.mono_l k
    refine ⟨?_, ?_⟩
    · intro y0 y1 y2 y3
      unfold laws_FnAbbrevBoth.j0
      repeat' first
      | (with_reducible exact ih0 _ _ _ _)
      | (with_reducible exact ih1 _ _ _ _ _)
      | (with_reducible exact laws_plain9.mono _ _)
      | (with_reducible exact LeO.refl _)
      | (with_reducible exact LeO.none _)
      | (with_reducible refine LeO.ite ?_ ?_)
      | (with_reducible refine LeO.bind ?_ (fun _ => ?_))
      | exact ih0 _ _ _ _
      | exact ih1 _ _ _ _ _
      | exact laws_plain9.mono _ _
      | exact LeO.none _
      | refine LeO.ite ?_ ?_
      | refine LeO.bind ?_ (fun _ => ?_)
    · intro y0 y1 y2 y3 y4
      unfold laws_FnAbbrevBoth.j1
      repeat' first
      | (with_reducible exact ih0 _ _ _ _)
      | (with_reducible exact ih1 _ _ _ _ _)
      | (with_reducible exact laws_plain9.mono _ _)
      | (with_reducible exact LeO.refl _)
      | (with_reducible exact LeO.none _)
      | (with_reducible refine LeO.ite ?_ ?_)
      | (with_reducible refine LeO.bind ?_ (fun _ => ?_))
      | exact ih0 _ _ _ _
      | exact ih1 _ _ _ _ _
      | exact laws_plain9.mono _ _
      | exact LeO.none _
      | refine LeO.ite ?_ ?_
      | refine LeO.bind ?_ (fun _ => ?_)
theorem laws_FnAbbrevBoth.mono : ∀ a0 a1 a2 k, LeO (laws_FnAbbrevBoth.f k a0 a1 a2) (laws_FnAbbrevBoth.f (k + 1) a0 a1 a2) := by
  intro a0 a1 a2 k
  obtain ⟨ih0, ih1⟩ := laws_FnAbbrevBoth.mono_l k
  unfold laws_FnAbbrevBoth.f
  repeat' first
      | (with_reducible exact ih0 _ _ _ _)
      | (with_reducible exact ih1 _ _ _ _ _)
      | (with_reducible exact laws_plain9.mono _ _)
      | (with_reducible exact LeO.refl _)
      | (with_reducible exact LeO.none _)
      | (with_reducible refine LeO.ite ?_ ?_)
      | (with_reducible refine LeO.bind ?_ (fun _ => ?_))
      | exact ih0 _ _ _ _
      | exact ih1 _ _ _ _ _
      | exact laws_plain9.mono _ _
      | exact LeO.none _
      | refine LeO.ite ?_ ?_
      | refine LeO.bind ?_ (fun _ => ?_)
set_option maxHeartbeats 8000000 in
set_option maxRecDepth 100000 in
theorem laws_FnAbbrevBoth.calls (k : Nat) (a0 : Int) (a1 : Int) (a2 : ByteArray) (r : Bool) (w : World) (h : laws_FnAbbrevBoth.f k a0 a1 a2 = some r) :
    Calls Try.prog 9 #[.int .i64 a0, .int .i64 a1, .string a2] w fun e w' => e = .returned (.bool r) ∧ Below w.heap.size w w' := by
  have HB := Aside0.mk (Below.refl w.heap.size w)
  have H : (if (a2.size : Int) > 2147483647 then (some true) else ((laws_plain9.f k (([a2] : List ByteArray))).bind fun t110 => (if t110 = true then ((laws_far9.f a0).bind fun t111 => (if t111 = true then (laws_FnAbbrevBoth.j0 k a0 a1 a2 true) else ((laws_far9.f a1).bind fun t112 => (laws_FnAbbrevBoth.j0 k a0 a1 a2 t112)))) else (laws_FnAbbrevBoth.j0 k a0 a1 a2 true)))) = some r := h
  clear h
  by_cases c4 : (a2.size : Int) > 2147483647
  · rw [if_pos c4] at H
    have c4b0 : decide (2147483647 < (a2.size : Int)) = true := decide_eq_true c4
    have c4b1 : decide (2147483647 < a2.size) = true := decide_eq_true (by omega)
    clear c4
    obtain rfl := Option.some.inj H
    go_enter Try.func9, Try.ntmps9
    go_wp2
    go_ret
    exact ⟨by first | rfl | (simp [errW_none, errW_some] <;> rfl) | (simp [*, errW_none, errW_some] <;> rfl), by repeat (first | (with_reducible first | exact HB.out | apply below_alloc | apply pw_below_drewN | apply below_drew1) | exact HB.out)⟩
  · rw [if_neg c4] at H
    have c4b0 : decide (2147483647 < (a2.size : Int)) = false := decide_eq_false c4
    have c4b1 : decide (2147483647 < a2.size) = false := decide_eq_false (by omega)
    clear c4
    have HC5 := Aside0.mk H
    clear H
    go_enter Try.func9, Try.ntmps9
    go_upto_region 3 with (fail)
    go_cut [24] (fun v24 wc => ∃ (kq : Nat) (x24_4 : Bool), v24 = .bool x24_4 ∧ Aside0 (laws_FnAbbrevBoth.j0 kq a0 a1 a2 x24_4 = some r) ∧ Aside0 (kq ≤ k) ∧ Aside0 (Below w.heap.size w wc))
    case first =>
      have H := HC5.out
      clear HC5
      obtain ⟨y107, hy107⟩ : ∃ y_ : List ByteArray, y_ = (([a2] : List ByteArray)) := ⟨_, rfl⟩
      replace H : ((laws_plain9.f k y107).bind fun t110 => (if t110 = true then ((laws_far9.f a0).bind fun t111 => (if t111 = true then (laws_FnAbbrevBoth.j0 k a0 a1 a2 true) else ((laws_far9.f a1).bind fun t112 => (laws_FnAbbrevBoth.j0 k a0 a1 a2 t112)))) else (laws_FnAbbrevBoth.j0 k a0 a1 a2 true))) = some r := by first | (rw [hy107]; with_reducible exact H) | (have H2_ := (Option.bind_some _ _).symm.trans H; rw [hy107]; with_reducible exact H2_) | (have H2_ := (Option.bind_some _ _).symm.trans H; with_reducible exact H2_) | with_reducible exact H | (rw [hy107]; exact H) | exact H
      have Ny107 := Aside0.mk hy107
      clear hy107
      replace H := Option.bind_eq_some_iff.mp H
      obtain ⟨t110, A60, H⟩ := H
      replace H : (if t110 = true then ((laws_far9.f a0).bind fun t111 => (if t111 = true then (laws_FnAbbrevBoth.j0 k a0 a1 a2 true) else ((laws_far9.f a1).bind fun t112 => (laws_FnAbbrevBoth.j0 k a0 a1 a2 t112)))) else (laws_FnAbbrevBoth.j0 k a0 a1 a2 true)) = some r := H
      have A6 := Aside0.mk A60
      clear A60
      by_cases c7 : t110 = true
      · subst c7
        have H1 : ((laws_far9.f a0).bind fun t111 => (if t111 = true then (laws_FnAbbrevBoth.j0 k a0 a1 a2 true) else ((laws_far9.f a1).bind fun t112 => (laws_FnAbbrevBoth.j0 k a0 a1 a2 t112)))) = some r := by rw [if_pos rfl] at H; exact H
        clear H
        have H := H1
        clear H1
        replace H := Option.bind_eq_some_iff.mp H
        obtain ⟨t111, A80, H⟩ := H
        replace H : (if t111 = true then (laws_FnAbbrevBoth.j0 k a0 a1 a2 true) else ((laws_far9.f a1).bind fun t112 => (laws_FnAbbrevBoth.j0 k a0 a1 a2 t112))) = some r := H
        have A8 := Aside0.mk A80
        clear A80
        by_cases c9 : t111 = true
        · subst c9
          have H1 : (laws_FnAbbrevBoth.j0 k a0 a1 a2 true) = some r := by rw [if_pos rfl] at H; exact H
          clear H
          have H := H1
          clear H1
          have H' := Aside0.mk H
          clear H
          go_wp2_with (first | ((with_reducible refine gate_dst (N := 14) rfl ?_); refine Kd.R_lit Kd.string _ 9 ?hg (N := 14) ?hd (xs := ([a2] : List ByteArray)) (inner := [.string a2]) (ok := fun _ => True) (okp := fun _ => True) ?hr ?hp (fun _ hk => hk) trivial (Below.refl _ _) (Nat.le_refl _) (by simp) ?_; (case hd => rfl); (case hg => rfl); (case hr => first | (go_simp; done) | (go_simp; rfl)); (case hp => exact (Reps.one (show Kd.M Kd.string _ _ _ a2 [.string a2] from rfl) (Reps.none _ _))); intro v108 w10 ho11 hb hg_ hnew_; clear hg_ hnew_; (first | rw [← Ny107.out] at ho11 | (simp only [Int.reduceToNat] at ho11; rw [← Ny107.out] at ho11)); have n0_ := Aside0.mk (Kd.R_lower ho11 (below_size (by repeat (first | (with_reducible first | exact HB.out | apply below_alloc | apply pw_below_drewN | apply below_drew1) | exact HB.out)))); have n1_ := Aside0.mk (below_step (by repeat (first | (with_reducible first | exact HB.out | apply below_alloc | apply pw_below_drewN | apply below_drew1) | exact HB.out)) hb); clear HB; have HO109 := n0_; have HB := n1_; clear n0_ n1_; clear hb ho11; obtain ⟨Ao12, co12, eo12⟩ := Kd.R_slice HO109.out; subst eo12) | ((with_reducible refine gate_callee (f := 20) rfl ?_); refine goesL_ (some 15) rfl rfl Try.func20 (by kernel_rfl) rfl #[.slice Ao12 y107.length co12] rfl (by (try simp only [List.map_toArray, List.map_cons, List.map_nil]); first | done | rfl | (simp only [List.length_drop, List.length_take]; rfl)) ?_; (with_reducible refine (laws_plain9.calls k _ _ y107 true _ ?side1 ?side2 A6.out).mono ?_); (case side1 => repeat (first | exact (Kd.R_reads' HO109.out).2.2 | (with_reducible refine Kd.C_alloc ?_ _) | (with_reducible refine Kd.C_drewN ?_ _) | (with_reducible refine Kd.C_drew ?_))); (case side2 => exact (Kd.R_reads' HO109.out).2.1); rintro e w' ⟨rfl, ⟨nd, rfl⟩⟩; refine ⟨_, rfl, ?_⟩) | (go_at_call 21; (with_reducible refine (laws_far9.calls a0 true _ A8.out).mono ?_); rintro e w' ⟨rfl, ⟨nd, rfl⟩⟩))
          go_meet
          case rel => exact ⟨_, (true), (by first | rfl | (simp; done) | (simp [*]; done)), H', ⟨by first | omega | exact Nat.le_refl _⟩, ⟨by repeat (first | (with_reducible first | exact HB.out | apply below_alloc | apply pw_below_drewN | apply below_drew1) | exact HB.out)⟩⟩
        · replace c9 := Bool.eq_false_iff.mpr c9
          subst c9
          have H1 : ((laws_far9.f a1).bind fun t112 => (laws_FnAbbrevBoth.j0 k a0 a1 a2 t112)) = some r := by rw [if_neg (show ¬ (false = true) by decide)] at H; exact H
          clear H
          have H := H1
          clear H1
          replace H := Option.bind_eq_some_iff.mp H
          obtain ⟨t112, A130, H⟩ := H
          replace H : (laws_FnAbbrevBoth.j0 k a0 a1 a2 t112) = some r := H
          have A13 := Aside0.mk A130
          clear A130
          have H' := Aside0.mk H
          clear H
          go_wp2_with (first | ((with_reducible refine gate_dst (N := 14) rfl ?_); refine Kd.R_lit Kd.string _ 9 ?hg (N := 14) ?hd (xs := ([a2] : List ByteArray)) (inner := [.string a2]) (ok := fun _ => True) (okp := fun _ => True) ?hr ?hp (fun _ hk => hk) trivial (Below.refl _ _) (Nat.le_refl _) (by simp) ?_; (case hd => rfl); (case hg => rfl); (case hr => first | (go_simp; done) | (go_simp; rfl)); (case hp => exact (Reps.one (show Kd.M Kd.string _ _ _ a2 [.string a2] from rfl) (Reps.none _ _))); intro v108 w14 ho15 hb hg_ hnew_; clear hg_ hnew_; (first | rw [← Ny107.out] at ho15 | (simp only [Int.reduceToNat] at ho15; rw [← Ny107.out] at ho15)); have n0_ := Aside0.mk (Kd.R_lower ho15 (below_size (by repeat (first | (with_reducible first | exact HB.out | apply below_alloc | apply pw_below_drewN | apply below_drew1) | exact HB.out)))); have n1_ := Aside0.mk (below_step (by repeat (first | (with_reducible first | exact HB.out | apply below_alloc | apply pw_below_drewN | apply below_drew1) | exact HB.out)) hb); clear HB; have HO109 := n0_; have HB := n1_; clear n0_ n1_; clear hb ho15; obtain ⟨Ao16, co16, eo16⟩ := Kd.R_slice HO109.out; subst eo16) | ((with_reducible refine gate_callee (f := 20) rfl ?_); refine goesL_ (some 15) rfl rfl Try.func20 (by kernel_rfl) rfl #[.slice Ao16 y107.length co16] rfl (by (try simp only [List.map_toArray, List.map_cons, List.map_nil]); first | done | rfl | (simp only [List.length_drop, List.length_take]; rfl)) ?_; (with_reducible refine (laws_plain9.calls k _ _ y107 true _ ?side1 ?side2 A6.out).mono ?_); (case side1 => repeat (first | exact (Kd.R_reads' HO109.out).2.2 | (with_reducible refine Kd.C_alloc ?_ _) | (with_reducible refine Kd.C_drewN ?_ _) | (with_reducible refine Kd.C_drew ?_))); (case side2 => exact (Kd.R_reads' HO109.out).2.1); rintro e w' ⟨rfl, ⟨nd, rfl⟩⟩; refine ⟨_, rfl, ?_⟩) | (go_at_call 21; (with_reducible refine (laws_far9.calls a0 false _ A8.out).mono ?_); rintro e w' ⟨rfl, ⟨nd, rfl⟩⟩) | (go_at_call 21; (with_reducible refine (laws_far9.calls a1 t112 _ A13.out).mono ?_); rintro e w' ⟨rfl, ⟨nd, rfl⟩⟩))
          go_meet
          case rel => exact ⟨_, (t112), (by first | rfl | (simp; done) | (simp [*]; done)), H', ⟨by first | omega | exact Nat.le_refl _⟩, ⟨by repeat (first | (with_reducible first | exact HB.out | apply below_alloc | apply pw_below_drewN | apply below_drew1) | exact HB.out)⟩⟩
      · replace c7 := Bool.eq_false_iff.mpr c7
        subst c7
        have H1 : (laws_FnAbbrevBoth.j0 k a0 a1 a2 true) = some r := by rw [if_neg (show ¬ (false = true) by decide)] at H; exact H
        clear H
        have H := H1
        clear H1
        have H' := Aside0.mk H
        clear H
        go_wp2_with (first | ((with_reducible refine gate_dst (N := 14) rfl ?_); refine Kd.R_lit Kd.string _ 9 ?hg (N := 14) ?hd (xs := ([a2] : List ByteArray)) (inner := [.string a2]) (ok := fun _ => True) (okp := fun _ => True) ?hr ?hp (fun _ hk => hk) trivial (Below.refl _ _) (Nat.le_refl _) (by simp) ?_; (case hd => rfl); (case hg => rfl); (case hr => first | (go_simp; done) | (go_simp; rfl)); (case hp => exact (Reps.one (show Kd.M Kd.string _ _ _ a2 [.string a2] from rfl) (Reps.none _ _))); intro v108 w17 ho18 hb hg_ hnew_; clear hg_ hnew_; (first | rw [← Ny107.out] at ho18 | (simp only [Int.reduceToNat] at ho18; rw [← Ny107.out] at ho18)); have n0_ := Aside0.mk (Kd.R_lower ho18 (below_size (by repeat (first | (with_reducible first | exact HB.out | apply below_alloc | apply pw_below_drewN | apply below_drew1) | exact HB.out)))); have n1_ := Aside0.mk (below_step (by repeat (first | (with_reducible first | exact HB.out | apply below_alloc | apply pw_below_drewN | apply below_drew1) | exact HB.out)) hb); clear HB; have HO109 := n0_; have HB := n1_; clear n0_ n1_; clear hb ho18; obtain ⟨Ao19, co19, eo19⟩ := Kd.R_slice HO109.out; subst eo19) | ((with_reducible refine gate_callee (f := 20) rfl ?_); refine goesL_ (some 15) rfl rfl Try.func20 (by kernel_rfl) rfl #[.slice Ao19 y107.length co19] rfl (by (try simp only [List.map_toArray, List.map_cons, List.map_nil]); first | done | rfl | (simp only [List.length_drop, List.length_take]; rfl)) ?_; (with_reducible refine (laws_plain9.calls k _ _ y107 false _ ?side1 ?side2 A6.out).mono ?_); (case side1 => repeat (first | exact (Kd.R_reads' HO109.out).2.2 | (with_reducible refine Kd.C_alloc ?_ _) | (with_reducible refine Kd.C_drewN ?_ _) | (with_reducible refine Kd.C_drew ?_))); (case side2 => exact (Kd.R_reads' HO109.out).2.1); rintro e w' ⟨rfl, ⟨nd, rfl⟩⟩; refine ⟨_, rfl, ?_⟩))
        go_meet
        case rel => exact ⟨_, (true), (by first | rfl | (simp; done) | (simp [*]; done)), H', ⟨by first | omega | exact Nat.le_refl _⟩, ⟨by repeat (first | (with_reducible first | exact HB.out | apply below_alloc | apply pw_below_drewN | apply below_drew1) | exact HB.out)⟩⟩
    case rest =>
      clear HC5
      try clear c2
      try clear p2
      try clear c4
      try clear c4b0
      try clear c4b1
      try clear c7
      try clear c9
      obtain ⟨kq, x24_4, rfl, HA, HJ4, HB⟩ := hcut
      cases kq with
      | zero => exact absurd HA.out (by simp [laws_FnAbbrevBoth.j0])
      | succ kj4 =>
        have H := HA.out
        clear HA
        simp only [laws_FnAbbrevBoth.j0] at H
        by_cases c20 : x24_4 = true
        · subst c20
          have H1 : (some true) = some r := by rw [if_pos rfl] at H; exact H
          clear H
          have H := H1
          clear H1
          obtain rfl := Option.some.inj H
          go_wp2
          go_ret
          exact ⟨by first | rfl | (simp [errW_none, errW_some] <;> rfl) | (simp [*, errW_none, errW_some] <;> rfl), by repeat (first | (with_reducible first | exact HB.out | apply below_alloc | apply pw_below_drewN | apply below_drew1) | exact HB.out)⟩
        · replace c20 := Bool.eq_false_iff.mpr c20
          subst c20
          have H1 : ((spec_Abbreviated.f a2 a0 a1).bind fun bt113 => (if bt113.2.1 = true then (laws_FnAbbrevBoth.j1 kj4 a0 a1 a2 bt113.1 (!bt113.2.2)) else (laws_FnAbbrevBoth.j1 kj4 a0 a1 a2 bt113.1 true))) = some r := by rw [if_neg (show ¬ (false = true) by decide)] at H; exact H
          clear H
          have H := H1
          clear H1
          replace H := Option.bind_eq_some_iff.mp H
          obtain ⟨⟨t113, t114, t115⟩, A210, H⟩ := H
          replace H : (if t114 = true then (laws_FnAbbrevBoth.j1 kj4 a0 a1 a2 t113 (!t115)) else (laws_FnAbbrevBoth.j1 kj4 a0 a1 a2 t113 true)) = some r := H
          have A21 := Aside0.mk A210
          clear A210
          have HC22 := Aside0.mk H
          clear H
          go_upto_region 6 with (first | ((with_reducible refine gate_callee (f := 28) rfl ?_); refine goesL_ (some 29) rfl rfl Try.func28 (by kernel_rfl) rfl #[.string a2, .int .i64 a0, .int .i64 a1] rfl (by (try simp only [List.map_toArray, List.map_cons, List.map_nil]); first | done | rfl | (simp only [List.length_drop, List.length_take]; rfl)) ?_; (with_reducible refine (spec_Abbreviated.calls a2 a0 a1 t113 t114 t115 _ A21.out).mono ?_); rintro e w' ⟨rfl, ⟨nd, rfl⟩⟩; refine ⟨_, rfl, ?_⟩))
          (try simp only [Act.put, List.setIfInBounds_toArray, List.set_cons_zero, List.set_cons_succ])
          go_cut [38] (fun v38 wc => ∃ (kq : Nat) (x38_21 : Bool), v38 = .bool x38_21 ∧ Aside0 (laws_FnAbbrevBoth.j1 kq a0 a1 a2 t113 x38_21 = some r) ∧ Aside0 (kq ≤ kj4) ∧ Aside0 (Below w.heap.size w wc))
          case first =>
            have H := HC22.out
            clear HC22
            by_cases c23 : t114 = true
            · subst c23
              have H1 : (laws_FnAbbrevBoth.j1 kj4 a0 a1 a2 t113 (!t115)) = some r := by rw [if_pos rfl] at H; exact H
              clear H
              have H := H1
              clear H1
              have H' := Aside0.mk H
              clear H
              go_wp2
              go_meet
              case rel => exact ⟨_, (!t115), (by first | rfl | (simp; done) | (simp [*]; done)), H', ⟨by have := HJ4.out; first | omega | exact Nat.le_refl _⟩, ⟨by repeat (first | (with_reducible first | exact HB.out | apply below_alloc | apply pw_below_drewN | apply below_drew1) | exact HB.out)⟩⟩
            · replace c23 := Bool.eq_false_iff.mpr c23
              subst c23
              have H1 : (laws_FnAbbrevBoth.j1 kj4 a0 a1 a2 t113 true) = some r := by rw [if_neg (show ¬ (false = true) by decide)] at H; exact H
              clear H
              have H := H1
              clear H1
              have H' := Aside0.mk H
              clear H
              go_wp2
              go_meet
              case rel => exact ⟨_, (true), (by first | rfl | (simp; done) | (simp [*]; done)), H', ⟨by have := HJ4.out; first | omega | exact Nat.le_refl _⟩, ⟨by repeat (first | (with_reducible first | exact HB.out | apply below_alloc | apply pw_below_drewN | apply below_drew1) | exact HB.out)⟩⟩
          case rest =>
            clear HC22
            try clear c2
            try clear p2
            try clear c4
            try clear c4b0
            try clear c4b1
            try clear c7
            try clear c9
            try clear c20
            try clear c23
            try clear p2
            obtain ⟨kq, x38_21, rfl, HA, HJ21, HB⟩ := hcut
            cases kq with
            | zero => exact absurd HA.out (by simp [laws_FnAbbrevBoth.j1])
            | succ kj21 =>
              have H := HA.out
              clear HA
              simp only [laws_FnAbbrevBoth.j1] at H
              by_cases c24 : x38_21 = true
              · subst c24
                have H1 : ((impl_AbbrevBoth.f a0 a1 a2).bind fun t116 => (if t116.toList = a2.toList then ((impl_AbbrevBoth.f 0 4 (⟨#[97, 98, 99, 100, 101]⟩ : ByteArray)).bind fun t117 => (some (t117.toList == ([97, 46, 46, 46] : List UInt8)))) else (some false))) = some r := by rw [if_pos rfl] at H; exact H
                clear H
                have H := H1
                clear H1
                replace H := Option.bind_eq_some_iff.mp H
                obtain ⟨t116, A250, H⟩ := H
                replace H : (if t116.toList = a2.toList then ((impl_AbbrevBoth.f 0 4 (⟨#[97, 98, 99, 100, 101]⟩ : ByteArray)).bind fun t117 => (some (t117.toList == ([97, 46, 46, 46] : List UInt8)))) else (some false)) = some r := H
                have A25 := Aside0.mk A250
                clear A250
                by_cases c26 : t116.toList = a2.toList
                · rw [if_pos c26] at H
                  have c26b0 : (t116.toList == a2.toList) = true := beq_iff_eq.mpr c26
                  have c26b1 : (t116.toList != a2.toList) = false := bne_eq_false_iff_eq.mpr c26
                  clear c26
                  replace H := Option.bind_eq_some_iff.mp H
                  obtain ⟨t117, A270, H⟩ := H
                  replace H : (some (t117.toList == ([97, 46, 46, 46] : List UInt8))) = some r := H
                  have A27 := Aside0.mk A270
                  clear A270
                  obtain rfl := Option.some.inj H
                  go_wp2_with (first | ((with_reducible refine gate_callee (f := 29) rfl ?_); refine goesL_ (some 43) rfl rfl Try.func29 (by kernel_rfl) rfl #[.int .i64 a0, .int .i64 a1, .string a2] rfl (by (try simp only [List.map_toArray, List.map_cons, List.map_nil]); first | done | rfl | (simp only [List.length_drop, List.length_take]; rfl)) ?_; (with_reducible refine (impl_AbbrevBoth.calls a0 a1 a2 t116 _ A25.out).mono ?_); rintro e w' ⟨rfl, ⟨nd, rfl⟩⟩; refine ⟨_, rfl, ?_⟩) | (go_at_call 29; (with_reducible refine (impl_AbbrevBoth.calls 0 4 (⟨#[97, 98, 99, 100, 101]⟩ : ByteArray) t117 _ A27.out).mono ?_); rintro e w' ⟨rfl, ⟨nd, rfl⟩⟩))
                  go_ret
                  exact ⟨by first | rfl | (simp [errW_none, errW_some] <;> rfl) | (simp [*, errW_none, errW_some] <;> rfl), by repeat (first | (with_reducible first | exact HB.out | apply below_alloc | apply pw_below_drewN | apply below_drew1) | exact HB.out)⟩
                · rw [if_neg c26] at H
                  have c26b0 : (t116.toList == a2.toList) = false := beq_eq_false_iff_ne.mpr c26
                  have c26b1 : (t116.toList != a2.toList) = true := bne_iff_ne.mpr c26
                  obtain rfl := Option.some.inj H
                  go_wp2_with (first | ((with_reducible refine gate_callee (f := 29) rfl ?_); refine goesL_ (some 43) rfl rfl Try.func29 (by kernel_rfl) rfl #[.int .i64 a0, .int .i64 a1, .string a2] rfl (by (try simp only [List.map_toArray, List.map_cons, List.map_nil]); first | done | rfl | (simp only [List.length_drop, List.length_take]; rfl)) ?_; (with_reducible refine (impl_AbbrevBoth.calls a0 a1 a2 t116 _ A25.out).mono ?_); rintro e w' ⟨rfl, ⟨nd, rfl⟩⟩; refine ⟨_, rfl, ?_⟩))
                  go_ret
                  exact ⟨by first | rfl | (simp [errW_none, errW_some] <;> rfl) | (simp [*, errW_none, errW_some] <;> rfl), by repeat (first | (with_reducible first | exact HB.out | apply below_alloc | apply pw_below_drewN | apply below_drew1) | exact HB.out)⟩
              · replace c24 := Bool.eq_false_iff.mpr c24
                subst c24
                have H1 : ((impl_AbbrevBoth.f a0 a1 a2).bind fun t118 => (if t118.toList = t113.toList then ((impl_AbbrevBoth.f 0 4 (⟨#[97, 98, 99, 100, 101]⟩ : ByteArray)).bind fun t119 => (some (t119.toList == ([97, 46, 46, 46] : List UInt8)))) else (some false))) = some r := by rw [if_neg (show ¬ (false = true) by decide)] at H; exact H
                clear H
                have H := H1
                clear H1
                replace H := Option.bind_eq_some_iff.mp H
                obtain ⟨t118, A280, H⟩ := H
                replace H : (if t118.toList = t113.toList then ((impl_AbbrevBoth.f 0 4 (⟨#[97, 98, 99, 100, 101]⟩ : ByteArray)).bind fun t119 => (some (t119.toList == ([97, 46, 46, 46] : List UInt8)))) else (some false)) = some r := H
                have A28 := Aside0.mk A280
                clear A280
                by_cases c29 : t118.toList = t113.toList
                · rw [if_pos c29] at H
                  have c29b0 : (t118.toList == t113.toList) = true := beq_iff_eq.mpr c29
                  have c29b1 : (t118.toList != t113.toList) = false := bne_eq_false_iff_eq.mpr c29
                  clear c29
                  replace H := Option.bind_eq_some_iff.mp H
                  obtain ⟨t119, A300, H⟩ := H
                  replace H : (some (t119.toList == ([97, 46, 46, 46] : List UInt8))) = some r := H
                  have A30 := Aside0.mk A300
                  clear A300
                  obtain rfl := Option.some.inj H
                  go_wp2_with (first | ((with_reducible refine gate_callee (f := 29) rfl ?_); refine goesL_ (some 43) rfl rfl Try.func29 (by kernel_rfl) rfl #[.int .i64 a0, .int .i64 a1, .string a2] rfl (by (try simp only [List.map_toArray, List.map_cons, List.map_nil]); first | done | rfl | (simp only [List.length_drop, List.length_take]; rfl)) ?_; (with_reducible refine (impl_AbbrevBoth.calls a0 a1 a2 t118 _ A28.out).mono ?_); rintro e w' ⟨rfl, ⟨nd, rfl⟩⟩; refine ⟨_, rfl, ?_⟩) | (go_at_call 29; (with_reducible refine (impl_AbbrevBoth.calls 0 4 (⟨#[97, 98, 99, 100, 101]⟩ : ByteArray) t119 _ A30.out).mono ?_); rintro e w' ⟨rfl, ⟨nd, rfl⟩⟩))
                  go_ret
                  exact ⟨by first | rfl | (simp [errW_none, errW_some] <;> rfl) | (simp [*, errW_none, errW_some] <;> rfl), by repeat (first | (with_reducible first | exact HB.out | apply below_alloc | apply pw_below_drewN | apply below_drew1) | exact HB.out)⟩
                · rw [if_neg c29] at H
                  have c29b0 : (t118.toList == t113.toList) = false := beq_eq_false_iff_ne.mpr c29
                  have c29b1 : (t118.toList != t113.toList) = true := bne_iff_ne.mpr c29
                  obtain rfl := Option.some.inj H
                  go_wp2_with (first | ((with_reducible refine gate_callee (f := 29) rfl ?_); refine goesL_ (some 43) rfl rfl Try.func29 (by kernel_rfl) rfl #[.int .i64 a0, .int .i64 a1, .string a2] rfl (by (try simp only [List.map_toArray, List.map_cons, List.map_nil]); first | done | rfl | (simp only [List.length_drop, List.length_take]; rfl)) ?_; (with_reducible refine (impl_AbbrevBoth.calls a0 a1 a2 t118 _ A28.out).mono ?_); rintro e w' ⟨rfl, ⟨nd, rfl⟩⟩; refine ⟨_, rfl, ?_⟩))
                  go_ret
                  exact ⟨by first | rfl | (simp [errW_none, errW_some] <;> rfl) | (simp [*, errW_none, errW_some] <;> rfl), by repeat (first | (with_reducible first | exact HB.out | apply below_alloc | apply pw_below_drewN | apply below_drew1) | exact HB.out)⟩

/-- THE ONE PURE STATEMENT of laws_FnAbbrevBoth: yours. -/
def laws_FnAbbrevBoth.Pure : Prop := ∀ (a0 : Int) (a1 : Int) (a2 : ByteArray), (Lit.int .i64 a0).wf = true → (Lit.int .i64 a1).wf = true → a2.size ≤ 140737488351232 → ∃ k, laws_FnAbbrevBoth.f k a0 a1 a2 = some true
theorem laws_FnAbbrevBoth.walk (P : laws_FnAbbrevBoth.Pure) (a0 : Int) (a1 : Int) (a2 : ByteArray) (w : World) (w0 : (Lit.int .i64 a0).wf = true) (w1 : (Lit.int .i64 a1).wf = true) (w2 : a2.size ≤ 140737488351232) :
    Calls Try.prog 9 #[.int .i64 a0, .int .i64 a1, .string a2] w fun e w' => e = .returned (.bool true) ∧ Below w.heap.size w w' := by
  obtain ⟨k, h⟩ := P a0 a1 a2 w0 w1 w2
  refine (laws_FnAbbrevBoth.calls k a0 a1 a2 true w h).mono ?_
  rintro e w' ⟨rfl, hd⟩
  exact ⟨rfl, hd⟩

end Go.Proofs.Ytjpocldnibmopaa.PFnAbbrevBoth
