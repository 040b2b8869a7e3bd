-- Written by gprint.py (a program of this session, over the kit's print) out of Lean's own print of the program.
import Derived.Test.YtpkdoinofenahaaDoorPFnSwapCasex0
namespace Go.Proofs.YtpkdoinofenahaaDoor.PFnSwapCase
open Go.Proofs.YtpkdoinofenahaaDoor.Giv
open Go.RowKit Go.Proofs.YtpkdoinofenahaaDoorW.PrintWords Go.Proofs.YtpkdoinofenahaaDoorW.PrintLast Go.Proofs.YtpkdoinofenahaaDoorW.PrintMore
attribute [local go_sem] max2_int min2_int max_two min_two max_three min_three max_four min_four   -- for this text's walks alone
set_option linter.unusedVariables false
set_option linter.unusedSimpArgs false

/-! ### spec_ASCII: function 51 -/
def spec_ASCII.l0 : Nat → ByteArray → Int → Option (Bool)
  | 0, _, _ => none
  | k + 1, x0, x3 => if x3 < (x0.size : Int) then (if 0 ≤ x3 then (if (bt x0 x3) ≥ 128 then (some false) else (spec_ASCII.l0 k x0 (wrap64 (x3 + 1)))) else (none)) else (some true)
def spec_ASCII.f (k : Nat) (a0 : ByteArray) : Option (Bool) := spec_ASCII.l0 k a0 0
theorem spec_ASCII.mono_l : ∀ k, (∀ y0 y1, LeO (spec_ASCII.l0 k y0 y1) (spec_ASCII.l0 (k + 1) y0 y1))
  | 0 => fun _ _ r h => by simp [spec_ASCII.l0] at h
  | k + 1 => by
    have ih0 := spec_ASCII.mono_l k
    · intro y0 y1
      unfold spec_ASCII.l0
      repeat' first
      | (with_reducible exact ih0 _ _)
      | (with_reducible exact LeO.refl _)
      | (with_reducible exact LeO.none _)
      | (with_reducible refine LeO.ite ?_ ?_)
      | (with_reducible refine LeO.bind ?_ (fun _ => ?_))
      | exact ih0 _ _
      | exact LeO.none _
      | refine LeO.ite ?_ ?_
      | refine LeO.bind ?_ (fun _ => ?_)
theorem spec_ASCII.mono : ∀ a0 k, LeO (spec_ASCII.f k a0) (spec_ASCII.f (k + 1) a0) := by
  intro a0 k
  have ih0 := spec_ASCII.mono_l k
  unfold spec_ASCII.f
  repeat' first
      | (with_reducible exact ih0 _ _)
      | (with_reducible exact LeO.refl _)
      | (with_reducible exact LeO.none _)
      | (with_reducible refine LeO.ite ?_ ?_)
      | (with_reducible refine LeO.bind ?_ (fun _ => ?_))
      | exact ih0 _ _
      | exact LeO.none _
      | refine LeO.ite ?_ ?_
      | refine LeO.bind ?_ (fun _ => ?_)
set_option maxHeartbeats 8000000 in
set_option maxRecDepth 100000 in
theorem spec_ASCII.calls (k : Nat) (a0 : ByteArray) (r : Bool) (w : World) (h : spec_ASCII.f k a0 = some r) :
    Calls Tryd.prog 51 #[.string a0] w fun e w' => e = .returned (.bool r) ∧ Drawn0 w w' := by
  have H : (spec_ASCII.l0 k a0 0) = some r := h
  clear h
  have H' := Aside0.mk H
  clear H
  go_enter Tryd.func51, Tryd.ntmps51
  go_wp2
  go_loopg [3] k (fun kq v3 w' => ∃ (x3_1 : Int), v3 = .int .i64 x3_1 ∧ Aside0 (spec_ASCII.l0 kq a0 x3_1 = some r) ∧ Aside0 (kq ≤ k) ∧ Drawn0 w w')
  case atStart => exact ⟨(0), (by first | rfl | (simp; done) | (simp [*]; done)), H', ⟨Nat.le_refl _⟩, by repeat (first | exact Drawn0.refl _ | apply Drawn0.step)⟩
  case round =>
    clear H'
    obtain ⟨x3_1, rfl, HA, HK1, ⟨m1, rfl⟩⟩ := hrel
    cases gk with
    | zero => exact absurd HA.out (by simp [spec_ASCII.l0])
    | succ k1 =>
      have H := HA.out
      clear HA
      simp only [spec_ASCII.l0] at H
      by_cases c2 : x3_1 < (a0.size : Int)
      · rw [if_pos c2] at H
        have c2b0 : decide (x3_1 < (a0.size : Int)) = true := decide_eq_true c2
        clear c2
        by_cases c3 : 0 ≤ x3_1
        · rw [if_pos c3] at H
          have c3b0 : decide (0 ≤ x3_1) = true := decide_eq_true c3
          clear c3
          by_cases c5 : (bt a0 x3_1) ≥ 128
          · rw [if_pos c5] at H
            have c5b0 : decide (128 ≤ (bt a0 x3_1)) = true := decide_eq_true c5
            clear c5
            obtain rfl := Option.some.inj H
            have p4 : 0 ≤ (x3_1 : Int) := of_decide_eq_true (by first | (with_reducible assumption) | assumption)
            have q4 : x3_1 < (a0.size : Int) := of_decide_eq_true (by first | (with_reducible assumption) | assumption)
            have hx4 := bt_at a0 x3_1
            replace p4 := eq_true p4
            replace q4 := eq_true q4
            go_wp2
            go_ret
            exact ⟨by first | rfl | (simp; done) | (simp [*]; done), by repeat (first | exact Drawn0.refl _ | apply Drawn0.step)⟩
          · rw [if_neg c5] at H
            have c5b0 : decide (128 ≤ (bt a0 x3_1)) = false := decide_eq_false c5
            clear c5
            have H' := Aside0.mk H
            clear H
            have p4 : 0 ≤ (x3_1 : Int) := of_decide_eq_true (by first | (with_reducible assumption) | assumption)
            have q4 : x3_1 < (a0.size : Int) := of_decide_eq_true (by first | (with_reducible assumption) | assumption)
            have hx4 := bt_at a0 x3_1
            replace p4 := eq_true p4
            replace q4 := eq_true q4
            go_wp2
            go_roundg k1
            case measure => have := HK1.out; omega
            case rel => exact ⟨(wrap64 (x3_1 + 1)), (by first | rfl | (simp; done) | (simp [*]; done)), H', ⟨by have := HK1.out; omega⟩, by repeat (first | exact Drawn0.refl _ | apply Drawn0.step)⟩
        · rw [if_neg c3] at H
          exact absurd H (by simp)
      · rw [if_neg c2] at H
        have c2b0 : decide (x3_1 < (a0.size : Int)) = false := decide_eq_false c2
        clear c2
        obtain rfl := Option.some.inj H
        go_wp2
        go_ret
        exact ⟨by first | rfl | (simp; done) | (simp [*]; done), by repeat (first | exact Drawn0.refl _ | apply Drawn0.step)⟩

/-! ### laws_plain9: function 21 -/
def laws_plain9.l0 : Nat → List ByteArray → Int → Int → Option (Bool)
  | 0, _, _, _ => none
  | k + 1, x0, x5, x6 => if x6 < x5 then (if 0 ≤ x6 then (if x6 < (x0.length : Int) then (if ((rdOf ByteArray.empty x0 x6).size : Int) > 500 then (some false) else ((spec_ASCII.f k (rdOf ByteArray.empty x0 x6)).bind fun t103 => (if t103 = true then (laws_plain9.l0 k x0 x5 (wrap64 (x6 + 1))) else (some false)))) else (none)) else (none)) else (some true)
def laws_plain9.f (k : Nat) (l0 : List ByteArray) : Option (Bool) := laws_plain9.l0 k l0 (l0.length : Int) 0
theorem laws_plain9.mono_l : ∀ k, (∀ y0 y1 y2, LeO (laws_plain9.l0 k y0 y1 y2) (laws_plain9.l0 (k + 1) y0 y1 y2))
  | 0 => fun _ _ _ r h => by simp [laws_plain9.l0] at h
  | k + 1 => by
    have ih0 := laws_plain9.mono_l k
    · intro y0 y1 y2
      unfold laws_plain9.l0
      repeat' first
      | (with_reducible exact ih0 _ _ _)
      | (with_reducible exact spec_ASCII.mono _ _)
      | (with_reducible exact LeO.refl _)
      | (with_reducible exact LeO.none _)
      | (with_reducible refine LeO.ite ?_ ?_)
      | (with_reducible refine LeO.bind ?_ (fun _ => ?_))
      | exact ih0 _ _ _
      | exact spec_ASCII.mono _ _
      | exact LeO.none _
      | refine LeO.ite ?_ ?_
      | refine LeO.bind ?_ (fun _ => ?_)
theorem laws_plain9.mono : ∀ a0 k, LeO (laws_plain9.f k a0) (laws_plain9.f (k + 1) a0) := by
  intro a0 k
  have ih0 := laws_plain9.mono_l k
  unfold laws_plain9.f
  repeat' first
      | (with_reducible exact ih0 _ _ _)
      | (with_reducible exact spec_ASCII.mono _ _)
      | (with_reducible exact LeO.refl _)
      | (with_reducible exact LeO.none _)
      | (with_reducible refine LeO.ite ?_ ?_)
      | (with_reducible refine LeO.bind ?_ (fun _ => ?_))
      | exact ih0 _ _ _
      | exact spec_ASCII.mono _ _
      | exact LeO.none _
      | refine LeO.ite ?_ ?_
      | refine LeO.bind ?_ (fun _ => ?_)
set_option maxHeartbeats 8000000 in
set_option maxRecDepth 100000 in
theorem laws_plain9.calls (k : Nat) (A0 : Option Addr) (c0 : Nat) (l0 : List ByteArray) (r : Bool) (w : World) (hr0 : Kd.C Kd.string w A0 l0.length l0) (hc0 : l0.length ≤ c0) (h : laws_plain9.f k l0 = some r) :
    Calls Tryd.prog 21 #[.slice A0 l0.length c0] w fun e w' => e = .returned (.bool r) ∧ Drawn0 w w' := by
  have HR0 := Aside0.mk hr0
  have HC0 := Aside0.mk hc0
  clear hr0 hc0
  have H : (laws_plain9.l0 k l0 (l0.length : Int) 0) = some r := h
  clear h
  have H' := Aside0.mk H
  clear H
  go_enter Tryd.func21, Tryd.ntmps21
  go_wp2
  go_loopg [6] k (fun kq v6 w' => ∃ (x6_1 : Int), v6 = .int .i64 x6_1 ∧ Aside0 (laws_plain9.l0 kq l0 (l0.length : Int) x6_1 = some r) ∧ Aside0 (kq ≤ k) ∧ Drawn0 w w')
  case atStart => exact ⟨(0), (by first | rfl | (simp; done) | (simp [*]; done)), H', ⟨Nat.le_refl _⟩, by repeat (first | exact Drawn0.refl _ | apply Drawn0.step)⟩
  case round =>
    clear H'
    obtain ⟨x6_1, rfl, HA, HK1, ⟨m1, rfl⟩⟩ := hrel
    cases gk with
    | zero => exact absurd HA.out (by simp [laws_plain9.l0])
    | succ k1 =>
      have H := HA.out
      clear HA
      simp only [laws_plain9.l0] at H
      by_cases c2 : x6_1 < (l0.length : Int)
      · rw [if_pos c2] at H
        have c2b0 : decide (x6_1 < (l0.length : Int)) = true := decide_eq_true c2
        clear c2
        by_cases c3 : 0 ≤ x6_1
        · rw [if_pos c3] at H
          have c3b0 : decide (0 ≤ x6_1) = true := decide_eq_true c3
          clear c3
          by_cases c4 : x6_1 < (l0.length : Int)
          · rw [if_pos c4] at H
            have c4b0 : decide (x6_1 < (l0.length : Int)) = true := decide_eq_true c4
            clear c4
            by_cases c5 : ((rdOf ByteArray.empty l0 x6_1).size : Int) > 500
            · rw [if_pos c5] at H
              have c5b0 : decide (500 < ((rdOf ByteArray.empty l0 x6_1).size : Int)) = true := decide_eq_true c5
              have c5b1 : decide (500 < (rdOf ByteArray.empty l0 x6_1).size) = true := decide_eq_true (by omega)
              clear c5
              obtain rfl := Option.some.inj H
              have p101 : 0 ≤ (x6_1 : Int) := of_decide_eq_true (by first | (with_reducible assumption) | assumption)
              have q101 : x6_1 < (l0.length : Int) := of_decide_eq_true (by first | (with_reducible assumption) | assumption)
              obtain ⟨ad101, e101, hx101_0⟩ := Kd.at_string HR0.out x6_1 p101 q101
              cases e101
              replace p101 := eq_true p101
              replace q101 := eq_true q101
              go_wp2
              go_ret
              exact ⟨by first | rfl | (simp; done) | (simp [*]; done), by repeat (first | exact Drawn0.refl _ | apply Drawn0.step)⟩
            · rw [if_neg c5] at H
              have c5b0 : decide (500 < ((rdOf ByteArray.empty l0 x6_1).size : Int)) = false := decide_eq_false c5
              have c5b1 : decide (500 < (rdOf ByteArray.empty l0 x6_1).size) = false := decide_eq_false (by omega)
              clear c5
              replace H := Option.bind_eq_some_iff.mp H
              obtain ⟨t103, A60, H⟩ := H
              replace H : (if t103 = true then (laws_plain9.l0 k1 l0 (l0.length : Int) (wrap64 (x6_1 + 1))) else (some false)) = some r := H
              have A6 := Aside0.mk A60
              clear A60
              by_cases c7 : t103 = true
              · subst c7
                have H1 : (laws_plain9.l0 k1 l0 (l0.length : Int) (wrap64 (x6_1 + 1))) = some r := by rw [if_pos rfl] at H; exact H
                clear H
                have H := H1
                clear H1
                have H' := Aside0.mk H
                clear H
                have p101 : 0 ≤ (x6_1 : Int) := of_decide_eq_true (by first | (with_reducible assumption) | assumption)
                have q101 : x6_1 < (l0.length : Int) := of_decide_eq_true (by first | (with_reducible assumption) | assumption)
                obtain ⟨ad101, e101, hx101_0⟩ := Kd.at_string HR0.out x6_1 p101 q101
                cases e101
                replace p101 := eq_true p101
                replace q101 := eq_true q101
                have p102 : 0 ≤ (x6_1 : Int) := of_decide_eq_true (by first | (with_reducible assumption) | assumption)
                have q102 : x6_1 < (l0.length : Int) := of_decide_eq_true (by first | (with_reducible assumption) | assumption)
                obtain ⟨ad102, e102, hx102_0⟩ := Kd.at_string HR0.out x6_1 p102 q102
                obtain rfl : ad101 = ad102 := (by injection e102)
                replace p102 := eq_true p102
                replace q102 := eq_true q102
                go_wp2_with (first | (go_at_call 51; (with_reducible refine (spec_ASCII.calls k1 (rdOf ByteArray.empty l0 x6_1) true _ A6.out).mono ?_); rintro e w' ⟨rfl, ⟨nd, rfl⟩⟩))
                go_roundg k1
                case measure => have := HK1.out; omega
                case rel => exact ⟨(wrap64 (x6_1 + 1)), (by first | rfl | (simp; done) | (simp [*]; done)), H', ⟨by have := HK1.out; omega⟩, by repeat (first | exact Drawn0.refl _ | apply Drawn0.step)⟩
              · replace c7 := Bool.eq_false_iff.mpr c7
                subst c7
                have H1 : (some false) = some r := by rw [if_neg (show ¬ (false = true) by decide)] at H; exact H
                clear H
                have H := H1
                clear H1
                obtain rfl := Option.some.inj H
                have p101 : 0 ≤ (x6_1 : Int) := of_decide_eq_true (by first | (with_reducible assumption) | assumption)
                have q101 : x6_1 < (l0.length : Int) := of_decide_eq_true (by first | (with_reducible assumption) | assumption)
                obtain ⟨ad101, e101, hx101_0⟩ := Kd.at_string HR0.out x6_1 p101 q101
                cases e101
                replace p101 := eq_true p101
                replace q101 := eq_true q101
                have p102 : 0 ≤ (x6_1 : Int) := of_decide_eq_true (by first | (with_reducible assumption) | assumption)
                have q102 : x6_1 < (l0.length : Int) := of_decide_eq_true (by first | (with_reducible assumption) | assumption)
                obtain ⟨ad102, e102, hx102_0⟩ := Kd.at_string HR0.out x6_1 p102 q102
                obtain rfl : ad101 = ad102 := (by injection e102)
                replace p102 := eq_true p102
                replace q102 := eq_true q102
                go_wp2_with (first | (go_at_call 51; (with_reducible refine (spec_ASCII.calls k1 (rdOf ByteArray.empty l0 x6_1) false _ A6.out).mono ?_); rintro e w' ⟨rfl, ⟨nd, rfl⟩⟩))
                go_ret
                exact ⟨by first | rfl | (simp; done) | (simp [*]; done), by repeat (first | exact Drawn0.refl _ | apply Drawn0.step)⟩
          · rw [if_neg c4] at H
            exact absurd H (by simp)
        · rw [if_neg c3] at H
          exact absurd H (by simp)
      · rw [if_neg c2] at H
        have c2b0 : decide (x6_1 < (l0.length : Int)) = false := decide_eq_false c2
        clear c2
        obtain rfl := Option.some.inj H
        go_wp2
        go_ret
        exact ⟨by first | rfl | (simp; done) | (simp [*]; done), by repeat (first | exact Drawn0.refl _ | apply Drawn0.step)⟩

-- NOT PRINTED: function 122 (unicode_lookupCaseRange)

-- NOT PRINTED: function 123 (unicode_convertCase)

-- NOT PRINTED: function 109 (unicode_to)

-- NOT PRINTED: function 95 (unicode_To)

-- NOT PRINTED: function 74 (unicode_ToLower)

-- NOT PRINTED: function 76 (unicode_ToUpper)

-- NOT PRINTED: function 117 (unicode_is16)

-- NOT PRINTED: function 118 (unicode_is32)

-- NOT PRINTED: function 104 (unicode_isExcludingLatin)

-- NOT PRINTED: function 87 (unicode_IsUpper)

-- NOT PRINTED: function 88 (unicode_IsLower)

-- NOT PRINTED: function 102 (unicode_IsSpace)

-- NOT PRINTED: function 111 (unicode_IsTitle)

-- NOT PRINTED: function 112 (unicode_ToTitle)

-- GIVEN: function 97 (goutils_SwapCase): a contract of ours

/-! ### sprig_swapcase: function 77 -/
def sprig_swapcase.f (a0 : ByteArray) : Option (ByteArray) := (goutils_SwapCase.f a0).bind fun t107 => (some t107)
set_option maxHeartbeats 8000000 in
set_option maxRecDepth 100000 in
theorem sprig_swapcase.calls (a0 : ByteArray) (r : ByteArray) (w : World) (T : Giv.Props w) (h : sprig_swapcase.f a0 = some r) :
    Calls Tryd.prog 77 #[.string a0] w fun e w' => e = .returned (.string r) ∧ Below w.heap.size w w' := by
  have TT_ := Aside0.mk T
  clear T
  have HB := Aside0.mk (Below.refl w.heap.size w)
  have H : ((goutils_SwapCase.f a0).bind fun t107 => (some t107)) = some r := h
  clear h
  replace H := Option.bind_eq_some_iff.mp H
  obtain ⟨t107, A20, H⟩ := H
  replace H : (some t107) = some r := H
  have A2 := Aside0.mk A20
  clear A20
  obtain rfl := Option.some.inj H
  go_enter Tryd.func77, Tryd.ntmps77
  go_wp2_with (first | ((with_reducible refine gate_callee (f := 97) rfl ?_); refine goesL_ (some 4) rfl rfl Tryd.func97 (by kernel_rfl) rfl #[.string a0] rfl (by (try simp only [List.map_toArray, List.map_cons, List.map_nil]); first | done | rfl | (simp only [List.length_drop, List.length_take]; rfl)) ?_; (with_reducible refine (goutils_SwapCase.calls a0 t107 _ (by first | exact TT_.out | exact TT_.out.below (by repeat (first | (with_reducible first | exact HB.out | apply below_alloc | apply pw_below_drewN | apply below_drew1) | exact HB.out))) A2.out).mono ?_); rintro e w3 ⟨rfl, hb⟩; refine ⟨_, rfl, ?_⟩; have n0_ := Aside0.mk (below_step (by repeat (first | (with_reducible first | exact HB.out | apply below_alloc | apply pw_below_drewN | apply below_drew1) | exact HB.out)) hb); clear HB; have HB := n0_; clear n0_; (try clear hb); (try clear hb2); (try clear hk); (try clear hi)))
  go_ret
  exact ⟨by first | rfl | (simp [errW_none, errW_some] <;> rfl) | (simp [*, errW_none, errW_some] <;> rfl), by repeat (first | (with_reducible first | exact HB.out | apply below_alloc | apply pw_below_drewN | apply below_drew1) | exact HB.out)⟩

/-! ### sprig_SwapCase: function 54 -/
def sprig_SwapCase.f (a0 : ByteArray) : Option (ByteArray) := (sprig_swapcase.f a0).bind fun t108 => (some t108)
set_option maxHeartbeats 8000000 in
set_option maxRecDepth 100000 in
theorem sprig_SwapCase.calls (a0 : ByteArray) (r : ByteArray) (w : World) (T : Giv.Props w) (h : sprig_SwapCase.f a0 = some r) :
    Calls Tryd.prog 54 #[.string a0] w fun e w' => e = .returned (.string r) ∧ Below w.heap.size w w' := by
  have TT_ := Aside0.mk T
  clear T
  have HB := Aside0.mk (Below.refl w.heap.size w)
  have H : ((sprig_swapcase.f a0).bind fun t108 => (some t108)) = some r := h
  clear h
  replace H := Option.bind_eq_some_iff.mp H
  obtain ⟨t108, A20, H⟩ := H
  replace H : (some t108) = some r := H
  have A2 := Aside0.mk A20
  clear A20
  obtain rfl := Option.some.inj H
  go_enter Tryd.func54, Tryd.ntmps54
  go_wp2_with (first | ((with_reducible refine gate_callee (f := 77) rfl ?_); refine goesL_ (some 4) rfl rfl Tryd.func77 (by kernel_rfl) rfl #[.string a0] rfl (by (try simp only [List.map_toArray, List.map_cons, List.map_nil]); first | done | rfl | (simp only [List.length_drop, List.length_take]; rfl)) ?_; (with_reducible refine (sprig_swapcase.calls a0 t108 _ (by first | exact TT_.out | exact TT_.out.below (by repeat (first | (with_reducible first | exact HB.out | apply below_alloc | apply pw_below_drewN | apply below_drew1) | exact HB.out))) A2.out).mono ?_); rintro e w3 ⟨rfl, hb⟩; refine ⟨_, rfl, ?_⟩; have n0_ := Aside0.mk (below_step (by repeat (first | (with_reducible first | exact HB.out | apply below_alloc | apply pw_below_drewN | apply below_drew1) | exact HB.out)) hb); clear HB; have HB := n0_; clear n0_; (try clear hb); (try clear hb2); (try clear hk); (try clear hi)))
  go_ret
  exact ⟨by first | rfl | (simp [errW_none, errW_some] <;> rfl) | (simp [*, errW_none, errW_some] <;> rfl), by repeat (first | (with_reducible first | exact HB.out | apply below_alloc | apply pw_below_drewN | apply below_drew1) | exact HB.out)⟩

/-! ### impl_SwapCase: function 26 -/
def impl_SwapCase.f (a0 : ByteArray) : Option (ByteArray) := (sprig_SwapCase.f a0).bind fun t109 => (some t109)
set_option maxHeartbeats 8000000 in
set_option maxRecDepth 100000 in
theorem impl_SwapCase.calls (a0 : ByteArray) (r : ByteArray) (w : World) (T : Giv.Props w) (h : impl_SwapCase.f a0 = some r) :
    Calls Tryd.prog 26 #[.string a0] w fun e w' => e = .returned (.string r) ∧ Below w.heap.size w w' := by
  have TT_ := Aside0.mk T
  clear T
  have HB := Aside0.mk (Below.refl w.heap.size w)
  have H : ((sprig_SwapCase.f a0).bind fun t109 => (some t109)) = some r := h
  clear h
  replace H := Option.bind_eq_some_iff.mp H
  obtain ⟨t109, A20, H⟩ := H
  replace H : (some t109) = some r := H
  have A2 := Aside0.mk A20
  clear A20
  obtain rfl := Option.some.inj H
  go_enter Tryd.func26, Tryd.ntmps26
  go_wp2_with (first | ((with_reducible refine gate_callee (f := 54) rfl ?_); refine goesL_ (some 4) rfl rfl Tryd.func54 (by kernel_rfl) rfl #[.string a0] rfl (by (try simp only [List.map_toArray, List.map_cons, List.map_nil]); first | done | rfl | (simp only [List.length_drop, List.length_take]; rfl)) ?_; (with_reducible refine (sprig_SwapCase.calls a0 t109 _ (by first | exact TT_.out | exact TT_.out.below (by repeat (first | (with_reducible first | exact HB.out | apply below_alloc | apply pw_below_drewN | apply below_drew1) | exact HB.out))) A2.out).mono ?_); rintro e w3 ⟨rfl, hb⟩; refine ⟨_, rfl, ?_⟩; have n0_ := Aside0.mk (below_step (by repeat (first | (with_reducible first | exact HB.out | apply below_alloc | apply pw_below_drewN | apply below_drew1) | exact HB.out)) hb); clear HB; have HB := n0_; clear n0_; (try clear hb); (try clear hb2); (try clear hk); (try clear hi)))
  go_ret
  exact ⟨by first | rfl | (simp [errW_none, errW_some] <;> rfl) | (simp [*, errW_none, errW_some] <;> rfl), by repeat (first | (with_reducible first | exact HB.out | apply below_alloc | apply pw_below_drewN | apply below_drew1) | exact HB.out)⟩

-- GIVEN: function 22 (spec_Lower): a contract of ours

-- GIVEN: function 23 (spec_Upper): a contract of ours

/-! ### spec_SwapCase: function 27 -/
def spec_SwapCase.l0 : Nat → ByteArray → ByteArray → Int → Int → Option (ByteArray)
  | 0, _, _, _, _ => none
  | k + 1, x0, x3, x7, x8 => if x8 < x7 then (if 0 ≤ x8 then (if x8 ≤ (wrap64 (x8 + 1)) then (if (wrap64 (x8 + 1)) ≤ (x0.size : Int) then ((spec_Upper.f (x0.extract (x8 : Int).toNat ((wrap64 (x8 + 1)) : Int).toNat)).bind fun t110 => (if t110.toList = (x0.extract (x8 : Int).toNat ((wrap64 (x8 + 1)) : Int).toNat).toList then ((spec_Lower.f (x0.extract (x8 : Int).toNat ((wrap64 (x8 + 1)) : Int).toNat)).bind fun t111 => (if x3.size + t111.size ≤ 9223372036854775807 then (spec_SwapCase.l0 k x0 (x3 ++ t111) x7 (wrap64 (x8 + 1))) else (none))) else ((spec_Upper.f (x0.extract (x8 : Int).toNat ((wrap64 (x8 + 1)) : Int).toNat)).bind fun t112 => (if x3.size + t112.size ≤ 9223372036854775807 then (spec_SwapCase.l0 k x0 (x3 ++ t112) x7 (wrap64 (x8 + 1))) else (none))))) else (none)) else (none)) else (none)) else (some x3)
def spec_SwapCase.f (k : Nat) (a0 : ByteArray) : Option (ByteArray) := spec_SwapCase.l0 k a0 (⟨#[]⟩ : ByteArray) (a0.size : Int) 0
theorem spec_SwapCase.mono_l : ∀ k, (∀ y0 y1 y2 y3, LeO (spec_SwapCase.l0 k y0 y1 y2 y3) (spec_SwapCase.l0 (k + 1) y0 y1 y2 y3))
  | 0 => fun _ _ _ _ r h => by simp [spec_SwapCase.l0] at h
  | k + 1 => by
    have ih0 := spec_SwapCase.mono_l k
    · intro y0 y1 y2 y3
      unfold spec_SwapCase.l0
      repeat' first
      | (with_reducible exact ih0 _ _ _ _)
      | (with_reducible exact LeO.refl _)
      | (with_reducible exact LeO.none _)
      | (with_reducible refine LeO.ite ?_ ?_)
      | (with_reducible refine LeO.bind ?_ (fun _ => ?_))
      | exact ih0 _ _ _ _
      | exact LeO.none _
      | refine LeO.ite ?_ ?_
      | refine LeO.bind ?_ (fun _ => ?_)
theorem spec_SwapCase.mono : ∀ a0 k, LeO (spec_SwapCase.f k a0) (spec_SwapCase.f (k + 1) a0) := by
  intro a0 k
  have ih0 := spec_SwapCase.mono_l k
  unfold spec_SwapCase.f
  repeat' first
      | (with_reducible exact ih0 _ _ _ _)
      | (with_reducible exact LeO.refl _)
      | (with_reducible exact LeO.none _)
      | (with_reducible refine LeO.ite ?_ ?_)
      | (with_reducible refine LeO.bind ?_ (fun _ => ?_))
      | exact ih0 _ _ _ _
      | exact LeO.none _
      | refine LeO.ite ?_ ?_
      | refine LeO.bind ?_ (fun _ => ?_)
set_option maxHeartbeats 8000000 in
set_option maxRecDepth 100000 in
theorem spec_SwapCase.calls (k : Nat) (a0 : ByteArray) (r : ByteArray) (w : World) (h : spec_SwapCase.f k a0 = some r) :
    Calls Tryd.prog 27 #[.string a0] w fun e w' => e = .returned (.string r) ∧ Below w.heap.size w w' := by
  have HB := Aside0.mk (Below.refl w.heap.size w)
  have H : (spec_SwapCase.l0 k a0 (⟨#[]⟩ : ByteArray) (a0.size : Int) 0) = some r := h
  clear h
  have H' := Aside0.mk H
  clear H
  go_enter Tryd.func27, Tryd.ntmps27
  go_wp2
  go_loopg [3, 8] k (fun kq v3 v8 w' => ∃ (x3_1 : ByteArray) (x8_1 : Int), v3 = .string x3_1 ∧ v8 = .int .i64 x8_1 ∧ Aside0 (spec_SwapCase.l0 kq a0 x3_1 (a0.size : Int) x8_1 = some r) ∧ Aside0 (kq ≤ k) ∧ Aside0 (Below w.heap.size w w'))
  case atStart => exact ⟨((⟨#[]⟩ : ByteArray)), (0), (by first | rfl | (simp; done) | (simp [*]; done)), (by first | rfl | (simp; done) | (simp [*]; done)), H', ⟨Nat.le_refl _⟩, ⟨by repeat (first | (with_reducible first | exact HB.out | apply below_alloc | apply pw_below_drewN | apply below_drew1) | exact HB.out)⟩⟩
  case round =>
    clear H'
    obtain ⟨x3_1, x8_1, rfl, rfl, HA, HK1, HB⟩ := hrel
    cases gk with
    | zero => exact absurd HA.out (by simp [spec_SwapCase.l0])
    | succ k1 =>
      have H := HA.out
      clear HA
      simp only [spec_SwapCase.l0] at H
      by_cases c2 : x8_1 < (a0.size : Int)
      · rw [if_pos c2] at H
        have c2b0 : decide (x8_1 < (a0.size : Int)) = true := decide_eq_true c2
        clear c2
        by_cases c3 : 0 ≤ x8_1
        · rw [if_pos c3] at H
          have c3b0 := eq_true c3
          have c3b1 : decide (0 ≤ x8_1) = true := decide_eq_true c3
          clear c3
          by_cases c4 : x8_1 ≤ (wrap64 (x8_1 + 1))
          · rw [if_pos c4] at H
            have c4b0 := eq_true c4
            have c4b1 : decide (x8_1 ≤ (wrap64 (x8_1 + 1))) = true := decide_eq_true c4
            by_cases c5 : (wrap64 (x8_1 + 1)) ≤ (a0.size : Int)
            · rw [if_pos c5] at H
              have c5b0 := eq_true c5
              have c5b1 : decide ((wrap64 (x8_1 + 1)) ≤ (a0.size : Int)) = true := decide_eq_true c5
              replace H := Option.bind_eq_some_iff.mp H
              obtain ⟨t110, A60, H⟩ := H
              replace H : (if t110.toList = (a0.extract (x8_1 : Int).toNat ((wrap64 (x8_1 + 1)) : Int).toNat).toList then ((spec_Lower.f (a0.extract (x8_1 : Int).toNat ((wrap64 (x8_1 + 1)) : Int).toNat)).bind fun t111 => (if x3_1.size + t111.size ≤ 9223372036854775807 then (spec_SwapCase.l0 k1 a0 (x3_1 ++ t111) (a0.size : Int) (wrap64 (x8_1 + 1))) else (none))) else ((spec_Upper.f (a0.extract (x8_1 : Int).toNat ((wrap64 (x8_1 + 1)) : Int).toNat)).bind fun t112 => (if x3_1.size + t112.size ≤ 9223372036854775807 then (spec_SwapCase.l0 k1 a0 (x3_1 ++ t112) (a0.size : Int) (wrap64 (x8_1 + 1))) else (none)))) = some r := H
              have A6 := Aside0.mk A60
              clear A60
              by_cases c7 : t110.toList = (a0.extract (x8_1 : Int).toNat ((wrap64 (x8_1 + 1)) : Int).toNat).toList
              · rw [if_pos c7] at H
                have c7b0 : (t110.toList == (a0.extract (x8_1 : Int).toNat ((wrap64 (x8_1 + 1)) : Int).toNat).toList) = true := beq_iff_eq.mpr c7
                have c7b1 : (t110.toList != (a0.extract (x8_1 : Int).toNat ((wrap64 (x8_1 + 1)) : Int).toNat).toList) = false := bne_eq_false_iff_eq.mpr c7
                clear c7
                replace H := Option.bind_eq_some_iff.mp H
                obtain ⟨t111, A80, H⟩ := H
                replace H : (if x3_1.size + t111.size ≤ 9223372036854775807 then (spec_SwapCase.l0 k1 a0 (x3_1 ++ t111) (a0.size : Int) (wrap64 (x8_1 + 1))) else (none)) = some r := H
                have A8 := Aside0.mk A80
                clear A80
                by_cases c9 : x3_1.size + t111.size ≤ 9223372036854775807
                · rw [if_pos c9] at H
                  have c9b0 := eq_true c9
                  have c9b1 : decide (x3_1.size + t111.size ≤ 9223372036854775807) = true := decide_eq_true c9
                  try have c9b2 : (9223372036854775807 < x3_1.size + t111.size) = False := eq_false (Nat.not_lt.2 c9)
                  have H' := Aside0.mk H
                  clear H
                  go_wp2_with (first | ((with_reducible refine gate_callee (f := 23) rfl ?_); refine goesL_ (some 17) rfl rfl Tryd.func23 (by kernel_rfl) rfl #[.string (a0.extract (x8_1 : Int).toNat ((wrap64 (x8_1 + 1)) : Int).toNat)] rfl (by (try simp only [List.map_toArray, List.map_cons, List.map_nil]); first | done | rfl | (simp only [List.length_drop, List.length_take]; rfl)) ?_; (with_reducible refine (spec_Upper.calls (a0.extract (x8_1 : Int).toNat ((wrap64 (x8_1 + 1)) : Int).toNat) t110 _ A6.out).mono ?_); rintro e w10 ⟨rfl, hb⟩; refine ⟨_, rfl, ?_⟩; have n0_ := Aside0.mk (below_step (by repeat (first | (with_reducible first | exact HB.out | apply below_alloc | apply pw_below_drewN | apply below_drew1) | exact HB.out)) hb); clear HB; have HB := n0_; clear n0_; (try clear hb); (try clear hb2); (try clear hk); (try clear hi)) | ((with_reducible refine gate_callee (f := 22) rfl ?_); refine goesL_ (some 22) rfl rfl Tryd.func22 (by kernel_rfl) rfl #[.string (a0.extract (x8_1 : Int).toNat ((wrap64 (x8_1 + 1)) : Int).toNat)] rfl (by (try simp only [List.map_toArray, List.map_cons, List.map_nil]); first | done | rfl | (simp only [List.length_drop, List.length_take]; rfl)) ?_; (with_reducible refine (spec_Lower.calls (a0.extract (x8_1 : Int).toNat ((wrap64 (x8_1 + 1)) : Int).toNat) t111 _ A8.out).mono ?_); rintro e w11 ⟨rfl, hb⟩; refine ⟨_, rfl, ?_⟩; have n0_ := Aside0.mk (below_step (by repeat (first | (with_reducible first | exact HB.out | apply below_alloc | apply pw_below_drewN | apply below_drew1) | exact HB.out)) hb); clear HB; have HB := n0_; clear n0_; (try clear hb); (try clear hb2); (try clear hk); (try clear hi)))
                  go_roundg k1
                  case measure => have := HK1.out; omega
                  case rel => exact ⟨(x3_1 ++ t111), (wrap64 (x8_1 + 1)), (by first | rfl | (simp; done) | (simp [*]; done)), (by first | rfl | (simp; done) | (simp [*]; done)), H', ⟨by have := HK1.out; omega⟩, ⟨by repeat (first | (with_reducible first | exact HB.out | apply below_alloc | apply pw_below_drewN | apply below_drew1) | exact HB.out)⟩⟩
                · rw [if_neg c9] at H
                  exact absurd H (by simp)
              · rw [if_neg c7] at H
                have c7b0 : (t110.toList == (a0.extract (x8_1 : Int).toNat ((wrap64 (x8_1 + 1)) : Int).toNat).toList) = false := beq_eq_false_iff_ne.mpr c7
                have c7b1 : (t110.toList != (a0.extract (x8_1 : Int).toNat ((wrap64 (x8_1 + 1)) : Int).toNat).toList) = true := bne_iff_ne.mpr c7
                replace H := Option.bind_eq_some_iff.mp H
                obtain ⟨t112, A120, H⟩ := H
                replace H : (if x3_1.size + t112.size ≤ 9223372036854775807 then (spec_SwapCase.l0 k1 a0 (x3_1 ++ t112) (a0.size : Int) (wrap64 (x8_1 + 1))) else (none)) = some r := H
                have A12 := Aside0.mk A120
                clear A120
                by_cases c13 : x3_1.size + t112.size ≤ 9223372036854775807
                · rw [if_pos c13] at H
                  have c13b0 := eq_true c13
                  have c13b1 : decide (x3_1.size + t112.size ≤ 9223372036854775807) = true := decide_eq_true c13
                  try have c13b2 : (9223372036854775807 < x3_1.size + t112.size) = False := eq_false (Nat.not_lt.2 c13)
                  have H' := Aside0.mk H
                  clear H
                  go_wp2_with (first | ((with_reducible refine gate_callee (f := 23) rfl ?_); refine goesL_ (some 17) rfl rfl Tryd.func23 (by kernel_rfl) rfl #[.string (a0.extract (x8_1 : Int).toNat ((wrap64 (x8_1 + 1)) : Int).toNat)] rfl (by (try simp only [List.map_toArray, List.map_cons, List.map_nil]); first | done | rfl | (simp only [List.length_drop, List.length_take]; rfl)) ?_; (with_reducible refine (spec_Upper.calls (a0.extract (x8_1 : Int).toNat ((wrap64 (x8_1 + 1)) : Int).toNat) t110 _ A6.out).mono ?_); rintro e w14 ⟨rfl, hb⟩; refine ⟨_, rfl, ?_⟩; have n0_ := Aside0.mk (below_step (by repeat (first | (with_reducible first | exact HB.out | apply below_alloc | apply pw_below_drewN | apply below_drew1) | exact HB.out)) hb); clear HB; have HB := n0_; clear n0_; (try clear hb); (try clear hb2); (try clear hk); (try clear hi)) | ((with_reducible refine gate_callee (f := 23) rfl ?_); refine goesL_ (some 26) rfl rfl Tryd.func23 (by kernel_rfl) rfl #[.string (a0.extract (x8_1 : Int).toNat ((wrap64 (x8_1 + 1)) : Int).toNat)] rfl (by (try simp only [List.map_toArray, List.map_cons, List.map_nil]); first | done | rfl | (simp only [List.length_drop, List.length_take]; rfl)) ?_; (with_reducible refine (spec_Upper.calls (a0.extract (x8_1 : Int).toNat ((wrap64 (x8_1 + 1)) : Int).toNat) t112 _ A12.out).mono ?_); rintro e w15 ⟨rfl, hb⟩; refine ⟨_, rfl, ?_⟩; have n0_ := Aside0.mk (below_step (by repeat (first | (with_reducible first | exact HB.out | apply below_alloc | apply pw_below_drewN | apply below_drew1) | exact HB.out)) hb); clear HB; have HB := n0_; clear n0_; (try clear hb); (try clear hb2); (try clear hk); (try clear hi)))
                  go_roundg k1
                  case measure => have := HK1.out; omega
                  case rel => exact ⟨(x3_1 ++ t112), (wrap64 (x8_1 + 1)), (by first | rfl | (simp; done) | (simp [*]; done)), (by first | rfl | (simp; done) | (simp [*]; done)), H', ⟨by have := HK1.out; omega⟩, ⟨by repeat (first | (with_reducible first | exact HB.out | apply below_alloc | apply pw_below_drewN | apply below_drew1) | exact HB.out)⟩⟩
                · rw [if_neg c13] at H
                  exact absurd H (by simp)
            · rw [if_neg c5] at H
              exact absurd H (by simp)
          · rw [if_neg c4] at H
            exact absurd H (by simp)
        · rw [if_neg c3] at H
          exact absurd H (by simp)
      · rw [if_neg c2] at H
        have c2b0 : decide (x8_1 < (a0.size : Int)) = false := decide_eq_false c2
        clear c2
        obtain rfl := Option.some.inj H
        go_wp2
        go_ret
        exact ⟨by first | rfl | (simp [errW_none, errW_some] <;> rfl) | (simp [*, errW_none, errW_some] <;> rfl), by repeat (first | (with_reducible first | exact HB.out | apply below_alloc | apply pw_below_drewN | apply below_drew1) | exact HB.out)⟩

/-! ### laws_FnSwapCase: function 6 -/
def laws_FnSwapCase.f (k : Nat) (a0 : ByteArray) : Option (Bool) := if (a0.size : Int) > 2147483647 then (some true) else ((laws_plain9.f k (([a0] : List ByteArray))).bind fun t116 => (if t116 = true then ((impl_SwapCase.f a0).bind fun t117 => ((spec_SwapCase.f k a0).bind fun t118 => (if t117.toList = t118.toList then ((impl_SwapCase.f a0).bind fun t119 => ((impl_SwapCase.f t119).bind fun t120 => (if t120.toList = a0.toList then ((impl_SwapCase.f (⟨#[97, 66]⟩ : ByteArray)).bind fun t121 => (some (t121.toList == ([65, 98] : List UInt8)))) else (some false)))) else (some false)))) else (some true)))
theorem laws_FnSwapCase.mono : ∀ a0 k, LeO (laws_FnSwapCase.f k a0) (laws_FnSwapCase.f (k + 1) a0) := by
  intro a0 k
  unfold laws_FnSwapCase.f
  repeat' first
      | (with_reducible exact laws_plain9.mono _ _)
      | (with_reducible exact spec_SwapCase.mono _ _)
      | (with_reducible exact LeO.refl _)
      | (with_reducible exact LeO.none _)
      | (with_reducible refine LeO.ite ?_ ?_)
      | (with_reducible refine LeO.bind ?_ (fun _ => ?_))
      | exact laws_plain9.mono _ _
      | exact spec_SwapCase.mono _ _
      | exact LeO.none _
      | refine LeO.ite ?_ ?_
      | refine LeO.bind ?_ (fun _ => ?_)
set_option maxHeartbeats 8000000 in
set_option maxRecDepth 100000 in
theorem laws_FnSwapCase.calls (k : Nat) (a0 : ByteArray) (r : Bool) (w : World) (T : Giv.Props w) (h : laws_FnSwapCase.f k a0 = some r) :
    Calls Tryd.prog 6 #[.string a0] w fun e w' => e = .returned (.bool r) ∧ Below w.heap.size w w' := by
  have TT_ := Aside0.mk T
  clear T
  have HB := Aside0.mk (Below.refl w.heap.size w)
  have H : (if (a0.size : Int) > 2147483647 then (some true) else ((laws_plain9.f k (([a0] : List ByteArray))).bind fun t116 => (if t116 = true then ((impl_SwapCase.f a0).bind fun t117 => ((spec_SwapCase.f k a0).bind fun t118 => (if t117.toList = t118.toList then ((impl_SwapCase.f a0).bind fun t119 => ((impl_SwapCase.f t119).bind fun t120 => (if t120.toList = a0.toList then ((impl_SwapCase.f (⟨#[97, 66]⟩ : ByteArray)).bind fun t121 => (some (t121.toList == ([65, 98] : List UInt8)))) else (some false)))) else (some false)))) else (some true)))) = some r := h
  clear h
  by_cases c2 : (a0.size : Int) > 2147483647
  · rw [if_pos c2] at H
    have c2b0 : decide (2147483647 < (a0.size : Int)) = true := decide_eq_true c2
    have c2b1 : decide (2147483647 < a0.size) = true := decide_eq_true (by omega)
    clear c2
    obtain rfl := Option.some.inj H
    go_enter Tryd.func6, Tryd.ntmps6
    go_wp2
    go_ret
    exact ⟨by first | rfl | (simp [errW_none, errW_some] <;> rfl) | (simp [*, errW_none, errW_some] <;> rfl), by repeat (first | (with_reducible first | exact HB.out | apply below_alloc | apply pw_below_drewN | apply below_drew1) | exact HB.out)⟩
  · rw [if_neg c2] at H
    have c2b0 : decide (2147483647 < (a0.size : Int)) = false := decide_eq_false c2
    have c2b1 : decide (2147483647 < a0.size) = false := decide_eq_false (by omega)
    clear c2
    obtain ⟨y113, hy113⟩ : ∃ y_ : List ByteArray, y_ = (([a0] : List ByteArray)) := ⟨_, rfl⟩
    replace H : ((laws_plain9.f k y113).bind fun t116 => (if t116 = true then ((impl_SwapCase.f a0).bind fun t117 => ((spec_SwapCase.f k a0).bind fun t118 => (if t117.toList = t118.toList then ((impl_SwapCase.f a0).bind fun t119 => ((impl_SwapCase.f t119).bind fun t120 => (if t120.toList = a0.toList then ((impl_SwapCase.f (⟨#[97, 66]⟩ : ByteArray)).bind fun t121 => (some (t121.toList == ([65, 98] : List UInt8)))) else (some false)))) else (some false)))) else (some true))) = some r := by first | (rw [hy113]; with_reducible exact H) | (have H2_ := (Option.bind_some _ _).symm.trans H; rw [hy113]; with_reducible exact H2_) | (have H2_ := (Option.bind_some _ _).symm.trans H; with_reducible exact H2_) | with_reducible exact H | (rw [hy113]; exact H) | exact H
    have Ny113 := Aside0.mk hy113
    clear hy113
    replace H := Option.bind_eq_some_iff.mp H
    obtain ⟨t116, A30, H⟩ := H
    replace H : (if t116 = true then ((impl_SwapCase.f a0).bind fun t117 => ((spec_SwapCase.f k a0).bind fun t118 => (if t117.toList = t118.toList then ((impl_SwapCase.f a0).bind fun t119 => ((impl_SwapCase.f t119).bind fun t120 => (if t120.toList = a0.toList then ((impl_SwapCase.f (⟨#[97, 66]⟩ : ByteArray)).bind fun t121 => (some (t121.toList == ([65, 98] : List UInt8)))) else (some false)))) else (some false)))) else (some true)) = some r := H
    have A3 := Aside0.mk A30
    clear A30
    by_cases c4 : t116 = true
    · subst c4
      have H1 : ((impl_SwapCase.f a0).bind fun t117 => ((spec_SwapCase.f k a0).bind fun t118 => (if t117.toList = t118.toList then ((impl_SwapCase.f a0).bind fun t119 => ((impl_SwapCase.f t119).bind fun t120 => (if t120.toList = a0.toList then ((impl_SwapCase.f (⟨#[97, 66]⟩ : ByteArray)).bind fun t121 => (some (t121.toList == ([65, 98] : List UInt8)))) else (some false)))) else (some false)))) = some r := by rw [if_pos rfl] at H; exact H
      clear H
      have H := H1
      clear H1
      replace H := Option.bind_eq_some_iff.mp H
      obtain ⟨t117, A50, H⟩ := H
      replace H : ((spec_SwapCase.f k a0).bind fun t118 => (if t117.toList = t118.toList then ((impl_SwapCase.f a0).bind fun t119 => ((impl_SwapCase.f t119).bind fun t120 => (if t120.toList = a0.toList then ((impl_SwapCase.f (⟨#[97, 66]⟩ : ByteArray)).bind fun t121 => (some (t121.toList == ([65, 98] : List UInt8)))) else (some false)))) else (some false))) = some r := H
      have A5 := Aside0.mk A50
      clear A50
      replace H := Option.bind_eq_some_iff.mp H
      obtain ⟨t118, A60, H⟩ := H
      replace H : (if t117.toList = t118.toList then ((impl_SwapCase.f a0).bind fun t119 => ((impl_SwapCase.f t119).bind fun t120 => (if t120.toList = a0.toList then ((impl_SwapCase.f (⟨#[97, 66]⟩ : ByteArray)).bind fun t121 => (some (t121.toList == ([65, 98] : List UInt8)))) else (some false)))) else (some false)) = some r := H
      have A6 := Aside0.mk A60
      clear A60
      by_cases c7 : t117.toList = t118.toList
      · rw [if_pos c7] at H
        have c7b0 : (t117.toList == t118.toList) = true := beq_iff_eq.mpr c7
        have c7b1 : (t117.toList != t118.toList) = false := bne_eq_false_iff_eq.mpr c7
        clear c7
        replace H := Option.bind_eq_some_iff.mp H
        obtain ⟨t119, A80, H⟩ := H
        replace H : ((impl_SwapCase.f t119).bind fun t120 => (if t120.toList = a0.toList then ((impl_SwapCase.f (⟨#[97, 66]⟩ : ByteArray)).bind fun t121 => (some (t121.toList == ([65, 98] : List UInt8)))) else (some false))) = some r := H
        have A8 := Aside0.mk A80
        clear A80
        have e8_ : t117 = t119 := Option.some.inj (A5.out.symm.trans A8.out)
        subst e8_
        replace H := Option.bind_eq_some_iff.mp H
        obtain ⟨t120, A90, H⟩ := H
        replace H : (if t120.toList = a0.toList then ((impl_SwapCase.f (⟨#[97, 66]⟩ : ByteArray)).bind fun t121 => (some (t121.toList == ([65, 98] : List UInt8)))) else (some false)) = some r := H
        have A9 := Aside0.mk A90
        clear A90
        by_cases c10 : t120.toList = a0.toList
        · rw [if_pos c10] at H
          have c10b0 : (t120.toList == a0.toList) = true := beq_iff_eq.mpr c10
          have c10b1 : (t120.toList != a0.toList) = false := bne_eq_false_iff_eq.mpr c10
          clear c10
          replace H := Option.bind_eq_some_iff.mp H
          obtain ⟨t121, A110, H⟩ := H
          replace H : (some (t121.toList == ([65, 98] : List UInt8))) = some r := H
          have A11 := Aside0.mk A110
          clear A110
          obtain rfl := Option.some.inj H
          go_enter Tryd.func6, Tryd.ntmps6
          go_wp2_with (first | ((with_reducible refine gate_dst (N := 7) rfl ?_); refine Kd.R_lit Kd.string _ 9 ?hg (N := 7) ?hd (xs := ([a0] : List ByteArray)) (inner := [.string a0]) (ok := fun _ => True) (okp := fun _ => True) ?hr ?hp (fun _ hk => hk) trivial (Below.refl _ _) (Nat.le_refl _) (by simp) ?_; (case hd => rfl); (case hg => rfl); (case hr => first | (go_simp; done) | (go_simp; rfl)); (case hp => exact (Reps.one (show Kd.M Kd.string _ _ _ a0 [.string a0] from rfl) (Reps.none _ _))); intro v114 w12 ho13 hb hg_ hnew_; clear hg_ hnew_; (first | rw [← Ny113.out] at ho13 | (simp only [Int.reduceToNat] at ho13; rw [← Ny113.out] at ho13)); have n0_ := Aside0.mk (Kd.R_lower ho13 (below_size (by repeat (first | (with_reducible first | exact HB.out | apply below_alloc | apply pw_below_drewN | apply below_drew1) | exact HB.out)))); have n1_ := Aside0.mk (below_step (by repeat (first | (with_reducible first | exact HB.out | apply below_alloc | apply pw_below_drewN | apply below_drew1) | exact HB.out)) hb); clear HB; have HO115 := n0_; have HB := n1_; clear n0_ n1_; clear hb ho13; obtain ⟨Ao14, co14, eo14⟩ := Kd.R_slice HO115.out; subst eo14) | ((with_reducible refine gate_callee (f := 21) rfl ?_); refine goesL_ (some 8) rfl rfl Tryd.func21 (by kernel_rfl) rfl #[.slice Ao14 y113.length co14] rfl (by (try simp only [List.map_toArray, List.map_cons, List.map_nil]); first | done | rfl | (simp only [List.length_drop, List.length_take]; rfl)) ?_; (with_reducible refine (laws_plain9.calls k _ _ y113 true _ ?side1 ?side2 A3.out).mono ?_); (case side1 => repeat (first | exact (Kd.R_reads' HO115.out).2.2 | (with_reducible refine Kd.C_alloc ?_ _) | (with_reducible refine Kd.C_drewN ?_ _) | (with_reducible refine Kd.C_drew ?_))); (case side2 => exact (Kd.R_reads' HO115.out).2.1); rintro e w' ⟨rfl, ⟨nd, rfl⟩⟩; refine ⟨_, rfl, ?_⟩) | (go_at_call 26; (with_reducible refine (impl_SwapCase.calls a0 t117 _ (by first | exact TT_.out | exact TT_.out.below (by repeat (first | (with_reducible first | exact HB.out | apply below_alloc | apply pw_below_drewN | apply below_drew1) | exact HB.out))) A5.out).mono ?_); rintro e w15 ⟨rfl, hb⟩; have n0_ := Aside0.mk (Kd.R_below (by (with_reducible repeat (first | apply Kd.R_alloc | apply Kd.R_drewN | apply Kd.R_drew)); exact HO115.out) hb); have n1_ := Aside0.mk (below_step (by repeat (first | (with_reducible first | exact HB.out | apply below_alloc | apply pw_below_drewN | apply below_drew1) | exact HB.out)) hb); clear HO115; clear HB; have HO115 := n0_; have HB := n1_; clear n0_ n1_; (try clear hb); (try clear hb2); (try clear hk); (try clear hi)) | (go_at_call 27; (with_reducible refine (spec_SwapCase.calls k a0 t118 _ A6.out).mono ?_); rintro e w16 ⟨rfl, hb⟩; have n0_ := Aside0.mk (Kd.R_below (by (with_reducible repeat (first | apply Kd.R_alloc | apply Kd.R_drewN | apply Kd.R_drew)); exact HO115.out) hb); have n1_ := Aside0.mk (below_step (by repeat (first | (with_reducible first | exact HB.out | apply below_alloc | apply pw_below_drewN | apply below_drew1) | exact HB.out)) hb); clear HO115; clear HB; have HO115 := n0_; have HB := n1_; clear n0_ n1_; (try clear hb); (try clear hb2); (try clear hk); (try clear hi)) | (go_at_call 26; (with_reducible refine (impl_SwapCase.calls a0 t117 _ (by first | exact TT_.out | exact TT_.out.below (by repeat (first | (with_reducible first | exact HB.out | apply below_alloc | apply pw_below_drewN | apply below_drew1) | exact HB.out))) A8.out).mono ?_); rintro e w17 ⟨rfl, hb⟩; have n0_ := Aside0.mk (Kd.R_below (by (with_reducible repeat (first | apply Kd.R_alloc | apply Kd.R_drewN | apply Kd.R_drew)); exact HO115.out) hb); have n1_ := Aside0.mk (below_step (by repeat (first | (with_reducible first | exact HB.out | apply below_alloc | apply pw_below_drewN | apply below_drew1) | exact HB.out)) hb); clear HO115; clear HB; have HO115 := n0_; have HB := n1_; clear n0_ n1_; (try clear hb); (try clear hb2); (try clear hk); (try clear hi)) | (go_at_call 26; (with_reducible refine (impl_SwapCase.calls t117 t120 _ (by first | exact TT_.out | exact TT_.out.below (by repeat (first | (with_reducible first | exact HB.out | apply below_alloc | apply pw_below_drewN | apply below_drew1) | exact HB.out))) A9.out).mono ?_); rintro e w18 ⟨rfl, hb⟩; have n0_ := Aside0.mk (Kd.R_below (by (with_reducible repeat (first | apply Kd.R_alloc | apply Kd.R_drewN | apply Kd.R_drew)); exact HO115.out) hb); have n1_ := Aside0.mk (below_step (by repeat (first | (with_reducible first | exact HB.out | apply below_alloc | apply pw_below_drewN | apply below_drew1) | exact HB.out)) hb); clear HO115; clear HB; have HO115 := n0_; have HB := n1_; clear n0_ n1_; (try clear hb); (try clear hb2); (try clear hk); (try clear hi)) | (go_at_call 26; (with_reducible refine (impl_SwapCase.calls (⟨#[97, 66]⟩ : ByteArray) t121 _ (by first | exact TT_.out | exact TT_.out.below (by repeat (first | (with_reducible first | exact HB.out | apply below_alloc | apply pw_below_drewN | apply below_drew1) | exact HB.out))) A11.out).mono ?_); rintro e w19 ⟨rfl, hb⟩; have n0_ := Aside0.mk (Kd.R_below (by (with_reducible repeat (first | apply Kd.R_alloc | apply Kd.R_drewN | apply Kd.R_drew)); exact HO115.out) hb); have n1_ := Aside0.mk (below_step (by repeat (first | (with_reducible first | exact HB.out | apply below_alloc | apply pw_below_drewN | apply below_drew1) | exact HB.out)) hb); clear HO115; clear HB; have HO115 := n0_; have HB := n1_; clear n0_ n1_; (try clear hb); (try clear hb2); (try clear hk); (try clear hi)))
          go_ret
          exact ⟨by first | rfl | (simp [errW_none, errW_some] <;> rfl) | (simp [*, errW_none, errW_some] <;> rfl), by repeat (first | (with_reducible first | exact HB.out | apply below_alloc | apply pw_below_drewN | apply below_drew1) | exact HB.out)⟩
        · rw [if_neg c10] at H
          have c10b0 : (t120.toList == a0.toList) = false := beq_eq_false_iff_ne.mpr c10
          have c10b1 : (t120.toList != a0.toList) = true := bne_iff_ne.mpr c10
          obtain rfl := Option.some.inj H
          go_enter Tryd.func6, Tryd.ntmps6
          go_wp2_with (first | ((with_reducible refine gate_dst (N := 7) rfl ?_); refine Kd.R_lit Kd.string _ 9 ?hg (N := 7) ?hd (xs := ([a0] : List ByteArray)) (inner := [.string a0]) (ok := fun _ => True) (okp := fun _ => True) ?hr ?hp (fun _ hk => hk) trivial (Below.refl _ _) (Nat.le_refl _) (by simp) ?_; (case hd => rfl); (case hg => rfl); (case hr => first | (go_simp; done) | (go_simp; rfl)); (case hp => exact (Reps.one (show Kd.M Kd.string _ _ _ a0 [.string a0] from rfl) (Reps.none _ _))); intro v114 w20 ho21 hb hg_ hnew_; clear hg_ hnew_; (first | rw [← Ny113.out] at ho21 | (simp only [Int.reduceToNat] at ho21; rw [← Ny113.out] at ho21)); have n0_ := Aside0.mk (Kd.R_lower ho21 (below_size (by repeat (first | (with_reducible first | exact HB.out | apply below_alloc | apply pw_below_drewN | apply below_drew1) | exact HB.out)))); have n1_ := Aside0.mk (below_step (by repeat (first | (with_reducible first | exact HB.out | apply below_alloc | apply pw_below_drewN | apply below_drew1) | exact HB.out)) hb); clear HB; have HO115 := n0_; have HB := n1_; clear n0_ n1_; clear hb ho21; obtain ⟨Ao22, co22, eo22⟩ := Kd.R_slice HO115.out; subst eo22) | ((with_reducible refine gate_callee (f := 21) rfl ?_); refine goesL_ (some 8) rfl rfl Tryd.func21 (by kernel_rfl) rfl #[.slice Ao22 y113.length co22] rfl (by (try simp only [List.map_toArray, List.map_cons, List.map_nil]); first | done | rfl | (simp only [List.length_drop, List.length_take]; rfl)) ?_; (with_reducible refine (laws_plain9.calls k _ _ y113 true _ ?side1 ?side2 A3.out).mono ?_); (case side1 => repeat (first | exact (Kd.R_reads' HO115.out).2.2 | (with_reducible refine Kd.C_alloc ?_ _) | (with_reducible refine Kd.C_drewN ?_ _) | (with_reducible refine Kd.C_drew ?_))); (case side2 => exact (Kd.R_reads' HO115.out).2.1); rintro e w' ⟨rfl, ⟨nd, rfl⟩⟩; refine ⟨_, rfl, ?_⟩) | (go_at_call 26; (with_reducible refine (impl_SwapCase.calls a0 t117 _ (by first | exact TT_.out | exact TT_.out.below (by repeat (first | (with_reducible first | exact HB.out | apply below_alloc | apply pw_below_drewN | apply below_drew1) | exact HB.out))) A5.out).mono ?_); rintro e w23 ⟨rfl, hb⟩; have n0_ := Aside0.mk (Kd.R_below (by (with_reducible repeat (first | apply Kd.R_alloc | apply Kd.R_drewN | apply Kd.R_drew)); exact HO115.out) hb); have n1_ := Aside0.mk (below_step (by repeat (first | (with_reducible first | exact HB.out | apply below_alloc | apply pw_below_drewN | apply below_drew1) | exact HB.out)) hb); clear HO115; clear HB; have HO115 := n0_; have HB := n1_; clear n0_ n1_; (try clear hb); (try clear hb2); (try clear hk); (try clear hi)) | (go_at_call 27; (with_reducible refine (spec_SwapCase.calls k a0 t118 _ A6.out).mono ?_); rintro e w24 ⟨rfl, hb⟩; have n0_ := Aside0.mk (Kd.R_below (by (with_reducible repeat (first | apply Kd.R_alloc | apply Kd.R_drewN | apply Kd.R_drew)); exact HO115.out) hb); have n1_ := Aside0.mk (below_step (by repeat (first | (with_reducible first | exact HB.out | apply below_alloc | apply pw_below_drewN | apply below_drew1) | exact HB.out)) hb); clear HO115; clear HB; have HO115 := n0_; have HB := n1_; clear n0_ n1_; (try clear hb); (try clear hb2); (try clear hk); (try clear hi)) | (go_at_call 26; (with_reducible refine (impl_SwapCase.calls a0 t117 _ (by first | exact TT_.out | exact TT_.out.below (by repeat (first | (with_reducible first | exact HB.out | apply below_alloc | apply pw_below_drewN | apply below_drew1) | exact HB.out))) A8.out).mono ?_); rintro e w25 ⟨rfl, hb⟩; have n0_ := Aside0.mk (Kd.R_below (by (with_reducible repeat (first | apply Kd.R_alloc | apply Kd.R_drewN | apply Kd.R_drew)); exact HO115.out) hb); have n1_ := Aside0.mk (below_step (by repeat (first | (with_reducible first | exact HB.out | apply below_alloc | apply pw_below_drewN | apply below_drew1) | exact HB.out)) hb); clear HO115; clear HB; have HO115 := n0_; have HB := n1_; clear n0_ n1_; (try clear hb); (try clear hb2); (try clear hk); (try clear hi)) | (go_at_call 26; (with_reducible refine (impl_SwapCase.calls t117 t120 _ (by first | exact TT_.out | exact TT_.out.below (by repeat (first | (with_reducible first | exact HB.out | apply below_alloc | apply pw_below_drewN | apply below_drew1) | exact HB.out))) A9.out).mono ?_); rintro e w26 ⟨rfl, hb⟩; have n0_ := Aside0.mk (Kd.R_below (by (with_reducible repeat (first | apply Kd.R_alloc | apply Kd.R_drewN | apply Kd.R_drew)); exact HO115.out) hb); have n1_ := Aside0.mk (below_step (by repeat (first | (with_reducible first | exact HB.out | apply below_alloc | apply pw_below_drewN | apply below_drew1) | exact HB.out)) hb); clear HO115; clear HB; have HO115 := n0_; have HB := n1_; clear n0_ n1_; (try clear hb); (try clear hb2); (try clear hk); (try clear hi)))
          go_ret
          exact ⟨by first | rfl | (simp [errW_none, errW_some] <;> rfl) | (simp [*, errW_none, errW_some] <;> rfl), by repeat (first | (with_reducible first | exact HB.out | apply below_alloc | apply pw_below_drewN | apply below_drew1) | exact HB.out)⟩
      · rw [if_neg c7] at H
        have c7b0 : (t117.toList == t118.toList) = false := beq_eq_false_iff_ne.mpr c7
        have c7b1 : (t117.toList != t118.toList) = true := bne_iff_ne.mpr c7
        obtain rfl := Option.some.inj H
        go_enter Tryd.func6, Tryd.ntmps6
        go_wp2_with (first | ((with_reducible refine gate_dst (N := 7) rfl ?_); refine Kd.R_lit Kd.string _ 9 ?hg (N := 7) ?hd (xs := ([a0] : List ByteArray)) (inner := [.string a0]) (ok := fun _ => True) (okp := fun _ => True) ?hr ?hp (fun _ hk => hk) trivial (Below.refl _ _) (Nat.le_refl _) (by simp) ?_; (case hd => rfl); (case hg => rfl); (case hr => first | (go_simp; done) | (go_simp; rfl)); (case hp => exact (Reps.one (show Kd.M Kd.string _ _ _ a0 [.string a0] from rfl) (Reps.none _ _))); intro v114 w27 ho28 hb hg_ hnew_; clear hg_ hnew_; (first | rw [← Ny113.out] at ho28 | (simp only [Int.reduceToNat] at ho28; rw [← Ny113.out] at ho28)); have n0_ := Aside0.mk (Kd.R_lower ho28 (below_size (by repeat (first | (with_reducible first | exact HB.out | apply below_alloc | apply pw_below_drewN | apply below_drew1) | exact HB.out)))); have n1_ := Aside0.mk (below_step (by repeat (first | (with_reducible first | exact HB.out | apply below_alloc | apply pw_below_drewN | apply below_drew1) | exact HB.out)) hb); clear HB; have HO115 := n0_; have HB := n1_; clear n0_ n1_; clear hb ho28; obtain ⟨Ao29, co29, eo29⟩ := Kd.R_slice HO115.out; subst eo29) | ((with_reducible refine gate_callee (f := 21) rfl ?_); refine goesL_ (some 8) rfl rfl Tryd.func21 (by kernel_rfl) rfl #[.slice Ao29 y113.length co29] rfl (by (try simp only [List.map_toArray, List.map_cons, List.map_nil]); first | done | rfl | (simp only [List.length_drop, List.length_take]; rfl)) ?_; (with_reducible refine (laws_plain9.calls k _ _ y113 true _ ?side1 ?side2 A3.out).mono ?_); (case side1 => repeat (first | exact (Kd.R_reads' HO115.out).2.2 | (with_reducible refine Kd.C_alloc ?_ _) | (with_reducible refine Kd.C_drewN ?_ _) | (with_reducible refine Kd.C_drew ?_))); (case side2 => exact (Kd.R_reads' HO115.out).2.1); rintro e w' ⟨rfl, ⟨nd, rfl⟩⟩; refine ⟨_, rfl, ?_⟩) | (go_at_call 26; (with_reducible refine (impl_SwapCase.calls a0 t117 _ (by first | exact TT_.out | exact TT_.out.below (by repeat (first | (with_reducible first | exact HB.out | apply below_alloc | apply pw_below_drewN | apply below_drew1) | exact HB.out))) A5.out).mono ?_); rintro e w30 ⟨rfl, hb⟩; have n0_ := Aside0.mk (Kd.R_below (by (with_reducible repeat (first | apply Kd.R_alloc | apply Kd.R_drewN | apply Kd.R_drew)); exact HO115.out) hb); have n1_ := Aside0.mk (below_step (by repeat (first | (with_reducible first | exact HB.out | apply below_alloc | apply pw_below_drewN | apply below_drew1) | exact HB.out)) hb); clear HO115; clear HB; have HO115 := n0_; have HB := n1_; clear n0_ n1_; (try clear hb); (try clear hb2); (try clear hk); (try clear hi)) | (go_at_call 27; (with_reducible refine (spec_SwapCase.calls k a0 t118 _ A6.out).mono ?_); rintro e w31 ⟨rfl, hb⟩; have n0_ := Aside0.mk (Kd.R_below (by (with_reducible repeat (first | apply Kd.R_alloc | apply Kd.R_drewN | apply Kd.R_drew)); exact HO115.out) hb); have n1_ := Aside0.mk (below_step (by repeat (first | (with_reducible first | exact HB.out | apply below_alloc | apply pw_below_drewN | apply below_drew1) | exact HB.out)) hb); clear HO115; clear HB; have HO115 := n0_; have HB := n1_; clear n0_ n1_; (try clear hb); (try clear hb2); (try clear hk); (try clear hi)))
        go_ret
        exact ⟨by first | rfl | (simp [errW_none, errW_some] <;> rfl) | (simp [*, errW_none, errW_some] <;> rfl), by repeat (first | (with_reducible first | exact HB.out | apply below_alloc | apply pw_below_drewN | apply below_drew1) | exact HB.out)⟩
    · replace c4 := Bool.eq_false_iff.mpr c4
      subst c4
      have H1 : (some true) = some r := by rw [if_neg (show ¬ (false = true) by decide)] at H; exact H
      clear H
      have H := H1
      clear H1
      obtain rfl := Option.some.inj H
      go_enter Tryd.func6, Tryd.ntmps6
      go_wp2_with (first | ((with_reducible refine gate_dst (N := 7) rfl ?_); refine Kd.R_lit Kd.string _ 9 ?hg (N := 7) ?hd (xs := ([a0] : List ByteArray)) (inner := [.string a0]) (ok := fun _ => True) (okp := fun _ => True) ?hr ?hp (fun _ hk => hk) trivial (Below.refl _ _) (Nat.le_refl _) (by simp) ?_; (case hd => rfl); (case hg => rfl); (case hr => first | (go_simp; done) | (go_simp; rfl)); (case hp => exact (Reps.one (show Kd.M Kd.string _ _ _ a0 [.string a0] from rfl) (Reps.none _ _))); intro v114 w32 ho33 hb hg_ hnew_; clear hg_ hnew_; (first | rw [← Ny113.out] at ho33 | (simp only [Int.reduceToNat] at ho33; rw [← Ny113.out] at ho33)); have n0_ := Aside0.mk (Kd.R_lower ho33 (below_size (by repeat (first | (with_reducible first | exact HB.out | apply below_alloc | apply pw_below_drewN | apply below_drew1) | exact HB.out)))); have n1_ := Aside0.mk (below_step (by repeat (first | (with_reducible first | exact HB.out | apply below_alloc | apply pw_below_drewN | apply below_drew1) | exact HB.out)) hb); clear HB; have HO115 := n0_; have HB := n1_; clear n0_ n1_; clear hb ho33; obtain ⟨Ao34, co34, eo34⟩ := Kd.R_slice HO115.out; subst eo34) | ((with_reducible refine gate_callee (f := 21) rfl ?_); refine goesL_ (some 8) rfl rfl Tryd.func21 (by kernel_rfl) rfl #[.slice Ao34 y113.length co34] rfl (by (try simp only [List.map_toArray, List.map_cons, List.map_nil]); first | done | rfl | (simp only [List.length_drop, List.length_take]; rfl)) ?_; (with_reducible refine (laws_plain9.calls k _ _ y113 false _ ?side1 ?side2 A3.out).mono ?_); (case side1 => repeat (first | exact (Kd.R_reads' HO115.out).2.2 | (with_reducible refine Kd.C_alloc ?_ _) | (with_reducible refine Kd.C_drewN ?_ _) | (with_reducible refine Kd.C_drew ?_))); (case side2 => exact (Kd.R_reads' HO115.out).2.1); rintro e w' ⟨rfl, ⟨nd, rfl⟩⟩; refine ⟨_, rfl, ?_⟩))
      go_ret
      exact ⟨by first | rfl | (simp [errW_none, errW_some] <;> rfl) | (simp [*, errW_none, errW_some] <;> rfl), by repeat (first | (with_reducible first | exact HB.out | apply below_alloc | apply pw_below_drewN | apply below_drew1) | exact HB.out)⟩

/-- THE ONE PURE STATEMENT of laws_FnSwapCase: yours. -/
def laws_FnSwapCase.Pure : Prop := ∀ (a0 : ByteArray), a0.size ≤ 140737488351232 → ∃ k, laws_FnSwapCase.f k a0 = some true
theorem laws_FnSwapCase.walk (P : laws_FnSwapCase.Pure) (a0 : ByteArray) (w : World) (T : Giv.Props w) (w0 : a0.size ≤ 140737488351232) :
    Calls Tryd.prog 6 #[.string a0] w fun e w' => e = .returned (.bool true) ∧ Below w.heap.size w w' := by
  have TT_ := Aside0.mk T
  clear T
  obtain ⟨k, h⟩ := P a0 w0
  refine (laws_FnSwapCase.calls k a0 true w TT_.out h).mono ?_
  rintro e w' ⟨rfl, hd⟩
  exact ⟨rfl, hd⟩


end Go.Proofs.YtpkdoinofenahaaDoor.PFnSwapCase
