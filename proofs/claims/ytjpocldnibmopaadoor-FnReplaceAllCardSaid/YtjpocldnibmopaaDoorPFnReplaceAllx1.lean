-- Written by gprint.py (a program of this session, over the kit's print) out of Lean's own print of the program.
import Derived.Test.YtjpocldnibmopaaDoorPFnReplaceAllx0
namespace Go.Proofs.YtjpocldnibmopaaDoor.PFnReplaceAll
open Go.Proofs.YtjpocldnibmopaaDoor.Giv
open Go.RowKit Go.Proofs.YtjpocldnibmopaaDoorW.PrintWords Go.Proofs.YtjpocldnibmopaaDoorW.PrintLast Go.Proofs.YtjpocldnibmopaaDoorW.PrintMore
attribute [local go_sem] max2_int min2_int max_two min_two max_three min_three max_four min_four   -- for this text's walks alone
set_option linter.unusedVariables false
set_option linter.unusedSimpArgs false

-- NOT PRINTED: function 25 (spec_replaced)

-- GIVEN: function 16 (spec_Points): a contract of ours

-- GIVEN: function 13 (spec_UTF8): a contract of ours

/-! ### laws_text9: function 6 -/
def laws_text9.l0 : Nat → List ByteArray → Int → Int → Option (Bool)
  | 0, _, _, _ => none
  | k + 1, x0, x5, x6 => if x6 < x5 then (if 0 ≤ x6 then (if x6 < (x0.length : Int) then (if ((rdOf ByteArray.empty x0 x6).size : Int) > 500 then (some false) else ((spec_UTF8.f (rdOf ByteArray.empty x0 x6)).bind fun t103 => (if t103 = true then (laws_text9.l0 k x0 x5 (wrap64 (x6 + 1))) else (some false)))) else (none)) else (none)) else (some true)
def laws_text9.f (k : Nat) (l0 : List ByteArray) : Option (Bool) := laws_text9.l0 k l0 (l0.length : Int) 0
theorem laws_text9.mono_l : ∀ k, (∀ y0 y1 y2, LeO (laws_text9.l0 k y0 y1 y2) (laws_text9.l0 (k + 1) y0 y1 y2))
  | 0 => fun _ _ _ r h => by simp [laws_text9.l0] at h
  | k + 1 => by
    have ih0 := laws_text9.mono_l k
    · intro y0 y1 y2
      unfold laws_text9.l0
      repeat' first
      | (with_reducible exact ih0 _ _ _)
      | (with_reducible exact LeO.refl _)
      | (with_reducible exact LeO.none _)
      | (with_reducible refine LeO.ite ?_ ?_)
      | (with_reducible refine LeO.bind ?_ (fun _ => ?_))
      | exact ih0 _ _ _
      | exact LeO.none _
      | refine LeO.ite ?_ ?_
      | refine LeO.bind ?_ (fun _ => ?_)
theorem laws_text9.mono : ∀ a0 k, LeO (laws_text9.f k a0) (laws_text9.f (k + 1) a0) := by
  intro a0 k
  have ih0 := laws_text9.mono_l k
  unfold laws_text9.f
  repeat' first
      | (with_reducible exact ih0 _ _ _)
      | (with_reducible exact LeO.refl _)
      | (with_reducible exact LeO.none _)
      | (with_reducible refine LeO.ite ?_ ?_)
      | (with_reducible refine LeO.bind ?_ (fun _ => ?_))
      | exact ih0 _ _ _
      | exact LeO.none _
      | refine LeO.ite ?_ ?_
      | refine LeO.bind ?_ (fun _ => ?_)
set_option maxHeartbeats 8000000 in
set_option maxRecDepth 100000 in
theorem laws_text9.calls (k : Nat) (A0 : Option Addr) (c0 : Nat) (l0 : List ByteArray) (r : Bool) (w : World) (hr0 : Kd.C Kd.string w A0 l0.length l0) (hc0 : l0.length ≤ c0) (h : laws_text9.f k l0 = some r) :
    Calls Tryd.prog 6 #[.slice A0 l0.length c0] w fun e w' => e = .returned (.bool r) ∧ Below w.heap.size w w' := by
  have HR0 := Aside0.mk hr0
  have HC0 := Aside0.mk hc0
  clear hr0 hc0
  have HB := Aside0.mk (Below.refl w.heap.size w)
  have H : (laws_text9.l0 k l0 (l0.length : Int) 0) = some r := h
  clear h
  have H' := Aside0.mk H
  clear H
  go_enter Tryd.func6, Tryd.ntmps6
  go_wp2
  go_loopg [6] k (fun kq v6 w' => ∃ (x6_1 : Int), v6 = .int .i64 x6_1 ∧ Aside0 (laws_text9.l0 kq l0 (l0.length : Int) x6_1 = some r) ∧ Aside0 (kq ≤ k) ∧ Aside0 (Below w.heap.size w w'))
  case atStart => exact ⟨(0), (by first | rfl | (simp; done) | (simp [*]; done)), H', ⟨Nat.le_refl _⟩, ⟨by repeat (first | (with_reducible first | exact HB.out | apply below_alloc | apply pw_below_drewN | apply below_drew1) | exact HB.out)⟩⟩
  case round =>
    clear H'
    obtain ⟨x6_1, rfl, HA, HK1, HB⟩ := hrel
    cases gk with
    | zero => exact absurd HA.out (by simp [laws_text9.l0])
    | succ k1 =>
      have H := HA.out
      clear HA
      simp only [laws_text9.l0] at H
      by_cases c2 : x6_1 < (l0.length : Int)
      · rw [if_pos c2] at H
        have c2b0 : decide (x6_1 < (l0.length : Int)) = true := decide_eq_true c2
        clear c2
        by_cases c3 : 0 ≤ x6_1
        · rw [if_pos c3] at H
          have c3b0 : decide (0 ≤ x6_1) = true := decide_eq_true c3
          clear c3
          by_cases c4 : x6_1 < (l0.length : Int)
          · rw [if_pos c4] at H
            have c4b0 : decide (x6_1 < (l0.length : Int)) = true := decide_eq_true c4
            clear c4
            by_cases c5 : ((rdOf ByteArray.empty l0 x6_1).size : Int) > 500
            · rw [if_pos c5] at H
              have c5b0 : decide (500 < ((rdOf ByteArray.empty l0 x6_1).size : Int)) = true := decide_eq_true c5
              have c5b1 : decide (500 < (rdOf ByteArray.empty l0 x6_1).size) = true := decide_eq_true (by omega)
              clear c5
              obtain rfl := Option.some.inj H
              have p101 : 0 ≤ (x6_1 : Int) := of_decide_eq_true (by first | (with_reducible assumption) | assumption)
              have q101 : x6_1 < (l0.length : Int) := of_decide_eq_true (by first | (with_reducible assumption) | assumption)
              obtain ⟨ad101, e101, hx101_0⟩ := Kd.at_string HR0.out x6_1 p101 q101
              cases e101
              replace hx101_0 := (HB.out.cell (World.block_lt_of_cell? w _ hx101_0)).trans hx101_0
              replace p101 := eq_true p101
              replace q101 := eq_true q101
              go_wp2
              go_ret
              exact ⟨by first | rfl | (simp [errW_none, errW_some] <;> rfl) | (simp [*, errW_none, errW_some] <;> rfl), by repeat (first | (with_reducible first | exact HB.out | apply below_alloc | apply pw_below_drewN | apply below_drew1) | exact HB.out)⟩
            · rw [if_neg c5] at H
              have c5b0 : decide (500 < ((rdOf ByteArray.empty l0 x6_1).size : Int)) = false := decide_eq_false c5
              have c5b1 : decide (500 < (rdOf ByteArray.empty l0 x6_1).size) = false := decide_eq_false (by omega)
              clear c5
              replace H := Option.bind_eq_some_iff.mp H
              obtain ⟨t103, A60, H⟩ := H
              replace H : (if t103 = true then (laws_text9.l0 k1 l0 (l0.length : Int) (wrap64 (x6_1 + 1))) else (some false)) = some r := H
              have A6 := Aside0.mk A60
              clear A60
              by_cases c7 : t103 = true
              · subst c7
                have H1 : (laws_text9.l0 k1 l0 (l0.length : Int) (wrap64 (x6_1 + 1))) = some r := by rw [if_pos rfl] at H; exact H
                clear H
                have H := H1
                clear H1
                have H' := Aside0.mk H
                clear H
                have p101 : 0 ≤ (x6_1 : Int) := of_decide_eq_true (by first | (with_reducible assumption) | assumption)
                have q101 : x6_1 < (l0.length : Int) := of_decide_eq_true (by first | (with_reducible assumption) | assumption)
                obtain ⟨ad101, e101, hx101_0⟩ := Kd.at_string HR0.out x6_1 p101 q101
                cases e101
                replace hx101_0 := (HB.out.cell (World.block_lt_of_cell? w _ hx101_0)).trans hx101_0
                replace p101 := eq_true p101
                replace q101 := eq_true q101
                have p102 : 0 ≤ (x6_1 : Int) := of_decide_eq_true (by first | (with_reducible assumption) | assumption)
                have q102 : x6_1 < (l0.length : Int) := of_decide_eq_true (by first | (with_reducible assumption) | assumption)
                obtain ⟨ad102, e102, hx102_0⟩ := Kd.at_string HR0.out x6_1 p102 q102
                obtain rfl : ad101 = ad102 := (by injection e102)
                replace hx102_0 := (HB.out.cell (World.block_lt_of_cell? w _ hx102_0)).trans hx102_0
                replace p102 := eq_true p102
                replace q102 := eq_true q102
                go_wp2_with (first | (go_at_call 13; (with_reducible refine (spec_UTF8.calls (rdOf ByteArray.empty l0 x6_1) true _ A6.out).mono ?_); rintro e w8 ⟨rfl, hb⟩; have n0_ := Aside0.mk (below_step (by repeat (first | (with_reducible first | exact HB.out | apply below_alloc | apply pw_below_drewN | apply below_drew1) | exact HB.out)) hb); clear HB; have HB := n0_; clear n0_; (try clear hb); (try clear hb2); (try clear hk); (try clear hi)))
                go_roundg k1
                case measure => have := HK1.out; omega
                case rel => exact ⟨(wrap64 (x6_1 + 1)), (by first | rfl | (simp; done) | (simp [*]; done)), H', ⟨by have := HK1.out; omega⟩, ⟨by repeat (first | (with_reducible first | exact HB.out | apply below_alloc | apply pw_below_drewN | apply below_drew1) | exact HB.out)⟩⟩
              · replace c7 := Bool.eq_false_iff.mpr c7
                subst c7
                have H1 : (some false) = some r := by rw [if_neg (show ¬ (false = true) by decide)] at H; exact H
                clear H
                have H := H1
                clear H1
                obtain rfl := Option.some.inj H
                have p101 : 0 ≤ (x6_1 : Int) := of_decide_eq_true (by first | (with_reducible assumption) | assumption)
                have q101 : x6_1 < (l0.length : Int) := of_decide_eq_true (by first | (with_reducible assumption) | assumption)
                obtain ⟨ad101, e101, hx101_0⟩ := Kd.at_string HR0.out x6_1 p101 q101
                cases e101
                replace hx101_0 := (HB.out.cell (World.block_lt_of_cell? w _ hx101_0)).trans hx101_0
                replace p101 := eq_true p101
                replace q101 := eq_true q101
                have p102 : 0 ≤ (x6_1 : Int) := of_decide_eq_true (by first | (with_reducible assumption) | assumption)
                have q102 : x6_1 < (l0.length : Int) := of_decide_eq_true (by first | (with_reducible assumption) | assumption)
                obtain ⟨ad102, e102, hx102_0⟩ := Kd.at_string HR0.out x6_1 p102 q102
                obtain rfl : ad101 = ad102 := (by injection e102)
                replace hx102_0 := (HB.out.cell (World.block_lt_of_cell? w _ hx102_0)).trans hx102_0
                replace p102 := eq_true p102
                replace q102 := eq_true q102
                go_wp2_with (first | (go_at_call 13; (with_reducible refine (spec_UTF8.calls (rdOf ByteArray.empty l0 x6_1) false _ A6.out).mono ?_); rintro e w9 ⟨rfl, hb⟩; have n0_ := Aside0.mk (below_step (by repeat (first | (with_reducible first | exact HB.out | apply below_alloc | apply pw_below_drewN | apply below_drew1) | exact HB.out)) hb); clear HB; have HB := n0_; clear n0_; (try clear hb); (try clear hb2); (try clear hk); (try clear hi)))
                go_ret
                exact ⟨by first | rfl | (simp [errW_none, errW_some] <;> rfl) | (simp [*, errW_none, errW_some] <;> rfl), by repeat (first | (with_reducible first | exact HB.out | apply below_alloc | apply pw_below_drewN | apply below_drew1) | exact HB.out)⟩
          · rw [if_neg c4] at H
            exact absurd H (by simp)
        · rw [if_neg c3] at H
          exact absurd H (by simp)
      · rw [if_neg c2] at H
        have c2b0 : decide (x6_1 < (l0.length : Int)) = false := decide_eq_false c2
        clear c2
        obtain rfl := Option.some.inj H
        go_wp2
        go_ret
        exact ⟨by first | rfl | (simp [errW_none, errW_some] <;> rfl) | (simp [*, errW_none, errW_some] <;> rfl), by repeat (first | (with_reducible first | exact HB.out | apply below_alloc | apply pw_below_drewN | apply below_drew1) | exact HB.out)⟩

-- NOT PRINTED: function 30 (utf8_decodeRuneInStringSlow)

-- GIVEN: function 27 (utf8_DecodeRuneInString): a contract of ours

/-! ### sprig_zzIndex: function 32 -/
def sprig_zzIndex.l0 : Nat → ByteArray → ByteArray → Int → Option (Int)
  | 0, _, _, _ => none
  | k + 1, x0, x1, x5 => if (wrap64 (x5 + (x1.size : Int))) ≤ (x0.size : Int) then (if 0 ≤ x5 then (if x5 ≤ (wrap64 (x5 + (x1.size : Int))) then (if (x0.extract (x5 : Int).toNat ((wrap64 (x5 + (x1.size : Int))) : Int).toNat).toList = x1.toList then (some x5) else (sprig_zzIndex.l0 k x0 x1 (wrap64 (x5 + 1)))) else (none)) else (none)) else (some (-1))
def sprig_zzIndex.f (k : Nat) (a0 : ByteArray) (a1 : ByteArray) : Option (Int) := sprig_zzIndex.l0 k a0 a1 0
theorem sprig_zzIndex.mono_l : ∀ k, (∀ y0 y1 y2, LeO (sprig_zzIndex.l0 k y0 y1 y2) (sprig_zzIndex.l0 (k + 1) y0 y1 y2))
  | 0 => fun _ _ _ r h => by simp [sprig_zzIndex.l0] at h
  | k + 1 => by
    have ih0 := sprig_zzIndex.mono_l k
    · intro y0 y1 y2
      unfold sprig_zzIndex.l0
      repeat' first
      | (with_reducible exact ih0 _ _ _)
      | (with_reducible exact LeO.refl _)
      | (with_reducible exact LeO.none _)
      | (with_reducible refine LeO.ite ?_ ?_)
      | (with_reducible refine LeO.bind ?_ (fun _ => ?_))
      | exact ih0 _ _ _
      | exact LeO.none _
      | refine LeO.ite ?_ ?_
      | refine LeO.bind ?_ (fun _ => ?_)
theorem sprig_zzIndex.mono : ∀ a0 a1 k, LeO (sprig_zzIndex.f k a0 a1) (sprig_zzIndex.f (k + 1) a0 a1) := by
  intro a0 a1 k
  have ih0 := sprig_zzIndex.mono_l k
  unfold sprig_zzIndex.f
  repeat' first
      | (with_reducible exact ih0 _ _ _)
      | (with_reducible exact LeO.refl _)
      | (with_reducible exact LeO.none _)
      | (with_reducible refine LeO.ite ?_ ?_)
      | (with_reducible refine LeO.bind ?_ (fun _ => ?_))
      | exact ih0 _ _ _
      | exact LeO.none _
      | refine LeO.ite ?_ ?_
      | refine LeO.bind ?_ (fun _ => ?_)
set_option maxHeartbeats 8000000 in
set_option maxRecDepth 100000 in
theorem sprig_zzIndex.calls (k : Nat) (a0 : ByteArray) (a1 : ByteArray) (r : Int) (w : World) (h : sprig_zzIndex.f k a0 a1 = some r) :
    Calls Tryd.prog 32 #[.string a0, .string a1] w fun e w' => e = .returned (.int .i64 r) ∧ Drawn0 w w' := by
  have H : (sprig_zzIndex.l0 k a0 a1 0) = some r := h
  clear h
  have H' := Aside0.mk H
  clear H
  go_enter Tryd.func32, Tryd.ntmps32
  go_wp2
  go_loopg [5] k (fun kq v5 w' => ∃ (x5_1 : Int), v5 = .int .i64 x5_1 ∧ Aside0 (sprig_zzIndex.l0 kq a0 a1 x5_1 = some r) ∧ Aside0 (kq ≤ k) ∧ Drawn0 w w')
  case atStart => exact ⟨(0), (by first | rfl | (simp; done) | (simp [*]; done)), H', ⟨Nat.le_refl _⟩, by repeat (first | exact Drawn0.refl _ | apply Drawn0.step)⟩
  case round =>
    clear H'
    try clear p2
    obtain ⟨x5_1, rfl, HA, HK1, ⟨m1, rfl⟩⟩ := hrel
    cases gk with
    | zero => exact absurd HA.out (by simp [sprig_zzIndex.l0])
    | succ k1 =>
      have H := HA.out
      clear HA
      simp only [sprig_zzIndex.l0] at H
      by_cases c3 : (wrap64 (x5_1 + (a1.size : Int))) ≤ (a0.size : Int)
      · rw [if_pos c3] at H
        have c3b0 : decide ((wrap64 (x5_1 + (a1.size : Int))) ≤ (a0.size : Int)) = true := decide_eq_true c3
        clear c3
        by_cases c4 : 0 ≤ x5_1
        · rw [if_pos c4] at H
          have c4b0 := eq_true c4
          have c4b1 : decide (0 ≤ x5_1) = true := decide_eq_true c4
          clear c4
          by_cases c5 : x5_1 ≤ (wrap64 (x5_1 + (a1.size : Int)))
          · rw [if_pos c5] at H
            have c5b0 := eq_true c5
            have c5b1 : decide (x5_1 ≤ (wrap64 (x5_1 + (a1.size : Int)))) = true := decide_eq_true c5
            have c6b0 := eq_true (of_decide_eq_true (by first | (with_reducible assumption) | assumption) : (wrap64 (x5_1 + (a1.size : Int))) ≤ (a0.size : Int))
            by_cases c7 : (a0.extract (x5_1 : Int).toNat ((wrap64 (x5_1 + (a1.size : Int))) : Int).toNat).toList = a1.toList
            · rw [if_pos c7] at H
              have c7b0 : ((a0.extract (x5_1 : Int).toNat ((wrap64 (x5_1 + (a1.size : Int))) : Int).toNat).toList == a1.toList) = true := beq_iff_eq.mpr c7
              have c7b1 : ((a0.extract (x5_1 : Int).toNat ((wrap64 (x5_1 + (a1.size : Int))) : Int).toNat).toList != a1.toList) = false := bne_eq_false_iff_eq.mpr c7
              clear c7
              obtain rfl := Option.some.inj H
              go_wp2
              go_ret
              exact ⟨by first | rfl | (simp; done) | (simp [*]; done), by repeat (first | exact Drawn0.refl _ | apply Drawn0.step)⟩
            · rw [if_neg c7] at H
              have c7b0 : ((a0.extract (x5_1 : Int).toNat ((wrap64 (x5_1 + (a1.size : Int))) : Int).toNat).toList == a1.toList) = false := beq_eq_false_iff_ne.mpr c7
              have c7b1 : ((a0.extract (x5_1 : Int).toNat ((wrap64 (x5_1 + (a1.size : Int))) : Int).toNat).toList != a1.toList) = true := bne_iff_ne.mpr c7
              have H' := Aside0.mk H
              clear H
              go_wp2
              go_roundg k1
              case measure => have := HK1.out; omega
              case rel => exact ⟨(wrap64 (x5_1 + 1)), (by first | rfl | (simp; done) | (simp [*]; done)), H', ⟨by have := HK1.out; omega⟩, by repeat (first | exact Drawn0.refl _ | apply Drawn0.step)⟩
          · rw [if_neg c5] at H
            exact absurd H (by simp)
        · rw [if_neg c4] at H
          exact absurd H (by simp)
      · rw [if_neg c3] at H
        have c3b0 : decide ((wrap64 (x5_1 + (a1.size : Int))) ≤ (a0.size : Int)) = false := decide_eq_false c3
        clear c3
        obtain rfl := Option.some.inj H
        go_wp2
        go_ret
        exact ⟨by first | rfl | (simp; done) | (simp [*]; done), by repeat (first | exact Drawn0.refl _ | apply Drawn0.step)⟩

/-! ### sprig_zzReplace: function 29 -/
mutual
def sprig_zzReplace.l0 : Nat → ByteArray → ByteArray → ByteArray → Int → List Int → Int → Int → Option (ByteArray)
  | 0, _, _, _, _, _, _, _ => none
  | k + 1, x0, x1, x2, x3, x9, x10, x11 => if x3 < 0 then (sprig_zzReplace.j1 k x0 x1 x2 x3 x9 x10 x11 true) else (sprig_zzReplace.j1 k x0 x1 x2 x3 x9 x10 x11 (decide (x11 < x3)))
def sprig_zzReplace.j1 : Nat → ByteArray → ByteArray → ByteArray → Int → List Int → Int → Int → Bool → Option (ByteArray)
  | 0, _, _, _, _, _, _, _, _ => none
  | k + 1, x0, x1, x2, x3, x9, x10, x11, x22 => if x22 = true then (if (x1.size : Int) = 0 then (if x11 > 0 then (if x10 = (x0.size : Int) then (if 0 ≤ x10 then (if x10 ≤ (x0.size : Int) then (if x9.length + (x0.extract (x10 : Int).toNat x0.size).size < 140737488355328 then (some (strOfNums (x9 ++ bytesOf (x0.extract (x10 : Int).toNat x0.size)))) else (none)) else (none)) else (none)) else (if 0 ≤ x10 then (if x10 ≤ (x0.size : Int) then ((utf8_DecodeRuneInString.f (x0.extract (x10 : Int).toNat x0.size)).bind fun bt110 => (if x10 ≤ (wrap64 (x10 + bt110.2)) then (if (wrap64 (x10 + bt110.2)) ≤ (x0.size : Int) then (if x9.length + (x0.extract (x10 : Int).toNat ((wrap64 (x10 + bt110.2)) : Int).toNat).size < 140737488355328 then ((some (x9 ++ bytesOf (x0.extract (x10 : Int).toNat ((wrap64 (x10 + bt110.2)) : Int).toNat) : List Int)).bind fun y112 => (if y112.length + x2.size < 140737488355328 then (sprig_zzReplace.l0 k x0 x1 x2 x3 (y112 ++ bytesOf x2) (wrap64 ((wrap64 (x10 + bt110.2)) + (x1.size : Int))) (wrap64 (x11 + 1))) else (none))) else (none)) else (none)) else (none))) else (none)) else (none))) else (if 0 ≤ x10 then (if x10 ≤ x10 then (if x10 ≤ (x0.size : Int) then (if x9.length + (x0.extract (x10 : Int).toNat (x10 : Int).toNat).size < 140737488355328 then ((some (x9 ++ bytesOf (x0.extract (x10 : Int).toNat (x10 : Int).toNat) : List Int)).bind fun y118 => (if y118.length + x2.size < 140737488355328 then (sprig_zzReplace.l0 k x0 x1 x2 x3 (y118 ++ bytesOf x2) (wrap64 (x10 + (x1.size : Int))) (wrap64 (x11 + 1))) else (none))) else (none)) else (none)) else (none)) else (none))) else (if 0 ≤ x10 then (if x10 ≤ (x0.size : Int) then ((sprig_zzIndex.f k (x0.extract (x10 : Int).toNat x0.size) x1).bind fun t124 => (if t124 < 0 then (if x9.length + (x0.extract (x10 : Int).toNat x0.size).size < 140737488355328 then (some (strOfNums (x9 ++ bytesOf (x0.extract (x10 : Int).toNat x0.size)))) else (none)) else (if x10 ≤ (wrap64 (x10 + t124)) then (if (wrap64 (x10 + t124)) ≤ (x0.size : Int) then (if x9.length + (x0.extract (x10 : Int).toNat ((wrap64 (x10 + t124)) : Int).toNat).size < 140737488355328 then ((some (x9 ++ bytesOf (x0.extract (x10 : Int).toNat ((wrap64 (x10 + t124)) : Int).toNat) : List Int)).bind fun y128 => (if y128.length + x2.size < 140737488355328 then (sprig_zzReplace.l0 k x0 x1 x2 x3 (y128 ++ bytesOf x2) (wrap64 ((wrap64 (x10 + t124)) + (x1.size : Int))) (wrap64 (x11 + 1))) else (none))) else (none)) else (none)) else (none)))) else (none)) else (none))) else (if 0 ≤ x10 then (if x10 ≤ (x0.size : Int) then (if x9.length + (x0.extract (x10 : Int).toNat x0.size).size < 140737488355328 then (some (strOfNums (x9 ++ bytesOf (x0.extract (x10 : Int).toNat x0.size)))) else (none)) else (none)) else (none))
end
def sprig_zzReplace.f (k : Nat) (a0 : ByteArray) (a1 : ByteArray) (a2 : ByteArray) (a3 : Int) : Option (ByteArray) := sprig_zzReplace.l0 k a0 a1 a2 a3 ([] : List Int) 0 0
theorem sprig_zzReplace.mono_l : ∀ k, (∀ y0 y1 y2 y3 y4 y5 y6, LeO (sprig_zzReplace.l0 k y0 y1 y2 y3 y4 y5 y6) (sprig_zzReplace.l0 (k + 1) y0 y1 y2 y3 y4 y5 y6)) ∧ (∀ y0 y1 y2 y3 y4 y5 y6 y7, LeO (sprig_zzReplace.j1 k y0 y1 y2 y3 y4 y5 y6 y7) (sprig_zzReplace.j1 (k + 1) y0 y1 y2 y3 y4 y5 y6 y7))
  | 0 => ⟨fun _ _ _ _ _ _ _ r h => by simp [sprig_zzReplace.l0] at h, fun _ _ _ _ _ _ _ _ r h => by simp [sprig_zzReplace.j1] at h⟩
  | k + 1 => by
    obtain ⟨ih0, ih1⟩ := sprig_zzReplace.mono_l k
    refine ⟨?_, ?_⟩
    · intro y0 y1 y2 y3 y4 y5 y6
      unfold sprig_zzReplace.l0
      repeat' first
      | (with_reducible exact ih0 _ _ _ _ _ _ _)
      | (with_reducible exact ih1 _ _ _ _ _ _ _ _)
      | (with_reducible exact sprig_zzIndex.mono _ _ _)
      | (with_reducible exact LeO.refl _)
      | (with_reducible exact LeO.none _)
      | (with_reducible refine LeO.ite ?_ ?_)
      | (with_reducible refine LeO.bind ?_ (fun _ => ?_))
      | exact ih0 _ _ _ _ _ _ _
      | exact ih1 _ _ _ _ _ _ _ _
      | exact sprig_zzIndex.mono _ _ _
      | exact LeO.none _
      | refine LeO.ite ?_ ?_
      | refine LeO.bind ?_ (fun _ => ?_)
    · intro y0 y1 y2 y3 y4 y5 y6 y7
      unfold sprig_zzReplace.j1
      repeat' first
      | (with_reducible exact ih0 _ _ _ _ _ _ _)
      | (with_reducible exact ih1 _ _ _ _ _ _ _ _)
      | (with_reducible exact sprig_zzIndex.mono _ _ _)
      | (with_reducible exact LeO.refl _)
      | (with_reducible exact LeO.none _)
      | (with_reducible refine LeO.ite ?_ ?_)
      | (with_reducible refine LeO.bind ?_ (fun _ => ?_))
      | exact ih0 _ _ _ _ _ _ _
      | exact ih1 _ _ _ _ _ _ _ _
      | exact sprig_zzIndex.mono _ _ _
      | exact LeO.none _
      | refine LeO.ite ?_ ?_
      | refine LeO.bind ?_ (fun _ => ?_)
theorem sprig_zzReplace.mono : ∀ a0 a1 a2 a3 k, LeO (sprig_zzReplace.f k a0 a1 a2 a3) (sprig_zzReplace.f (k + 1) a0 a1 a2 a3) := by
  intro a0 a1 a2 a3 k
  obtain ⟨ih0, ih1⟩ := sprig_zzReplace.mono_l k
  unfold sprig_zzReplace.f
  repeat' first
      | (with_reducible exact ih0 _ _ _ _ _ _ _)
      | (with_reducible exact ih1 _ _ _ _ _ _ _ _)
      | (with_reducible exact sprig_zzIndex.mono _ _ _)
      | (with_reducible exact LeO.refl _)
      | (with_reducible exact LeO.none _)
      | (with_reducible refine LeO.ite ?_ ?_)
      | (with_reducible refine LeO.bind ?_ (fun _ => ?_))
      | exact ih0 _ _ _ _ _ _ _
      | exact ih1 _ _ _ _ _ _ _ _
      | exact sprig_zzIndex.mono _ _ _
      | exact LeO.none _
      | refine LeO.ite ?_ ?_
      | refine LeO.bind ?_ (fun _ => ?_)
set_option maxHeartbeats 8000000 in
set_option maxRecDepth 100000 in
theorem sprig_zzReplace.calls (k : Nat) (a0 : ByteArray) (a1 : ByteArray) (a2 : ByteArray) (a3 : Int) (r : ByteArray) (w : World) (h : sprig_zzReplace.f k a0 a1 a2 a3 = some r) :
    Calls Tryd.prog 29 #[.string a0, .string a1, .string a2, .int .i64 a3] w fun e w' => e = .returned (.string r) ∧ Below w.heap.size w w' := by
  have HB := Aside0.mk (Below.refl w.heap.size w)
  have H : (sprig_zzReplace.l0 k a0 a1 a2 a3 ([] : List Int) 0 0) = some r := h
  clear h
  have H' := Aside0.mk H
  clear H
  go_enter Tryd.func29, Tryd.ntmps29
  go_wp2
  go_loopg [9, 10, 11] k (fun kq v9 v10 v11 w' => ∃ (x9_1 : List Int) (x10_1 : Int) (x11_1 : Int), v10 = .int .i64 x10_1 ∧ v11 = .int .i64 x11_1 ∧ Aside0 (sprig_zzReplace.l0 kq a0 a1 a2 a3 x9_1 x10_1 x11_1 = some r) ∧ Aside0 (kq ≤ k) ∧ Aside0 (Kd.R (Kd.int .u8) 5 w' w.heap.size (fun _ => True) v9 x9_1) ∧ Aside0 (Below w.heap.size w w'))
  case atStart => exact ⟨(([] : List Int)), (0), (0), (by first | rfl | (simp; done) | (simp [*]; done)), (by first | rfl | (simp; done) | (simp [*]; done)), H', ⟨Nat.le_refl _⟩, ⟨by first | exact Kd.R_nil _ _ _ _ _ | exact Kd.N_nil _ _ _ _ _ | exact Kd.V_nil _ _ _ _ _ | exact Kd.Q_nil _ _ _ _ _ | exact Kd.S_nil _ _ _ _ _⟩, ⟨by repeat (first | (with_reducible first | exact HB.out | apply below_alloc | apply pw_below_drewN | apply below_drew1) | exact HB.out)⟩⟩
  case round =>
    clear H'
    try clear c2
    try clear p2
    obtain ⟨x9_1, x10_1, x11_1, rfl, rfl, HA, HK1, HO_9, HB⟩ := hrel
    cases gk with
    | zero => exact absurd HA.out (by simp [sprig_zzReplace.l0])
    | succ k1 =>
      have H := HA.out
      clear HA
      simp only [sprig_zzReplace.l0] at H
      have HC5 := Aside0.mk H
      clear H
      go_upto_region 4 with (fail)
      go_cut [22] (fun v22 wc => ∃ (kq : Nat) (x22_4 : Bool), v22 = .bool x22_4 ∧ Aside0 (sprig_zzReplace.j1 kq a0 a1 a2 a3 x9_1 x10_1 x11_1 x22_4 = some r) ∧ Aside0 (kq ≤ k1) ∧ Aside0 (Kd.R (Kd.int .u8) 5 wc w.heap.size (fun _ => True) u9 x9_1) ∧ Aside0 (Below w.heap.size w wc))
      case first =>
        have H := HC5.out
        clear HC5
        by_cases c6 : a3 < 0
        · rw [if_pos c6] at H
          have c6b0 : decide (a3 < 0) = true := decide_eq_true c6
          clear c6
          (first | rw [c6b0] | (simp only [i64_w, i32_w]; rw [c6b0]) | skip)
          have H' := Aside0.mk H
          clear H
          go_wp2
          go_meet
          case rel => exact ⟨_, (true), (by first | rfl | (simp; done) | (simp [*]; done)), H', ⟨by have := HK1.out; first | omega | exact Nat.le_refl _⟩, ⟨by (with_reducible repeat (first | apply Kd.R_alloc | apply Kd.R_drewN | apply Kd.R_drew)); first | exact HO_9.out | (have h_ := HO_9.out; simp only [Txt.own_map] at h_ ⊢; exact h_)⟩, ⟨by repeat (first | (with_reducible first | exact HB.out | apply below_alloc | apply pw_below_drewN | apply below_drew1) | exact HB.out)⟩⟩
        · rw [if_neg c6] at H
          have c6b0 : decide (a3 < 0) = false := decide_eq_false c6
          clear c6
          (first | rw [c6b0] | (simp only [i64_w, i32_w]; rw [c6b0]) | skip)
          have H' := Aside0.mk H
          clear H
          go_wp2
          go_meet
          case rel => exact ⟨_, (decide (x11_1 < a3)), (by first | rfl | (simp; done) | (simp [*]; done)), H', ⟨by have := HK1.out; first | omega | exact Nat.le_refl _⟩, ⟨by (with_reducible repeat (first | apply Kd.R_alloc | apply Kd.R_drewN | apply Kd.R_drew)); first | exact HO_9.out | (have h_ := HO_9.out; simp only [Txt.own_map] at h_ ⊢; exact h_)⟩, ⟨by repeat (first | (with_reducible first | exact HB.out | apply below_alloc | apply pw_below_drewN | apply below_drew1) | exact HB.out)⟩⟩
      case rest =>
        clear HC5
        try clear c2
        try clear p2
        try clear c6
        try clear c6b0
        try clear p2
        obtain ⟨kq, x22_4, rfl, HA, HJ4, HO_9, HB⟩ := hcut
        cases kq with
        | zero => exact absurd HA.out (by simp [sprig_zzReplace.j1])
        | succ kj4 =>
          have H := HA.out
          clear HA
          simp only [sprig_zzReplace.j1] at H
          by_cases c7 : x22_4 = true
          · subst c7
            have H1 : (if (a1.size : Int) = 0 then (if x11_1 > 0 then (if x10_1 = (a0.size : Int) then (if 0 ≤ x10_1 then (if x10_1 ≤ (a0.size : Int) then (if x9_1.length + (a0.extract (x10_1 : Int).toNat a0.size).size < 140737488355328 then (some (strOfNums (x9_1 ++ bytesOf (a0.extract (x10_1 : Int).toNat a0.size)))) else (none)) else (none)) else (none)) else (if 0 ≤ x10_1 then (if x10_1 ≤ (a0.size : Int) then ((utf8_DecodeRuneInString.f (a0.extract (x10_1 : Int).toNat a0.size)).bind fun bt110 => (if x10_1 ≤ (wrap64 (x10_1 + bt110.2)) then (if (wrap64 (x10_1 + bt110.2)) ≤ (a0.size : Int) then (if x9_1.length + (a0.extract (x10_1 : Int).toNat ((wrap64 (x10_1 + bt110.2)) : Int).toNat).size < 140737488355328 then ((some (x9_1 ++ bytesOf (a0.extract (x10_1 : Int).toNat ((wrap64 (x10_1 + bt110.2)) : Int).toNat) : List Int)).bind fun y112 => (if y112.length + a2.size < 140737488355328 then (sprig_zzReplace.l0 kj4 a0 a1 a2 a3 (y112 ++ bytesOf a2) (wrap64 ((wrap64 (x10_1 + bt110.2)) + (a1.size : Int))) (wrap64 (x11_1 + 1))) else (none))) else (none)) else (none)) else (none))) else (none)) else (none))) else (if 0 ≤ x10_1 then (if x10_1 ≤ x10_1 then (if x10_1 ≤ (a0.size : Int) then (if x9_1.length + (a0.extract (x10_1 : Int).toNat (x10_1 : Int).toNat).size < 140737488355328 then ((some (x9_1 ++ bytesOf (a0.extract (x10_1 : Int).toNat (x10_1 : Int).toNat) : List Int)).bind fun y118 => (if y118.length + a2.size < 140737488355328 then (sprig_zzReplace.l0 kj4 a0 a1 a2 a3 (y118 ++ bytesOf a2) (wrap64 (x10_1 + (a1.size : Int))) (wrap64 (x11_1 + 1))) else (none))) else (none)) else (none)) else (none)) else (none))) else (if 0 ≤ x10_1 then (if x10_1 ≤ (a0.size : Int) then ((sprig_zzIndex.f kj4 (a0.extract (x10_1 : Int).toNat a0.size) a1).bind fun t124 => (if t124 < 0 then (if x9_1.length + (a0.extract (x10_1 : Int).toNat a0.size).size < 140737488355328 then (some (strOfNums (x9_1 ++ bytesOf (a0.extract (x10_1 : Int).toNat a0.size)))) else (none)) else (if x10_1 ≤ (wrap64 (x10_1 + t124)) then (if (wrap64 (x10_1 + t124)) ≤ (a0.size : Int) then (if x9_1.length + (a0.extract (x10_1 : Int).toNat ((wrap64 (x10_1 + t124)) : Int).toNat).size < 140737488355328 then ((some (x9_1 ++ bytesOf (a0.extract (x10_1 : Int).toNat ((wrap64 (x10_1 + t124)) : Int).toNat) : List Int)).bind fun y128 => (if y128.length + a2.size < 140737488355328 then (sprig_zzReplace.l0 kj4 a0 a1 a2 a3 (y128 ++ bytesOf a2) (wrap64 ((wrap64 (x10_1 + t124)) + (a1.size : Int))) (wrap64 (x11_1 + 1))) else (none))) else (none)) else (none)) else (none)))) else (none)) else (none))) = some r := by rw [if_pos rfl] at H; exact H
            clear H
            have H := H1
            clear H1
            by_cases c8 : (a1.size : Int) = 0
            · rw [if_pos c8] at H
              have c8b0 : ((a1.size : Int) == 0) = true := beq_iff_eq.mpr c8
              have c8b1 : ((a1.size : Int) != 0) = false := bne_eq_false_iff_eq.mpr c8
              clear c8
              by_cases c9 : x11_1 > 0
              · rw [if_pos c9] at H
                have c9b0 : decide (0 < x11_1) = true := decide_eq_true c9
                clear c9
                by_cases c10 : x10_1 = (a0.size : Int)
                · rw [if_pos c10] at H
                  have c10b0 : (x10_1 == (a0.size : Int)) = true := beq_iff_eq.mpr c10
                  have c10b1 : (x10_1 != (a0.size : Int)) = false := bne_eq_false_iff_eq.mpr c10
                  clear c10
                  by_cases c11 : 0 ≤ x10_1
                  · rw [if_pos c11] at H
                    have c11b0 := eq_true c11
                    have c11b1 : decide (0 ≤ x10_1) = true := decide_eq_true c11
                    clear c11
                    by_cases c12 : x10_1 ≤ (a0.size : Int)
                    · rw [if_pos c12] at H
                      have c12b0 := eq_true c12
                      have c12b1 : decide (x10_1 ≤ (a0.size : Int)) = true := decide_eq_true c12
                      clear c12
                      by_cases c13 : x9_1.length + (a0.extract (x10_1 : Int).toNat a0.size).size < 140737488355328
                      · rw [if_pos c13] at H
                        have LMc13 := Aside0.mk c13
                        clear c13
                        obtain ⟨y107, hy107⟩ : ∃ y_ : List Int, y_ = (x9_1 ++ bytesOf (a0.extract (x10_1 : Int).toNat a0.size)) := ⟨_, rfl⟩
                        replace H : (some (strOfNums y107)) = some r := by first | (rw [hy107]; with_reducible exact H) | (have H2_ := (Option.bind_some _ _).symm.trans H; rw [hy107]; with_reducible exact H2_) | (have H2_ := (Option.bind_some _ _).symm.trans H; with_reducible exact H2_) | with_reducible exact H | (rw [hy107]; exact H) | exact H
                        have Ny107 := Aside0.mk hy107
                        clear hy107
                        obtain rfl := Option.some.inj H
                        go_wp2_with (first | (at_builtin; refine print_append_str (w0 := w) w.heap.size rfl (.tmp 68) _ 44 9 5 rfl Tryd.underlying44 Tryd.underlying9 info5 u9 x9_1 (a0.extract (x10_1 : Int).toNat a0.size) rfl rfl ?aO ?aB ?aS ?aL ?_; (case aB => exact (by repeat (first | (with_reducible first | exact HB.out | apply below_alloc | apply pw_below_drewN | apply below_drew1) | exact HB.out))); (case aO => exact (Kd.own_of_R (by (with_reducible repeat (first | apply Kd.R_alloc | apply Kd.R_drewN | apply Kd.R_drew)); exact HO_9.out))); (case aS => exact (below_size (by repeat (first | (with_reducible first | exact HB.out | apply below_alloc | apply pw_below_drewN | apply below_drew1) | exact HB.out)))); (case aL => have := LMc13.out; omega); intro v108 w14 ho0 hb hg; have ho := Kd.R_of_own (h1 := fun _ => rfl) (ok := fun _ => True) ho0 (fun _ _ => trivial); clear ho0; have hat := True.intro; rw [← Ny107.out] at ho; change Kd.R (Kd.int .u8) 5 w14 w.heap.size (fun _ => True) v108 y107 at ho; have n0_ := Aside0.mk (hb); have n1_ := Aside0.mk (ho); clear HB; clear HO_9; have HB := n0_; have HO109 := n1_; clear n0_ n1_; clear ho hb hg hat; have hcv15 := own_string (P := Tryd.prog) Tryd.underlying44 Tryd.underlying5 Tryd.underlying9 (Kd.own_of_R HO109.out)))
                        go_ret
                        exact ⟨by first | rfl | (simp [errW_none, errW_some] <;> rfl) | (simp [*, errW_none, errW_some] <;> rfl), by repeat (first | (with_reducible first | exact HB.out | apply below_alloc | apply pw_below_drewN | apply below_drew1) | exact HB.out)⟩
                      · rw [if_neg c13] at H
                        exact absurd H (by simp)
                    · rw [if_neg c12] at H
                      exact absurd H (by simp)
                  · rw [if_neg c11] at H
                    exact absurd H (by simp)
                · rw [if_neg c10] at H
                  have c10b0 : (x10_1 == (a0.size : Int)) = false := beq_eq_false_iff_ne.mpr c10
                  have c10b1 : (x10_1 != (a0.size : Int)) = true := bne_iff_ne.mpr c10
                  by_cases c16 : 0 ≤ x10_1
                  · rw [if_pos c16] at H
                    have c16b0 := eq_true c16
                    have c16b1 : decide (0 ≤ x10_1) = true := decide_eq_true c16
                    clear c16
                    by_cases c17 : x10_1 ≤ (a0.size : Int)
                    · rw [if_pos c17] at H
                      have c17b0 := eq_true c17
                      have c17b1 : decide (x10_1 ≤ (a0.size : Int)) = true := decide_eq_true c17
                      clear c17
                      replace H := Option.bind_eq_some_iff.mp H
                      obtain ⟨⟨t110, t111⟩, A180, H⟩ := H
                      replace H : (if x10_1 ≤ (wrap64 (x10_1 + t111)) then (if (wrap64 (x10_1 + t111)) ≤ (a0.size : Int) then (if x9_1.length + (a0.extract (x10_1 : Int).toNat ((wrap64 (x10_1 + t111)) : Int).toNat).size < 140737488355328 then ((some (x9_1 ++ bytesOf (a0.extract (x10_1 : Int).toNat ((wrap64 (x10_1 + t111)) : Int).toNat) : List Int)).bind fun y112 => (if y112.length + a2.size < 140737488355328 then (sprig_zzReplace.l0 kj4 a0 a1 a2 a3 (y112 ++ bytesOf a2) (wrap64 ((wrap64 (x10_1 + t111)) + (a1.size : Int))) (wrap64 (x11_1 + 1))) else (none))) else (none)) else (none)) else (none)) = some r := H
                      have A18 := Aside0.mk A180
                      clear A180
                      have c19b0 := eq_true (of_decide_eq_true (by first | (with_reducible assumption) | assumption) : 0 ≤ x10_1)
                      by_cases c20 : x10_1 ≤ (wrap64 (x10_1 + t111))
                      · rw [if_pos c20] at H
                        have c20b0 := eq_true c20
                        have c20b1 : decide (x10_1 ≤ (wrap64 (x10_1 + t111))) = true := decide_eq_true c20
                        by_cases c21 : (wrap64 (x10_1 + t111)) ≤ (a0.size : Int)
                        · rw [if_pos c21] at H
                          have c21b0 := eq_true c21
                          have c21b1 : decide ((wrap64 (x10_1 + t111)) ≤ (a0.size : Int)) = true := decide_eq_true c21
                          by_cases c22 : x9_1.length + (a0.extract (x10_1 : Int).toNat ((wrap64 (x10_1 + t111)) : Int).toNat).size < 140737488355328
                          · rw [if_pos c22] at H
                            have LMc22 := Aside0.mk c22
                            clear c22
                            obtain ⟨y112, hy112⟩ : ∃ y_ : List Int, y_ = (x9_1 ++ bytesOf (a0.extract (x10_1 : Int).toNat ((wrap64 (x10_1 + t111)) : Int).toNat)) := ⟨_, rfl⟩
                            replace H : (if y112.length + a2.size < 140737488355328 then (sprig_zzReplace.l0 kj4 a0 a1 a2 a3 (y112 ++ bytesOf a2) (wrap64 ((wrap64 (x10_1 + t111)) + (a1.size : Int))) (wrap64 (x11_1 + 1))) else (none)) = some r := by first | (rw [hy112]; with_reducible exact H) | (have H2_ := (Option.bind_some _ _).symm.trans H; rw [hy112]; with_reducible exact H2_) | (have H2_ := (Option.bind_some _ _).symm.trans H; with_reducible exact H2_) | with_reducible exact H | (rw [hy112]; exact H) | exact H
                            have Ny112 := Aside0.mk hy112
                            clear hy112
                            by_cases c23 : y112.length + a2.size < 140737488355328
                            · rw [if_pos c23] at H
                              have LMc23 := Aside0.mk c23
                              clear c23
                              obtain ⟨y115, hy115⟩ : ∃ y_ : List Int, y_ = (y112 ++ bytesOf a2) := ⟨_, rfl⟩
                              replace H : (sprig_zzReplace.l0 kj4 a0 a1 a2 a3 y115 (wrap64 ((wrap64 (x10_1 + t111)) + (a1.size : Int))) (wrap64 (x11_1 + 1))) = some r := by first | (rw [hy115]; with_reducible exact H) | (have H2_ := (Option.bind_some _ _).symm.trans H; rw [hy115]; with_reducible exact H2_) | (have H2_ := (Option.bind_some _ _).symm.trans H; with_reducible exact H2_) | with_reducible exact H | (rw [hy115]; exact H) | exact H
                              have Ny115 := Aside0.mk hy115
                              clear hy115
                              have H' := Aside0.mk H
                              clear H
                              go_wp2_with (first | ((with_reducible refine gate_callee (f := 27) rfl ?_); refine goesL_ (some 39) rfl rfl Tryd.func27 (by kernel_rfl) rfl #[.string (a0.extract (x10_1 : Int).toNat a0.size)] rfl (by (try simp only [List.map_toArray, List.map_cons, List.map_nil]); first | done | rfl | (simp only [List.length_drop, List.length_take]; rfl)) ?_; (with_reducible refine (utf8_DecodeRuneInString.calls (a0.extract (x10_1 : Int).toNat a0.size) t110 t111 _ A18.out).mono ?_); rintro e w' ⟨rfl, ⟨nd, rfl⟩⟩; refine ⟨_, rfl, ?_⟩) | (at_builtin; refine print_append_str (w0 := w) w.heap.size rfl (.tmp 55) _ 44 9 5 rfl Tryd.underlying44 Tryd.underlying9 info5 u9 x9_1 (a0.extract (x10_1 : Int).toNat ((wrap64 (x10_1 + t111)) : Int).toNat) rfl rfl ?aO ?aB ?aS ?aL ?_; (case aB => exact (by repeat (first | (with_reducible first | exact HB.out | apply below_alloc | apply pw_below_drewN | apply below_drew1) | exact HB.out))); (case aO => exact (Kd.own_of_R (by (with_reducible repeat (first | apply Kd.R_alloc | apply Kd.R_drewN | apply Kd.R_drew)); exact HO_9.out))); (case aS => exact (below_size (by repeat (first | (with_reducible first | exact HB.out | apply below_alloc | apply pw_below_drewN | apply below_drew1) | exact HB.out)))); (case aL => have := LMc22.out; omega); intro v113 w24 ho0 hb hg; have ho := Kd.R_of_own (h1 := fun _ => rfl) (ok := fun _ => True) ho0 (fun _ _ => trivial); clear ho0; have hat := True.intro; rw [← Ny112.out] at ho; change Kd.R (Kd.int .u8) 5 w24 w.heap.size (fun _ => True) v113 y112 at ho; have n0_ := Aside0.mk (hb); have n1_ := Aside0.mk (ho); clear HB; clear HO_9; have HB := n0_; have HO114 := n1_; clear n0_ n1_; clear ho hb hg hat) | (at_builtin; refine print_append_str (w0 := w) w.heap.size rfl (.tmp 61) _ 44 9 5 rfl Tryd.underlying44 Tryd.underlying9 info5 v113 y112 a2 rfl rfl ?aO ?aB ?aS ?aL ?_; (case aB => exact (by repeat (first | (with_reducible first | exact HB.out | apply below_alloc | apply pw_below_drewN | apply below_drew1) | exact HB.out))); (case aO => exact (Kd.own_of_R (by (with_reducible repeat (first | apply Kd.R_alloc | apply Kd.R_drewN | apply Kd.R_drew)); exact HO114.out))); (case aS => exact (below_size (by repeat (first | (with_reducible first | exact HB.out | apply below_alloc | apply pw_below_drewN | apply below_drew1) | exact HB.out)))); (case aL => have := LMc23.out; omega); intro v116 w25 ho0 hb hg; have ho := Kd.R_of_own (h1 := fun _ => rfl) (ok := fun _ => True) ho0 (fun _ _ => trivial); clear ho0; have hat := True.intro; rw [← Ny115.out] at ho; change Kd.R (Kd.int .u8) 5 w25 w.heap.size (fun _ => True) v116 y115 at ho; have n0_ := Aside0.mk (hb); have n1_ := Aside0.mk (ho); clear HB; clear HO114; have HB := n0_; have HO117 := n1_; clear n0_ n1_; clear ho hb hg hat))
                              go_roundg kj4
                              case measure => have := HK1.out; have := HJ4.out; omega
                              case rel => exact ⟨(y115), (wrap64 ((wrap64 (x10_1 + t111)) + (a1.size : Int))), (wrap64 (x11_1 + 1)), (by first | rfl | (simp; done) | (simp [*]; done)), (by first | rfl | (simp; done) | (simp [*]; done)), H', ⟨by have := HK1.out; have := HJ4.out; omega⟩, ⟨by (with_reducible repeat (first | apply Kd.R_alloc | apply Kd.R_drewN | apply Kd.R_drew)); first | exact HO117.out | (have h_ := HO117.out; simp only [Txt.own_map] at h_ ⊢; exact h_)⟩, ⟨by repeat (first | (with_reducible first | exact HB.out | apply below_alloc | apply pw_below_drewN | apply below_drew1) | exact HB.out)⟩⟩
                            · rw [if_neg c23] at H
                              exact absurd H (by simp)
                          · rw [if_neg c22] at H
                            exact absurd H (by simp)
                        · rw [if_neg c21] at H
                          exact absurd H (by simp)
                      · rw [if_neg c20] at H
                        exact absurd H (by simp)
                    · rw [if_neg c17] at H
                      exact absurd H (by simp)
                  · rw [if_neg c16] at H
                    exact absurd H (by simp)
              · rw [if_neg c9] at H
                have c9b0 : decide (0 < x11_1) = false := decide_eq_false c9
                clear c9
                by_cases c26 : 0 ≤ x10_1
                · rw [if_pos c26] at H
                  have c26b0 := eq_true c26
                  have c26b1 : decide (0 ≤ x10_1) = true := decide_eq_true c26
                  clear c26
                  by_cases c27 : x10_1 ≤ x10_1
                  · rw [if_pos c27] at H
                    have c27b0 := eq_true c27
                    have c27b1 : decide (x10_1 ≤ x10_1) = true := decide_eq_true c27
                    clear c27
                    by_cases c28 : x10_1 ≤ (a0.size : Int)
                    · rw [if_pos c28] at H
                      have c28b0 := eq_true c28
                      have c28b1 : decide (x10_1 ≤ (a0.size : Int)) = true := decide_eq_true c28
                      clear c28
                      by_cases c29 : x9_1.length + (a0.extract (x10_1 : Int).toNat (x10_1 : Int).toNat).size < 140737488355328
                      · rw [if_pos c29] at H
                        have LMc29 := Aside0.mk c29
                        clear c29
                        obtain ⟨y118, hy118⟩ : ∃ y_ : List Int, y_ = (x9_1 ++ bytesOf (a0.extract (x10_1 : Int).toNat (x10_1 : Int).toNat)) := ⟨_, rfl⟩
                        replace H : (if y118.length + a2.size < 140737488355328 then (sprig_zzReplace.l0 kj4 a0 a1 a2 a3 (y118 ++ bytesOf a2) (wrap64 (x10_1 + (a1.size : Int))) (wrap64 (x11_1 + 1))) else (none)) = some r := by first | (rw [hy118]; with_reducible exact H) | (have H2_ := (Option.bind_some _ _).symm.trans H; rw [hy118]; with_reducible exact H2_) | (have H2_ := (Option.bind_some _ _).symm.trans H; with_reducible exact H2_) | with_reducible exact H | (rw [hy118]; exact H) | exact H
                        have Ny118 := Aside0.mk hy118
                        clear hy118
                        by_cases c30 : y118.length + a2.size < 140737488355328
                        · rw [if_pos c30] at H
                          have LMc30 := Aside0.mk c30
                          clear c30
                          obtain ⟨y121, hy121⟩ : ∃ y_ : List Int, y_ = (y118 ++ bytesOf a2) := ⟨_, rfl⟩
                          replace H : (sprig_zzReplace.l0 kj4 a0 a1 a2 a3 y121 (wrap64 (x10_1 + (a1.size : Int))) (wrap64 (x11_1 + 1))) = some r := by first | (rw [hy121]; with_reducible exact H) | (have H2_ := (Option.bind_some _ _).symm.trans H; rw [hy121]; with_reducible exact H2_) | (have H2_ := (Option.bind_some _ _).symm.trans H; with_reducible exact H2_) | with_reducible exact H | (rw [hy121]; exact H) | exact H
                          have Ny121 := Aside0.mk hy121
                          clear hy121
                          have H' := Aside0.mk H
                          clear H
                          have hEE_ : a0.extract (x10_1 : Int).toNat (x10_1 : Int).toNat = ByteArray.empty := by ext1; simp
                          have EEm_ := Aside0.mk hEE_
                          clear hEE_
                          go_wp2_with (first | (at_builtin; refine print_append_str (w0 := w) w.heap.size rfl (.tmp 55) _ 44 9 5 rfl Tryd.underlying44 Tryd.underlying9 info5 u9 x9_1 ByteArray.empty rfl rfl ?aO ?aB ?aS ?aL ?_; (case aB => exact (by repeat (first | (with_reducible first | exact HB.out | apply below_alloc | apply pw_below_drewN | apply below_drew1) | exact HB.out))); (case aO => exact (Kd.own_of_R (by (with_reducible repeat (first | apply Kd.R_alloc | apply Kd.R_drewN | apply Kd.R_drew)); exact HO_9.out))); (case aS => exact (below_size (by repeat (first | (with_reducible first | exact HB.out | apply below_alloc | apply pw_below_drewN | apply below_drew1) | exact HB.out)))); (case aL => have := LMc29.out; rw [EEm_.out] at this; omega); intro v119 w31 ho0 hb hg; have ho := Kd.R_of_own (h1 := fun _ => rfl) (ok := fun _ => True) ho0 (fun _ _ => trivial); clear ho0; have hat := True.intro; rw [← EEm_.out, ← Ny118.out] at ho; change Kd.R (Kd.int .u8) 5 w31 w.heap.size (fun _ => True) v119 y118 at ho; have n0_ := Aside0.mk (hb); have n1_ := Aside0.mk (ho); clear HB; clear HO_9; have HB := n0_; have HO120 := n1_; clear n0_ n1_; clear ho hb hg hat) | (at_builtin; refine print_append_str (w0 := w) w.heap.size rfl (.tmp 61) _ 44 9 5 rfl Tryd.underlying44 Tryd.underlying9 info5 v119 y118 a2 rfl rfl ?aO ?aB ?aS ?aL ?_; (case aB => exact (by repeat (first | (with_reducible first | exact HB.out | apply below_alloc | apply pw_below_drewN | apply below_drew1) | exact HB.out))); (case aO => exact (Kd.own_of_R (by (with_reducible repeat (first | apply Kd.R_alloc | apply Kd.R_drewN | apply Kd.R_drew)); exact HO120.out))); (case aS => exact (below_size (by repeat (first | (with_reducible first | exact HB.out | apply below_alloc | apply pw_below_drewN | apply below_drew1) | exact HB.out)))); (case aL => have := LMc30.out; omega); intro v122 w32 ho0 hb hg; have ho := Kd.R_of_own (h1 := fun _ => rfl) (ok := fun _ => True) ho0 (fun _ _ => trivial); clear ho0; have hat := True.intro; rw [← Ny121.out] at ho; change Kd.R (Kd.int .u8) 5 w32 w.heap.size (fun _ => True) v122 y121 at ho; have n0_ := Aside0.mk (hb); have n1_ := Aside0.mk (ho); clear HB; clear HO120; have HB := n0_; have HO123 := n1_; clear n0_ n1_; clear ho hb hg hat))
                          go_roundg kj4
                          case measure => have := HK1.out; have := HJ4.out; omega
                          case rel => exact ⟨(y121), (wrap64 (x10_1 + (a1.size : Int))), (wrap64 (x11_1 + 1)), (by first | rfl | (simp; done) | (simp [*]; done)), (by first | rfl | (simp; done) | (simp [*]; done)), H', ⟨by have := HK1.out; have := HJ4.out; omega⟩, ⟨by (with_reducible repeat (first | apply Kd.R_alloc | apply Kd.R_drewN | apply Kd.R_drew)); first | exact HO123.out | (have h_ := HO123.out; simp only [Txt.own_map] at h_ ⊢; exact h_)⟩, ⟨by repeat (first | (with_reducible first | exact HB.out | apply below_alloc | apply pw_below_drewN | apply below_drew1) | exact HB.out)⟩⟩
                        · rw [if_neg c30] at H
                          exact absurd H (by simp)
                      · rw [if_neg c29] at H
                        exact absurd H (by simp)
                    · rw [if_neg c28] at H
                      exact absurd H (by simp)
                  · rw [if_neg c27] at H
                    exact absurd H (by simp)
                · rw [if_neg c26] at H
                  exact absurd H (by simp)
            · rw [if_neg c8] at H
              have c8b0 : ((a1.size : Int) == 0) = false := beq_eq_false_iff_ne.mpr c8
              have c8b1 : ((a1.size : Int) != 0) = true := bne_iff_ne.mpr c8
              by_cases c33 : 0 ≤ x10_1
              · rw [if_pos c33] at H
                have c33b0 := eq_true c33
                have c33b1 : decide (0 ≤ x10_1) = true := decide_eq_true c33
                clear c33
                by_cases c34 : x10_1 ≤ (a0.size : Int)
                · rw [if_pos c34] at H
                  have c34b0 := eq_true c34
                  have c34b1 : decide (x10_1 ≤ (a0.size : Int)) = true := decide_eq_true c34
                  clear c34
                  replace H := Option.bind_eq_some_iff.mp H
                  obtain ⟨t124, A350, H⟩ := H
                  replace H : (if t124 < 0 then (if x9_1.length + (a0.extract (x10_1 : Int).toNat a0.size).size < 140737488355328 then (some (strOfNums (x9_1 ++ bytesOf (a0.extract (x10_1 : Int).toNat a0.size)))) else (none)) else (if x10_1 ≤ (wrap64 (x10_1 + t124)) then (if (wrap64 (x10_1 + t124)) ≤ (a0.size : Int) then (if x9_1.length + (a0.extract (x10_1 : Int).toNat ((wrap64 (x10_1 + t124)) : Int).toNat).size < 140737488355328 then ((some (x9_1 ++ bytesOf (a0.extract (x10_1 : Int).toNat ((wrap64 (x10_1 + t124)) : Int).toNat) : List Int)).bind fun y128 => (if y128.length + a2.size < 140737488355328 then (sprig_zzReplace.l0 kj4 a0 a1 a2 a3 (y128 ++ bytesOf a2) (wrap64 ((wrap64 (x10_1 + t124)) + (a1.size : Int))) (wrap64 (x11_1 + 1))) else (none))) else (none)) else (none)) else (none))) = some r := H
                  have A35 := Aside0.mk A350
                  clear A350
                  by_cases c36 : t124 < 0
                  · rw [if_pos c36] at H
                    have c36b0 : decide (t124 < 0) = true := decide_eq_true c36
                    clear c36
                    have c37b0 := eq_true (of_decide_eq_true (by first | (with_reducible assumption) | assumption) : 0 ≤ x10_1)
                    have c38b0 := eq_true (of_decide_eq_true (by first | (with_reducible assumption) | assumption) : x10_1 ≤ (a0.size : Int))
                    by_cases c39 : x9_1.length + (a0.extract (x10_1 : Int).toNat a0.size).size < 140737488355328
                    · rw [if_pos c39] at H
                      have LMc39 := Aside0.mk c39
                      clear c39
                      obtain ⟨y125, hy125⟩ : ∃ y_ : List Int, y_ = (x9_1 ++ bytesOf (a0.extract (x10_1 : Int).toNat a0.size)) := ⟨_, rfl⟩
                      replace H : (some (strOfNums y125)) = some r := by first | (rw [hy125]; with_reducible exact H) | (have H2_ := (Option.bind_some _ _).symm.trans H; rw [hy125]; with_reducible exact H2_) | (have H2_ := (Option.bind_some _ _).symm.trans H; with_reducible exact H2_) | with_reducible exact H | (rw [hy125]; exact H) | exact H
                      have Ny125 := Aside0.mk hy125
                      clear hy125
                      obtain rfl := Option.some.inj H
                      go_wp2_with (first | ((with_reducible refine gate_callee (f := 32) rfl ?_); refine goesL_ (some 49) rfl rfl Tryd.func32 (by kernel_rfl) rfl #[.string (a0.extract (x10_1 : Int).toNat a0.size), .string a1] rfl (by (try simp only [List.map_toArray, List.map_cons, List.map_nil]); first | done | rfl | (simp only [List.length_drop, List.length_take]; rfl)) ?_; (with_reducible refine (sprig_zzIndex.calls kj4 (a0.extract (x10_1 : Int).toNat a0.size) a1 t124 _ A35.out).mono ?_); rintro e w' ⟨rfl, ⟨nd, rfl⟩⟩; refine ⟨_, rfl, ?_⟩) | (at_builtin; refine print_append_str (w0 := w) w.heap.size rfl (.tmp 68) _ 44 9 5 rfl Tryd.underlying44 Tryd.underlying9 info5 u9 x9_1 (a0.extract (x10_1 : Int).toNat a0.size) rfl rfl ?aO ?aB ?aS ?aL ?_; (case aB => exact (by repeat (first | (with_reducible first | exact HB.out | apply below_alloc | apply pw_below_drewN | apply below_drew1) | exact HB.out))); (case aO => exact (Kd.own_of_R (by (with_reducible repeat (first | apply Kd.R_alloc | apply Kd.R_drewN | apply Kd.R_drew)); exact HO_9.out))); (case aS => exact (below_size (by repeat (first | (with_reducible first | exact HB.out | apply below_alloc | apply pw_below_drewN | apply below_drew1) | exact HB.out)))); (case aL => have := LMc39.out; omega); intro v126 w40 ho0 hb hg; have ho := Kd.R_of_own (h1 := fun _ => rfl) (ok := fun _ => True) ho0 (fun _ _ => trivial); clear ho0; have hat := True.intro; rw [← Ny125.out] at ho; change Kd.R (Kd.int .u8) 5 w40 w.heap.size (fun _ => True) v126 y125 at ho; have n0_ := Aside0.mk (hb); have n1_ := Aside0.mk (ho); clear HB; clear HO_9; have HB := n0_; have HO127 := n1_; clear n0_ n1_; clear ho hb hg hat; have hcv41 := own_string (P := Tryd.prog) Tryd.underlying44 Tryd.underlying5 Tryd.underlying9 (Kd.own_of_R HO127.out)))
                      go_ret
                      exact ⟨by first | rfl | (simp [errW_none, errW_some] <;> rfl) | (simp [*, errW_none, errW_some] <;> rfl), by repeat (first | (with_reducible first | exact HB.out | apply below_alloc | apply pw_below_drewN | apply below_drew1) | exact HB.out)⟩
                    · rw [if_neg c39] at H
                      exact absurd H (by simp)
                  · rw [if_neg c36] at H
                    have c36b0 : decide (t124 < 0) = false := decide_eq_false c36
                    clear c36
                    have c42b0 := eq_true (of_decide_eq_true (by first | (with_reducible assumption) | assumption) : 0 ≤ x10_1)
                    by_cases c43 : x10_1 ≤ (wrap64 (x10_1 + t124))
                    · rw [if_pos c43] at H
                      have c43b0 := eq_true c43
                      have c43b1 : decide (x10_1 ≤ (wrap64 (x10_1 + t124))) = true := decide_eq_true c43
                      by_cases c44 : (wrap64 (x10_1 + t124)) ≤ (a0.size : Int)
                      · rw [if_pos c44] at H
                        have c44b0 := eq_true c44
                        have c44b1 : decide ((wrap64 (x10_1 + t124)) ≤ (a0.size : Int)) = true := decide_eq_true c44
                        by_cases c45 : x9_1.length + (a0.extract (x10_1 : Int).toNat ((wrap64 (x10_1 + t124)) : Int).toNat).size < 140737488355328
                        · rw [if_pos c45] at H
                          have LMc45 := Aside0.mk c45
                          clear c45
                          obtain ⟨y128, hy128⟩ : ∃ y_ : List Int, y_ = (x9_1 ++ bytesOf (a0.extract (x10_1 : Int).toNat ((wrap64 (x10_1 + t124)) : Int).toNat)) := ⟨_, rfl⟩
                          replace H : (if y128.length + a2.size < 140737488355328 then (sprig_zzReplace.l0 kj4 a0 a1 a2 a3 (y128 ++ bytesOf a2) (wrap64 ((wrap64 (x10_1 + t124)) + (a1.size : Int))) (wrap64 (x11_1 + 1))) else (none)) = some r := by first | (rw [hy128]; with_reducible exact H) | (have H2_ := (Option.bind_some _ _).symm.trans H; rw [hy128]; with_reducible exact H2_) | (have H2_ := (Option.bind_some _ _).symm.trans H; with_reducible exact H2_) | with_reducible exact H | (rw [hy128]; exact H) | exact H
                          have Ny128 := Aside0.mk hy128
                          clear hy128
                          by_cases c46 : y128.length + a2.size < 140737488355328
                          · rw [if_pos c46] at H
                            have LMc46 := Aside0.mk c46
                            clear c46
                            obtain ⟨y131, hy131⟩ : ∃ y_ : List Int, y_ = (y128 ++ bytesOf a2) := ⟨_, rfl⟩
                            replace H : (sprig_zzReplace.l0 kj4 a0 a1 a2 a3 y131 (wrap64 ((wrap64 (x10_1 + t124)) + (a1.size : Int))) (wrap64 (x11_1 + 1))) = some r := by first | (rw [hy131]; with_reducible exact H) | (have H2_ := (Option.bind_some _ _).symm.trans H; rw [hy131]; with_reducible exact H2_) | (have H2_ := (Option.bind_some _ _).symm.trans H; with_reducible exact H2_) | with_reducible exact H | (rw [hy131]; exact H) | exact H
                            have Ny131 := Aside0.mk hy131
                            clear hy131
                            have H' := Aside0.mk H
                            clear H
                            go_wp2_with (first | ((with_reducible refine gate_callee (f := 32) rfl ?_); refine goesL_ (some 49) rfl rfl Tryd.func32 (by kernel_rfl) rfl #[.string (a0.extract (x10_1 : Int).toNat a0.size), .string a1] rfl (by (try simp only [List.map_toArray, List.map_cons, List.map_nil]); first | done | rfl | (simp only [List.length_drop, List.length_take]; rfl)) ?_; (with_reducible refine (sprig_zzIndex.calls kj4 (a0.extract (x10_1 : Int).toNat a0.size) a1 t124 _ A35.out).mono ?_); rintro e w' ⟨rfl, ⟨nd, rfl⟩⟩; refine ⟨_, rfl, ?_⟩) | (at_builtin; refine print_append_str (w0 := w) w.heap.size rfl (.tmp 55) _ 44 9 5 rfl Tryd.underlying44 Tryd.underlying9 info5 u9 x9_1 (a0.extract (x10_1 : Int).toNat ((wrap64 (x10_1 + t124)) : Int).toNat) rfl rfl ?aO ?aB ?aS ?aL ?_; (case aB => exact (by repeat (first | (with_reducible first | exact HB.out | apply below_alloc | apply pw_below_drewN | apply below_drew1) | exact HB.out))); (case aO => exact (Kd.own_of_R (by (with_reducible repeat (first | apply Kd.R_alloc | apply Kd.R_drewN | apply Kd.R_drew)); exact HO_9.out))); (case aS => exact (below_size (by repeat (first | (with_reducible first | exact HB.out | apply below_alloc | apply pw_below_drewN | apply below_drew1) | exact HB.out)))); (case aL => have := LMc45.out; omega); intro v129 w47 ho0 hb hg; have ho := Kd.R_of_own (h1 := fun _ => rfl) (ok := fun _ => True) ho0 (fun _ _ => trivial); clear ho0; have hat := True.intro; rw [← Ny128.out] at ho; change Kd.R (Kd.int .u8) 5 w47 w.heap.size (fun _ => True) v129 y128 at ho; have n0_ := Aside0.mk (hb); have n1_ := Aside0.mk (ho); clear HB; clear HO_9; have HB := n0_; have HO130 := n1_; clear n0_ n1_; clear ho hb hg hat) | (at_builtin; refine print_append_str (w0 := w) w.heap.size rfl (.tmp 61) _ 44 9 5 rfl Tryd.underlying44 Tryd.underlying9 info5 v129 y128 a2 rfl rfl ?aO ?aB ?aS ?aL ?_; (case aB => exact (by repeat (first | (with_reducible first | exact HB.out | apply below_alloc | apply pw_below_drewN | apply below_drew1) | exact HB.out))); (case aO => exact (Kd.own_of_R (by (with_reducible repeat (first | apply Kd.R_alloc | apply Kd.R_drewN | apply Kd.R_drew)); exact HO130.out))); (case aS => exact (below_size (by repeat (first | (with_reducible first | exact HB.out | apply below_alloc | apply pw_below_drewN | apply below_drew1) | exact HB.out)))); (case aL => have := LMc46.out; omega); intro v132 w48 ho0 hb hg; have ho := Kd.R_of_own (h1 := fun _ => rfl) (ok := fun _ => True) ho0 (fun _ _ => trivial); clear ho0; have hat := True.intro; rw [← Ny131.out] at ho; change Kd.R (Kd.int .u8) 5 w48 w.heap.size (fun _ => True) v132 y131 at ho; have n0_ := Aside0.mk (hb); have n1_ := Aside0.mk (ho); clear HB; clear HO130; have HB := n0_; have HO133 := n1_; clear n0_ n1_; clear ho hb hg hat))
                            go_roundg kj4
                            case measure => have := HK1.out; have := HJ4.out; omega
                            case rel => exact ⟨(y131), (wrap64 ((wrap64 (x10_1 + t124)) + (a1.size : Int))), (wrap64 (x11_1 + 1)), (by first | rfl | (simp; done) | (simp [*]; done)), (by first | rfl | (simp; done) | (simp [*]; done)), H', ⟨by have := HK1.out; have := HJ4.out; omega⟩, ⟨by (with_reducible repeat (first | apply Kd.R_alloc | apply Kd.R_drewN | apply Kd.R_drew)); first | exact HO133.out | (have h_ := HO133.out; simp only [Txt.own_map] at h_ ⊢; exact h_)⟩, ⟨by repeat (first | (with_reducible first | exact HB.out | apply below_alloc | apply pw_below_drewN | apply below_drew1) | exact HB.out)⟩⟩
                          · rw [if_neg c46] at H
                            exact absurd H (by simp)
                        · rw [if_neg c45] at H
                          exact absurd H (by simp)
                      · rw [if_neg c44] at H
                        exact absurd H (by simp)
                    · rw [if_neg c43] at H
                      exact absurd H (by simp)
                · rw [if_neg c34] at H
                  exact absurd H (by simp)
              · rw [if_neg c33] at H
                exact absurd H (by simp)
          · replace c7 := Bool.eq_false_iff.mpr c7
            subst c7
            have H1 : (if 0 ≤ x10_1 then (if x10_1 ≤ (a0.size : Int) then (if x9_1.length + (a0.extract (x10_1 : Int).toNat a0.size).size < 140737488355328 then (some (strOfNums (x9_1 ++ bytesOf (a0.extract (x10_1 : Int).toNat a0.size)))) else (none)) else (none)) else (none)) = some r := by rw [if_neg (show ¬ (false = true) by decide)] at H; exact H
            clear H
            have H := H1
            clear H1
            by_cases c49 : 0 ≤ x10_1
            · rw [if_pos c49] at H
              have c49b0 := eq_true c49
              have c49b1 : decide (0 ≤ x10_1) = true := decide_eq_true c49
              clear c49
              by_cases c50 : x10_1 ≤ (a0.size : Int)
              · rw [if_pos c50] at H
                have c50b0 := eq_true c50
                have c50b1 : decide (x10_1 ≤ (a0.size : Int)) = true := decide_eq_true c50
                clear c50
                by_cases c51 : x9_1.length + (a0.extract (x10_1 : Int).toNat a0.size).size < 140737488355328
                · rw [if_pos c51] at H
                  have LMc51 := Aside0.mk c51
                  clear c51
                  obtain ⟨y104, hy104⟩ : ∃ y_ : List Int, y_ = (x9_1 ++ bytesOf (a0.extract (x10_1 : Int).toNat a0.size)) := ⟨_, rfl⟩
                  replace H : (some (strOfNums y104)) = some r := by first | (rw [hy104]; with_reducible exact H) | (have H2_ := (Option.bind_some _ _).symm.trans H; rw [hy104]; with_reducible exact H2_) | (have H2_ := (Option.bind_some _ _).symm.trans H; with_reducible exact H2_) | with_reducible exact H | (rw [hy104]; exact H) | exact H
                  have Ny104 := Aside0.mk hy104
                  clear hy104
                  obtain rfl := Option.some.inj H
                  go_wp2_with (first | (at_builtin; refine print_append_str (w0 := w) w.heap.size rfl (.tmp 68) _ 44 9 5 rfl Tryd.underlying44 Tryd.underlying9 info5 u9 x9_1 (a0.extract (x10_1 : Int).toNat a0.size) rfl rfl ?aO ?aB ?aS ?aL ?_; (case aB => exact (by repeat (first | (with_reducible first | exact HB.out | apply below_alloc | apply pw_below_drewN | apply below_drew1) | exact HB.out))); (case aO => exact (Kd.own_of_R (by (with_reducible repeat (first | apply Kd.R_alloc | apply Kd.R_drewN | apply Kd.R_drew)); exact HO_9.out))); (case aS => exact (below_size (by repeat (first | (with_reducible first | exact HB.out | apply below_alloc | apply pw_below_drewN | apply below_drew1) | exact HB.out)))); (case aL => have := LMc51.out; omega); intro v105 w52 ho0 hb hg; have ho := Kd.R_of_own (h1 := fun _ => rfl) (ok := fun _ => True) ho0 (fun _ _ => trivial); clear ho0; have hat := True.intro; rw [← Ny104.out] at ho; change Kd.R (Kd.int .u8) 5 w52 w.heap.size (fun _ => True) v105 y104 at ho; have n0_ := Aside0.mk (hb); have n1_ := Aside0.mk (ho); clear HB; clear HO_9; have HB := n0_; have HO106 := n1_; clear n0_ n1_; clear ho hb hg hat; have hcv53 := own_string (P := Tryd.prog) Tryd.underlying44 Tryd.underlying5 Tryd.underlying9 (Kd.own_of_R HO106.out)))
                  go_ret
                  exact ⟨by first | rfl | (simp [errW_none, errW_some] <;> rfl) | (simp [*, errW_none, errW_some] <;> rfl), by repeat (first | (with_reducible first | exact HB.out | apply below_alloc | apply pw_below_drewN | apply below_drew1) | exact HB.out)⟩
                · rw [if_neg c51] at H
                  exact absurd H (by simp)
              · rw [if_neg c50] at H
                exact absurd H (by simp)
            · rw [if_neg c49] at H
              exact absurd H (by simp)

/-! ### sprig_replace: function 24 -/
def sprig_replace.f (k : Nat) (a0 : ByteArray) (a1 : ByteArray) (a2 : ByteArray) : Option (ByteArray) := (sprig_zzReplace.f k a2 a0 a1 (-1)).bind fun t134 => (some t134)
theorem sprig_replace.mono : ∀ a0 a1 a2 k, LeO (sprig_replace.f k a0 a1 a2) (sprig_replace.f (k + 1) a0 a1 a2) := by
  intro a0 a1 a2 k
  unfold sprig_replace.f
  repeat' first
      | (with_reducible exact sprig_zzReplace.mono _ _ _ _ _)
      | (with_reducible exact LeO.refl _)
      | (with_reducible exact LeO.none _)
      | (with_reducible refine LeO.ite ?_ ?_)
      | (with_reducible refine LeO.bind ?_ (fun _ => ?_))
      | exact sprig_zzReplace.mono _ _ _ _ _
      | exact LeO.none _
      | refine LeO.ite ?_ ?_
      | refine LeO.bind ?_ (fun _ => ?_)
set_option maxHeartbeats 8000000 in
set_option maxRecDepth 100000 in
theorem sprig_replace.calls (k : Nat) (a0 : ByteArray) (a1 : ByteArray) (a2 : ByteArray) (r : ByteArray) (w : World) (h : sprig_replace.f k a0 a1 a2 = some r) :
    Calls Tryd.prog 24 #[.string a0, .string a1, .string a2] w fun e w' => e = .returned (.string r) ∧ Below w.heap.size w w' := by
  have HB := Aside0.mk (Below.refl w.heap.size w)
  have H : ((sprig_zzReplace.f k a2 a0 a1 (-1)).bind fun t134 => (some t134)) = some r := h
  clear h
  replace H := Option.bind_eq_some_iff.mp H
  obtain ⟨t134, A40, H⟩ := H
  replace H : (some t134) = some r := H
  have A4 := Aside0.mk A40
  clear A40
  obtain rfl := Option.some.inj H
  go_enter Tryd.func24, Tryd.ntmps24
  go_wp2_with (first | ((with_reducible refine gate_callee (f := 29) rfl ?_); refine goesL_ (some 10) rfl rfl Tryd.func29 (by kernel_rfl) rfl #[.string a2, .string a0, .string a1, .int .i64 (-1)] rfl (by (try simp only [List.map_toArray, List.map_cons, List.map_nil]); first | done | rfl | (simp only [List.length_drop, List.length_take]; rfl)) ?_; (with_reducible refine (sprig_zzReplace.calls k a2 a0 a1 (-1) t134 _ A4.out).mono ?_); rintro e w5 ⟨rfl, hb⟩; refine ⟨_, rfl, ?_⟩; have n0_ := Aside0.mk (below_step (by repeat (first | (with_reducible first | exact HB.out | apply below_alloc | apply pw_below_drewN | apply below_drew1) | exact HB.out)) hb); clear HB; have HB := n0_; clear n0_; (try clear hb); (try clear hb2); (try clear hk); (try clear hi)))
  go_ret
  exact ⟨by first | rfl | (simp [errW_none, errW_some] <;> rfl) | (simp [*, errW_none, errW_some] <;> rfl), by repeat (first | (with_reducible first | exact HB.out | apply below_alloc | apply pw_below_drewN | apply below_drew1) | exact HB.out)⟩

/-! ### sprig_Replace: function 14 -/
def sprig_Replace.f (k : Nat) (a0 : ByteArray) (a1 : ByteArray) (a2 : ByteArray) : Option (ByteArray) := (sprig_replace.f k a0 a1 a2).bind fun t135 => (some t135)
theorem sprig_Replace.mono : ∀ a0 a1 a2 k, LeO (sprig_Replace.f k a0 a1 a2) (sprig_Replace.f (k + 1) a0 a1 a2) := by
  intro a0 a1 a2 k
  unfold sprig_Replace.f
  repeat' first
      | (with_reducible exact sprig_replace.mono _ _ _ _)
      | (with_reducible exact LeO.refl _)
      | (with_reducible exact LeO.none _)
      | (with_reducible refine LeO.ite ?_ ?_)
      | (with_reducible refine LeO.bind ?_ (fun _ => ?_))
      | exact sprig_replace.mono _ _ _ _
      | exact LeO.none _
      | refine LeO.ite ?_ ?_
      | refine LeO.bind ?_ (fun _ => ?_)
set_option maxHeartbeats 8000000 in
set_option maxRecDepth 100000 in
theorem sprig_Replace.calls (k : Nat) (a0 : ByteArray) (a1 : ByteArray) (a2 : ByteArray) (r : ByteArray) (w : World) (h : sprig_Replace.f k a0 a1 a2 = some r) :
    Calls Tryd.prog 14 #[.string a0, .string a1, .string a2] w fun e w' => e = .returned (.string r) ∧ Below w.heap.size w w' := by
  have HB := Aside0.mk (Below.refl w.heap.size w)
  have H : ((sprig_replace.f k a0 a1 a2).bind fun t135 => (some t135)) = some r := h
  clear h
  replace H := Option.bind_eq_some_iff.mp H
  obtain ⟨t135, A40, H⟩ := H
  replace H : (some t135) = some r := H
  have A4 := Aside0.mk A40
  clear A40
  obtain rfl := Option.some.inj H
  go_enter Tryd.func14, Tryd.ntmps14
  go_wp2_with (first | ((with_reducible refine gate_callee (f := 24) rfl ?_); refine goesL_ (some 10) rfl rfl Tryd.func24 (by kernel_rfl) rfl #[.string a0, .string a1, .string a2] rfl (by (try simp only [List.map_toArray, List.map_cons, List.map_nil]); first | done | rfl | (simp only [List.length_drop, List.length_take]; rfl)) ?_; (with_reducible refine (sprig_replace.calls k a0 a1 a2 t135 _ A4.out).mono ?_); rintro e w5 ⟨rfl, hb⟩; refine ⟨_, rfl, ?_⟩; have n0_ := Aside0.mk (below_step (by repeat (first | (with_reducible first | exact HB.out | apply below_alloc | apply pw_below_drewN | apply below_drew1) | exact HB.out)) hb); clear HB; have HB := n0_; clear n0_; (try clear hb); (try clear hb2); (try clear hk); (try clear hi)))
  go_ret
  exact ⟨by first | rfl | (simp [errW_none, errW_some] <;> rfl) | (simp [*, errW_none, errW_some] <;> rfl), by repeat (first | (with_reducible first | exact HB.out | apply below_alloc | apply pw_below_drewN | apply below_drew1) | exact HB.out)⟩

/-! ### impl_ReplaceAll: function 7 -/
def impl_ReplaceAll.f (k : Nat) (a0 : ByteArray) (a1 : ByteArray) (a2 : ByteArray) : Option (ByteArray) := (sprig_Replace.f k a0 a1 a2).bind fun t136 => (some t136)
theorem impl_ReplaceAll.mono : ∀ a0 a1 a2 k, LeO (impl_ReplaceAll.f k a0 a1 a2) (impl_ReplaceAll.f (k + 1) a0 a1 a2) := by
  intro a0 a1 a2 k
  unfold impl_ReplaceAll.f
  repeat' first
      | (with_reducible exact sprig_Replace.mono _ _ _ _)
      | (with_reducible exact LeO.refl _)
      | (with_reducible exact LeO.none _)
      | (with_reducible refine LeO.ite ?_ ?_)
      | (with_reducible refine LeO.bind ?_ (fun _ => ?_))
      | exact sprig_Replace.mono _ _ _ _
      | exact LeO.none _
      | refine LeO.ite ?_ ?_
      | refine LeO.bind ?_ (fun _ => ?_)
set_option maxHeartbeats 8000000 in
set_option maxRecDepth 100000 in
theorem impl_ReplaceAll.calls (k : Nat) (a0 : ByteArray) (a1 : ByteArray) (a2 : ByteArray) (r : ByteArray) (w : World) (h : impl_ReplaceAll.f k a0 a1 a2 = some r) :
    Calls Tryd.prog 7 #[.string a0, .string a1, .string a2] w fun e w' => e = .returned (.string r) ∧ Below w.heap.size w w' := by
  have HB := Aside0.mk (Below.refl w.heap.size w)
  have H : ((sprig_Replace.f k a0 a1 a2).bind fun t136 => (some t136)) = some r := h
  clear h
  replace H := Option.bind_eq_some_iff.mp H
  obtain ⟨t136, A40, H⟩ := H
  replace H : (some t136) = some r := H
  have A4 := Aside0.mk A40
  clear A40
  obtain rfl := Option.some.inj H
  go_enter Tryd.func7, Tryd.ntmps7
  go_wp2_with (first | ((with_reducible refine gate_callee (f := 14) rfl ?_); refine goesL_ (some 10) rfl rfl Tryd.func14 (by kernel_rfl) rfl #[.string a0, .string a1, .string a2] rfl (by (try simp only [List.map_toArray, List.map_cons, List.map_nil]); first | done | rfl | (simp only [List.length_drop, List.length_take]; rfl)) ?_; (with_reducible refine (sprig_Replace.calls k a0 a1 a2 t136 _ A4.out).mono ?_); rintro e w5 ⟨rfl, hb⟩; refine ⟨_, rfl, ?_⟩; have n0_ := Aside0.mk (below_step (by repeat (first | (with_reducible first | exact HB.out | apply below_alloc | apply pw_below_drewN | apply below_drew1) | exact HB.out)) hb); clear HB; have HB := n0_; clear n0_; (try clear hb); (try clear hb2); (try clear hk); (try clear hi)))
  go_ret
  exact ⟨by first | rfl | (simp [errW_none, errW_some] <;> rfl) | (simp [*, errW_none, errW_some] <;> rfl), by repeat (first | (with_reducible first | exact HB.out | apply below_alloc | apply pw_below_drewN | apply below_drew1) | exact HB.out)⟩

/-! ### spec_Place: function 15 -/
def spec_Place.l0 : Nat → ByteArray → ByteArray → Int → Option (Int)
  | 0, _, _, _ => none
  | k + 1, x0, x1, x7 => if (wrap64 (x7 + (x0.size : Int))) ≤ (x1.size : Int) then (if 0 ≤ x7 then (if x7 ≤ (wrap64 (x7 + (x0.size : Int))) then (if (x1.extract (x7 : Int).toNat ((wrap64 (x7 + (x0.size : Int))) : Int).toNat).toList = x0.toList then (some x7) else (spec_Place.l0 k x0 x1 (wrap64 (x7 + 1)))) else (none)) else (none)) else (some (-1))
def spec_Place.f (k : Nat) (a0 : ByteArray) (a1 : ByteArray) (a2 : Int) : Option (Int) := spec_Place.l0 k a0 a1 a2
theorem spec_Place.mono_l : ∀ k, (∀ y0 y1 y2, LeO (spec_Place.l0 k y0 y1 y2) (spec_Place.l0 (k + 1) y0 y1 y2))
  | 0 => fun _ _ _ r h => by simp [spec_Place.l0] at h
  | k + 1 => by
    have ih0 := spec_Place.mono_l k
    · intro y0 y1 y2
      unfold spec_Place.l0
      repeat' first
      | (with_reducible exact ih0 _ _ _)
      | (with_reducible exact LeO.refl _)
      | (with_reducible exact LeO.none _)
      | (with_reducible refine LeO.ite ?_ ?_)
      | (with_reducible refine LeO.bind ?_ (fun _ => ?_))
      | exact ih0 _ _ _
      | exact LeO.none _
      | refine LeO.ite ?_ ?_
      | refine LeO.bind ?_ (fun _ => ?_)
theorem spec_Place.mono : ∀ a0 a1 a2 k, LeO (spec_Place.f k a0 a1 a2) (spec_Place.f (k + 1) a0 a1 a2) := by
  intro a0 a1 a2 k
  have ih0 := spec_Place.mono_l k
  unfold spec_Place.f
  repeat' first
      | (with_reducible exact ih0 _ _ _)
      | (with_reducible exact LeO.refl _)
      | (with_reducible exact LeO.none _)
      | (with_reducible refine LeO.ite ?_ ?_)
      | (with_reducible refine LeO.bind ?_ (fun _ => ?_))
      | exact ih0 _ _ _
      | exact LeO.none _
      | refine LeO.ite ?_ ?_
      | refine LeO.bind ?_ (fun _ => ?_)
set_option maxHeartbeats 8000000 in
set_option maxRecDepth 100000 in
theorem spec_Place.calls (k : Nat) (a0 : ByteArray) (a1 : ByteArray) (a2 : Int) (r : Int) (w : World) (h : spec_Place.f k a0 a1 a2 = some r) :
    Calls Tryd.prog 15 #[.string a0, .string a1, .int .i64 a2] w fun e w' => e = .returned (.int .i64 r) ∧ Drawn0 w w' := by
  have H : (spec_Place.l0 k a0 a1 a2) = some r := h
  clear h
  have H' := Aside0.mk H
  clear H
  go_enter Tryd.func15, Tryd.ntmps15
  go_wp2
  go_loopg [7] k (fun kq v7 w' => ∃ (x7_1 : Int), v7 = .int .i64 x7_1 ∧ Aside0 (spec_Place.l0 kq a0 a1 x7_1 = some r) ∧ Aside0 (kq ≤ k) ∧ Drawn0 w w')
  case atStart => exact ⟨(a2), (by first | rfl | (simp; done) | (simp [*]; done)), H', ⟨Nat.le_refl _⟩, by repeat (first | exact Drawn0.refl _ | apply Drawn0.step)⟩
  case round =>
    clear H'
    try clear c1
    try clear p2
    obtain ⟨x7_1, rfl, HA, HK1, ⟨m1, rfl⟩⟩ := hrel
    cases gk with
    | zero => exact absurd HA.out (by simp [spec_Place.l0])
    | succ k1 =>
      have H := HA.out
      clear HA
      simp only [spec_Place.l0] at H
      by_cases c4 : (wrap64 (x7_1 + (a0.size : Int))) ≤ (a1.size : Int)
      · rw [if_pos c4] at H
        have c4b0 : decide ((wrap64 (x7_1 + (a0.size : Int))) ≤ (a1.size : Int)) = true := decide_eq_true c4
        clear c4
        by_cases c5 : 0 ≤ x7_1
        · rw [if_pos c5] at H
          have c5b0 := eq_true c5
          have c5b1 : decide (0 ≤ x7_1) = true := decide_eq_true c5
          clear c5
          by_cases c6 : x7_1 ≤ (wrap64 (x7_1 + (a0.size : Int)))
          · rw [if_pos c6] at H
            have c6b0 := eq_true c6
            have c6b1 : decide (x7_1 ≤ (wrap64 (x7_1 + (a0.size : Int)))) = true := decide_eq_true c6
            have c7b0 := eq_true (of_decide_eq_true (by first | (with_reducible assumption) | assumption) : (wrap64 (x7_1 + (a0.size : Int))) ≤ (a1.size : Int))
            by_cases c8 : (a1.extract (x7_1 : Int).toNat ((wrap64 (x7_1 + (a0.size : Int))) : Int).toNat).toList = a0.toList
            · rw [if_pos c8] at H
              have c8b0 : ((a1.extract (x7_1 : Int).toNat ((wrap64 (x7_1 + (a0.size : Int))) : Int).toNat).toList == a0.toList) = true := beq_iff_eq.mpr c8
              have c8b1 : ((a1.extract (x7_1 : Int).toNat ((wrap64 (x7_1 + (a0.size : Int))) : Int).toNat).toList != a0.toList) = false := bne_eq_false_iff_eq.mpr c8
              clear c8
              obtain rfl := Option.some.inj H
              go_wp2
              go_ret
              exact ⟨by first | rfl | (simp; done) | (simp [*]; done), by repeat (first | exact Drawn0.refl _ | apply Drawn0.step)⟩
            · rw [if_neg c8] at H
              have c8b0 : ((a1.extract (x7_1 : Int).toNat ((wrap64 (x7_1 + (a0.size : Int))) : Int).toNat).toList == a0.toList) = false := beq_eq_false_iff_ne.mpr c8
              have c8b1 : ((a1.extract (x7_1 : Int).toNat ((wrap64 (x7_1 + (a0.size : Int))) : Int).toNat).toList != a0.toList) = true := bne_iff_ne.mpr c8
              have H' := Aside0.mk H
              clear H
              go_wp2
              go_roundg k1
              case measure => have := HK1.out; omega
              case rel => exact ⟨(wrap64 (x7_1 + 1)), (by first | rfl | (simp; done) | (simp [*]; done)), H', ⟨by have := HK1.out; omega⟩, by repeat (first | exact Drawn0.refl _ | apply Drawn0.step)⟩
          · rw [if_neg c6] at H
            exact absurd H (by simp)
        · rw [if_neg c5] at H
          exact absurd H (by simp)
      · rw [if_neg c4] at H
        have c4b0 : decide ((wrap64 (x7_1 + (a0.size : Int))) ≤ (a1.size : Int)) = false := decide_eq_false c4
        clear c4
        obtain rfl := Option.some.inj H
        go_wp2
        go_ret
        exact ⟨by first | rfl | (simp; done) | (simp [*]; done), by repeat (first | exact Drawn0.refl _ | apply Drawn0.step)⟩

end Go.Proofs.YtjpocldnibmopaaDoor.PFnReplaceAll
