-- Written by gprint.py (a program of this session, over the kit's print) out of Lean's own print of the program.
import Derived.Test.YtjaeihbfkmflkaaDoorPFnSplitnx0
namespace Go.Proofs.YtjaeihbfkmflkaaDoor.PFnSplitn
open Go.Proofs.YtjaeihbfkmflkaaDoor.Giv
open Go.RowKit Go.Proofs.YtjaeihbfkmflkaaDoorW.PrintWords Go.Proofs.YtjaeihbfkmflkaaDoorW.PrintLast Go.Proofs.YtjaeihbfkmflkaaDoorW.PrintMore
attribute [local go_sem] max2_int min2_int max_two min_two max_three min_three max_four min_four   -- for this text's walks alone
set_option linter.unusedVariables false
set_option linter.unusedSimpArgs false

-- NOT PRINTED: function 76 (slices_partitionOrdered_string)

-- NOT PRINTED: function 64 (slices_pdqsortOrdered_string)

-- NOT PRINTED: function 57 (slices_Sort_string_string)

-- NOT PRINTED: function 50 (sort_Strings)

-- NOT PRINTED: function 58 (impl_valuesOf)

-- NOT PRINTED: function 51 (impl_valueOf)

-- NOT PRINTED: function 37 (impl_dictOf)

-- NOT PRINTED: function 28 (impl_textsOf)

-- NOT PRINTED: function 49 (utf8_decodeRuneInStringSlow)

-- GIVEN: function 34 (utf8_DecodeRuneInString): a contract of ours

/-! ### laws_text9: function 7 -/
def laws_text9.l0 : Nat → List ByteArray → Int → Int → Option (Bool)
  | 0, _, _, _ => none
  | k + 1, x0, x5, x6 => if x6 < x5 then (if 0 ≤ x6 then (if x6 < (x0.length : Int) then (if ((rdOf ByteArray.empty x0 x6).size : Int) > 500 then (some false) else ((spec_UTF8.f (rdOf ByteArray.empty x0 x6)).bind fun t103 => (if t103 = true then (laws_text9.l0 k x0 x5 (wrap64 (x6 + 1))) else (some false)))) else (none)) else (none)) else (some true)
def laws_text9.f (k : Nat) (l0 : List ByteArray) : Option (Bool) := laws_text9.l0 k l0 (l0.length : Int) 0
theorem laws_text9.mono_l : ∀ k, (∀ y0 y1 y2, LeO (laws_text9.l0 k y0 y1 y2) (laws_text9.l0 (k + 1) y0 y1 y2))
  | 0 => fun _ _ _ r h => by simp [laws_text9.l0] at h
  | k + 1 => by
    have ih0 := laws_text9.mono_l k
    · intro y0 y1 y2
      unfold laws_text9.l0
      repeat' first
      | (with_reducible exact ih0 _ _ _)
      | (with_reducible exact LeO.refl _)
      | (with_reducible exact LeO.none _)
      | (with_reducible refine LeO.ite ?_ ?_)
      | (with_reducible refine LeO.bind ?_ (fun _ => ?_))
      | exact ih0 _ _ _
      | exact LeO.none _
      | refine LeO.ite ?_ ?_
      | refine LeO.bind ?_ (fun _ => ?_)
theorem laws_text9.mono : ∀ a0 k, LeO (laws_text9.f k a0) (laws_text9.f (k + 1) a0) := by
  intro a0 k
  have ih0 := laws_text9.mono_l k
  unfold laws_text9.f
  repeat' first
      | (with_reducible exact ih0 _ _ _)
      | (with_reducible exact LeO.refl _)
      | (with_reducible exact LeO.none _)
      | (with_reducible refine LeO.ite ?_ ?_)
      | (with_reducible refine LeO.bind ?_ (fun _ => ?_))
      | exact ih0 _ _ _
      | exact LeO.none _
      | refine LeO.ite ?_ ?_
      | refine LeO.bind ?_ (fun _ => ?_)
set_option maxHeartbeats 8000000 in
set_option maxRecDepth 100000 in
theorem laws_text9.calls (k : Nat) (A0 : Option Addr) (c0 : Nat) (l0 : List ByteArray) (r : Bool) (w : World) (hr0 : Kd.C Kd.string w A0 l0.length l0) (hc0 : l0.length ≤ c0) (h : laws_text9.f k l0 = some r) :
    Calls Tryd.prog 7 #[.slice A0 l0.length c0] w fun e w' => e = .returned (.bool r) ∧ Below w.heap.size w w' := by
  have HR0 := Aside0.mk hr0
  have HC0 := Aside0.mk hc0
  clear hr0 hc0
  have HB := Aside0.mk (Below.refl w.heap.size w)
  have H : (laws_text9.l0 k l0 (l0.length : Int) 0) = some r := h
  clear h
  have H' := Aside0.mk H
  clear H
  go_enter Tryd.func7, Tryd.ntmps7
  go_wp2
  go_loopg [6] k (fun kq v6 w' => ∃ (x6_1 : Int), v6 = .int .i64 x6_1 ∧ Aside0 (laws_text9.l0 kq l0 (l0.length : Int) x6_1 = some r) ∧ Aside0 (kq ≤ k) ∧ Aside0 (Below w.heap.size w w'))
  case atStart => exact ⟨(0), (by first | rfl | (simp; done) | (simp [*]; done)), H', ⟨Nat.le_refl _⟩, ⟨by repeat (first | (with_reducible first | exact HB.out | apply below_alloc | apply pw_below_drewN | apply below_drew1) | exact HB.out)⟩⟩
  case round =>
    clear H'
    obtain ⟨x6_1, rfl, HA, HK1, HB⟩ := hrel
    cases gk with
    | zero => exact absurd HA.out (by simp [laws_text9.l0])
    | succ k1 =>
      have H := HA.out
      clear HA
      simp only [laws_text9.l0] at H
      by_cases c2 : x6_1 < (l0.length : Int)
      · rw [if_pos c2] at H
        have c2b0 : decide (x6_1 < (l0.length : Int)) = true := decide_eq_true c2
        clear c2
        by_cases c3 : 0 ≤ x6_1
        · rw [if_pos c3] at H
          have c3b0 : decide (0 ≤ x6_1) = true := decide_eq_true c3
          clear c3
          by_cases c4 : x6_1 < (l0.length : Int)
          · rw [if_pos c4] at H
            have c4b0 : decide (x6_1 < (l0.length : Int)) = true := decide_eq_true c4
            clear c4
            by_cases c5 : ((rdOf ByteArray.empty l0 x6_1).size : Int) > 500
            · rw [if_pos c5] at H
              have c5b0 : decide (500 < ((rdOf ByteArray.empty l0 x6_1).size : Int)) = true := decide_eq_true c5
              have c5b1 : decide (500 < (rdOf ByteArray.empty l0 x6_1).size) = true := decide_eq_true (by omega)
              clear c5
              obtain rfl := Option.some.inj H
              have p101 : 0 ≤ (x6_1 : Int) := of_decide_eq_true (by first | (with_reducible assumption) | assumption)
              have q101 : x6_1 < (l0.length : Int) := of_decide_eq_true (by first | (with_reducible assumption) | assumption)
              obtain ⟨ad101, e101, hx101_0⟩ := Kd.at_string HR0.out x6_1 p101 q101
              cases e101
              replace hx101_0 := (HB.out.cell (World.block_lt_of_cell? w _ hx101_0)).trans hx101_0
              replace p101 := eq_true p101
              replace q101 := eq_true q101
              go_wp2
              go_ret
              exact ⟨by first | rfl | (simp [errW_none, errW_some] <;> rfl) | (simp [*, errW_none, errW_some] <;> rfl), by repeat (first | (with_reducible first | exact HB.out | apply below_alloc | apply pw_below_drewN | apply below_drew1) | exact HB.out)⟩
            · rw [if_neg c5] at H
              have c5b0 : decide (500 < ((rdOf ByteArray.empty l0 x6_1).size : Int)) = false := decide_eq_false c5
              have c5b1 : decide (500 < (rdOf ByteArray.empty l0 x6_1).size) = false := decide_eq_false (by omega)
              clear c5
              replace H := Option.bind_eq_some_iff.mp H
              obtain ⟨t103, A60, H⟩ := H
              replace H : (if t103 = true then (laws_text9.l0 k1 l0 (l0.length : Int) (wrap64 (x6_1 + 1))) else (some false)) = some r := H
              have A6 := Aside0.mk A60
              clear A60
              by_cases c7 : t103 = true
              · subst c7
                have H1 : (laws_text9.l0 k1 l0 (l0.length : Int) (wrap64 (x6_1 + 1))) = some r := by rw [if_pos rfl] at H; exact H
                clear H
                have H := H1
                clear H1
                have H' := Aside0.mk H
                clear H
                have p101 : 0 ≤ (x6_1 : Int) := of_decide_eq_true (by first | (with_reducible assumption) | assumption)
                have q101 : x6_1 < (l0.length : Int) := of_decide_eq_true (by first | (with_reducible assumption) | assumption)
                obtain ⟨ad101, e101, hx101_0⟩ := Kd.at_string HR0.out x6_1 p101 q101
                cases e101
                replace hx101_0 := (HB.out.cell (World.block_lt_of_cell? w _ hx101_0)).trans hx101_0
                replace p101 := eq_true p101
                replace q101 := eq_true q101
                have p102 : 0 ≤ (x6_1 : Int) := of_decide_eq_true (by first | (with_reducible assumption) | assumption)
                have q102 : x6_1 < (l0.length : Int) := of_decide_eq_true (by first | (with_reducible assumption) | assumption)
                obtain ⟨ad102, e102, hx102_0⟩ := Kd.at_string HR0.out x6_1 p102 q102
                obtain rfl : ad101 = ad102 := (by injection e102)
                replace hx102_0 := (HB.out.cell (World.block_lt_of_cell? w _ hx102_0)).trans hx102_0
                replace p102 := eq_true p102
                replace q102 := eq_true q102
                go_wp2_with (first | (go_at_call 19; (with_reducible refine (spec_UTF8.calls (rdOf ByteArray.empty l0 x6_1) true _ A6.out).mono ?_); rintro e w8 ⟨rfl, hb⟩; have n0_ := Aside0.mk (below_step (by repeat (first | (with_reducible first | exact HB.out | apply below_alloc | apply pw_below_drewN | apply below_drew1) | exact HB.out)) hb); clear HB; have HB := n0_; clear n0_; (try clear hb); (try clear hb2); (try clear hk); (try clear hi)))
                go_roundg k1
                case measure => have := HK1.out; omega
                case rel => exact ⟨(wrap64 (x6_1 + 1)), (by first | rfl | (simp; done) | (simp [*]; done)), H', ⟨by have := HK1.out; omega⟩, ⟨by repeat (first | (with_reducible first | exact HB.out | apply below_alloc | apply pw_below_drewN | apply below_drew1) | exact HB.out)⟩⟩
              · replace c7 := Bool.eq_false_iff.mpr c7
                subst c7
                have H1 : (some false) = some r := by rw [if_neg (show ¬ (false = true) by decide)] at H; exact H
                clear H
                have H := H1
                clear H1
                obtain rfl := Option.some.inj H
                have p101 : 0 ≤ (x6_1 : Int) := of_decide_eq_true (by first | (with_reducible assumption) | assumption)
                have q101 : x6_1 < (l0.length : Int) := of_decide_eq_true (by first | (with_reducible assumption) | assumption)
                obtain ⟨ad101, e101, hx101_0⟩ := Kd.at_string HR0.out x6_1 p101 q101
                cases e101
                replace hx101_0 := (HB.out.cell (World.block_lt_of_cell? w _ hx101_0)).trans hx101_0
                replace p101 := eq_true p101
                replace q101 := eq_true q101
                have p102 : 0 ≤ (x6_1 : Int) := of_decide_eq_true (by first | (with_reducible assumption) | assumption)
                have q102 : x6_1 < (l0.length : Int) := of_decide_eq_true (by first | (with_reducible assumption) | assumption)
                obtain ⟨ad102, e102, hx102_0⟩ := Kd.at_string HR0.out x6_1 p102 q102
                obtain rfl : ad101 = ad102 := (by injection e102)
                replace hx102_0 := (HB.out.cell (World.block_lt_of_cell? w _ hx102_0)).trans hx102_0
                replace p102 := eq_true p102
                replace q102 := eq_true q102
                go_wp2_with (first | (go_at_call 19; (with_reducible refine (spec_UTF8.calls (rdOf ByteArray.empty l0 x6_1) false _ A6.out).mono ?_); rintro e w9 ⟨rfl, hb⟩; have n0_ := Aside0.mk (below_step (by repeat (first | (with_reducible first | exact HB.out | apply below_alloc | apply pw_below_drewN | apply below_drew1) | exact HB.out)) hb); clear HB; have HB := n0_; clear n0_; (try clear hb); (try clear hb2); (try clear hk); (try clear hi)))
                go_ret
                exact ⟨by first | rfl | (simp [errW_none, errW_some] <;> rfl) | (simp [*, errW_none, errW_some] <;> rfl), by repeat (first | (with_reducible first | exact HB.out | apply below_alloc | apply pw_below_drewN | apply below_drew1) | exact HB.out)⟩
          · rw [if_neg c4] at H
            exact absurd H (by simp)
        · rw [if_neg c3] at H
          exact absurd H (by simp)
      · rw [if_neg c2] at H
        have c2b0 : decide (x6_1 < (l0.length : Int)) = false := decide_eq_false c2
        clear c2
        obtain rfl := Option.some.inj H
        go_wp2
        go_ret
        exact ⟨by first | rfl | (simp [errW_none, errW_some] <;> rfl) | (simp [*, errW_none, errW_some] <;> rfl), by repeat (first | (with_reducible first | exact HB.out | apply below_alloc | apply pw_below_drewN | apply below_drew1) | exact HB.out)⟩

/-! ### spec_Place: function 27 -/
def spec_Place.l0 : Nat → ByteArray → ByteArray → Int → Option (Int)
  | 0, _, _, _ => none
  | k + 1, x0, x1, x7 => if (wrap64 (x7 + (x0.size : Int))) ≤ (x1.size : Int) then (if 0 ≤ x7 then (if x7 ≤ (wrap64 (x7 + (x0.size : Int))) then (if (x1.extract (x7 : Int).toNat ((wrap64 (x7 + (x0.size : Int))) : Int).toNat).toList = x0.toList then (some x7) else (spec_Place.l0 k x0 x1 (wrap64 (x7 + 1)))) else (none)) else (none)) else (some (-1))
def spec_Place.f (k : Nat) (a0 : ByteArray) (a1 : ByteArray) (a2 : Int) : Option (Int) := spec_Place.l0 k a0 a1 a2
theorem spec_Place.mono_l : ∀ k, (∀ y0 y1 y2, LeO (spec_Place.l0 k y0 y1 y2) (spec_Place.l0 (k + 1) y0 y1 y2))
  | 0 => fun _ _ _ r h => by simp [spec_Place.l0] at h
  | k + 1 => by
    have ih0 := spec_Place.mono_l k
    · intro y0 y1 y2
      unfold spec_Place.l0
      repeat' first
      | (with_reducible exact ih0 _ _ _)
      | (with_reducible exact LeO.refl _)
      | (with_reducible exact LeO.none _)
      | (with_reducible refine LeO.ite ?_ ?_)
      | (with_reducible refine LeO.bind ?_ (fun _ => ?_))
      | exact ih0 _ _ _
      | exact LeO.none _
      | refine LeO.ite ?_ ?_
      | refine LeO.bind ?_ (fun _ => ?_)
theorem spec_Place.mono : ∀ a0 a1 a2 k, LeO (spec_Place.f k a0 a1 a2) (spec_Place.f (k + 1) a0 a1 a2) := by
  intro a0 a1 a2 k
  have ih0 := spec_Place.mono_l k
  unfold spec_Place.f
  repeat' first
      | (with_reducible exact ih0 _ _ _)
      | (with_reducible exact LeO.refl _)
      | (with_reducible exact LeO.none _)
      | (with_reducible refine LeO.ite ?_ ?_)
      | (with_reducible refine LeO.bind ?_ (fun _ => ?_))
      | exact ih0 _ _ _
      | exact LeO.none _
      | refine LeO.ite ?_ ?_
      | refine LeO.bind ?_ (fun _ => ?_)
set_option maxHeartbeats 8000000 in
set_option maxRecDepth 100000 in
theorem spec_Place.calls (k : Nat) (a0 : ByteArray) (a1 : ByteArray) (a2 : Int) (r : Int) (w : World) (h : spec_Place.f k a0 a1 a2 = some r) :
    Calls Tryd.prog 27 #[.string a0, .string a1, .int .i64 a2] w fun e w' => e = .returned (.int .i64 r) ∧ Drawn0 w w' := by
  have H : (spec_Place.l0 k a0 a1 a2) = some r := h
  clear h
  have H' := Aside0.mk H
  clear H
  go_enter Tryd.func27, Tryd.ntmps27
  go_wp2
  go_loopg [7] k (fun kq v7 w' => ∃ (x7_1 : Int), v7 = .int .i64 x7_1 ∧ Aside0 (spec_Place.l0 kq a0 a1 x7_1 = some r) ∧ Aside0 (kq ≤ k) ∧ Drawn0 w w')
  case atStart => exact ⟨(a2), (by first | rfl | (simp; done) | (simp [*]; done)), H', ⟨Nat.le_refl _⟩, by repeat (first | exact Drawn0.refl _ | apply Drawn0.step)⟩
  case round =>
    clear H'
    try clear c2
    try clear p2
    obtain ⟨x7_1, rfl, HA, HK1, ⟨m1, rfl⟩⟩ := hrel
    cases gk with
    | zero => exact absurd HA.out (by simp [spec_Place.l0])
    | succ k1 =>
      have H := HA.out
      clear HA
      simp only [spec_Place.l0] at H
      by_cases c4 : (wrap64 (x7_1 + (a0.size : Int))) ≤ (a1.size : Int)
      · rw [if_pos c4] at H
        have c4b0 : decide ((wrap64 (x7_1 + (a0.size : Int))) ≤ (a1.size : Int)) = true := decide_eq_true c4
        clear c4
        by_cases c5 : 0 ≤ x7_1
        · rw [if_pos c5] at H
          have c5b0 := eq_true c5
          have c5b1 : decide (0 ≤ x7_1) = true := decide_eq_true c5
          clear c5
          by_cases c6 : x7_1 ≤ (wrap64 (x7_1 + (a0.size : Int)))
          · rw [if_pos c6] at H
            have c6b0 := eq_true c6
            have c6b1 : decide (x7_1 ≤ (wrap64 (x7_1 + (a0.size : Int)))) = true := decide_eq_true c6
            have c7b0 := eq_true (of_decide_eq_true (by first | (with_reducible assumption) | assumption) : (wrap64 (x7_1 + (a0.size : Int))) ≤ (a1.size : Int))
            by_cases c8 : (a1.extract (x7_1 : Int).toNat ((wrap64 (x7_1 + (a0.size : Int))) : Int).toNat).toList = a0.toList
            · rw [if_pos c8] at H
              have c8b0 : ((a1.extract (x7_1 : Int).toNat ((wrap64 (x7_1 + (a0.size : Int))) : Int).toNat).toList == a0.toList) = true := beq_iff_eq.mpr c8
              have c8b1 : ((a1.extract (x7_1 : Int).toNat ((wrap64 (x7_1 + (a0.size : Int))) : Int).toNat).toList != a0.toList) = false := bne_eq_false_iff_eq.mpr c8
              clear c8
              obtain rfl := Option.some.inj H
              go_wp2
              go_ret
              exact ⟨by first | rfl | (simp; done) | (simp [*]; done), by repeat (first | exact Drawn0.refl _ | apply Drawn0.step)⟩
            · rw [if_neg c8] at H
              have c8b0 : ((a1.extract (x7_1 : Int).toNat ((wrap64 (x7_1 + (a0.size : Int))) : Int).toNat).toList == a0.toList) = false := beq_eq_false_iff_ne.mpr c8
              have c8b1 : ((a1.extract (x7_1 : Int).toNat ((wrap64 (x7_1 + (a0.size : Int))) : Int).toNat).toList != a0.toList) = true := bne_iff_ne.mpr c8
              have H' := Aside0.mk H
              clear H
              go_wp2
              go_roundg k1
              case measure => have := HK1.out; omega
              case rel => exact ⟨(wrap64 (x7_1 + 1)), (by first | rfl | (simp; done) | (simp [*]; done)), H', ⟨by have := HK1.out; omega⟩, by repeat (first | exact Drawn0.refl _ | apply Drawn0.step)⟩
          · rw [if_neg c6] at H
            exact absurd H (by simp)
        · rw [if_neg c5] at H
          exact absurd H (by simp)
      · rw [if_neg c4] at H
        have c4b0 : decide ((wrap64 (x7_1 + (a0.size : Int))) ≤ (a1.size : Int)) = false := decide_eq_false c4
        clear c4
        obtain rfl := Option.some.inj H
        go_wp2
        go_ret
        exact ⟨by first | rfl | (simp; done) | (simp [*]; done), by repeat (first | exact Drawn0.refl _ | apply Drawn0.step)⟩

/-! ### spec_SplitList: function 13 -/
def spec_SplitList.l0 : Nat → ByteArray → ByteArray → List ByteArray → Int → Option (List ByteArray)
  | 0, _, _, _, _ => none
  | k + 1, x0, x1, x5, x6 => (spec_Place.f k x0 x1 x6).bind fun t104 => (if t104 < 0 then (if 0 ≤ x6 then (if x6 ≤ (x1.size : Int) then (if x5.length < 8796093022208 then (some (x5 ++ [x1.extract (x6 : Int).toNat x1.size])) else (none)) else (none)) else (none)) else (if 0 ≤ x6 then (if x6 ≤ t104 then (if t104 ≤ (x1.size : Int) then (if x5.length < 8796093022208 then (spec_SplitList.l0 k x0 x1 (x5 ++ [x1.extract (x6 : Int).toNat (t104 : Int).toNat]) (wrap64 (t104 + (x0.size : Int)))) else (none)) else (none)) else (none)) else (none)))
def spec_SplitList.f (k : Nat) (a0 : ByteArray) (a1 : ByteArray) : Option (List ByteArray) := spec_SplitList.l0 k a0 a1 ([] : List ByteArray) 0
theorem spec_SplitList.mono_l : ∀ k, (∀ y0 y1 y2 y3, LeO (spec_SplitList.l0 k y0 y1 y2 y3) (spec_SplitList.l0 (k + 1) y0 y1 y2 y3))
  | 0 => fun _ _ _ _ r h => by simp [spec_SplitList.l0] at h
  | k + 1 => by
    have ih0 := spec_SplitList.mono_l k
    · intro y0 y1 y2 y3
      unfold spec_SplitList.l0
      repeat' first
      | (with_reducible exact ih0 _ _ _ _)
      | (with_reducible exact spec_Place.mono _ _ _ _)
      | (with_reducible exact LeO.refl _)
      | (with_reducible exact LeO.none _)
      | (with_reducible refine LeO.ite ?_ ?_)
      | (with_reducible refine LeO.bind ?_ (fun _ => ?_))
      | exact ih0 _ _ _ _
      | exact spec_Place.mono _ _ _ _
      | exact LeO.none _
      | refine LeO.ite ?_ ?_
      | refine LeO.bind ?_ (fun _ => ?_)
theorem spec_SplitList.mono : ∀ a0 a1 k, LeO (spec_SplitList.f k a0 a1) (spec_SplitList.f (k + 1) a0 a1) := by
  intro a0 a1 k
  have ih0 := spec_SplitList.mono_l k
  unfold spec_SplitList.f
  repeat' first
      | (with_reducible exact ih0 _ _ _ _)
      | (with_reducible exact spec_Place.mono _ _ _ _)
      | (with_reducible exact LeO.refl _)
      | (with_reducible exact LeO.none _)
      | (with_reducible refine LeO.ite ?_ ?_)
      | (with_reducible refine LeO.bind ?_ (fun _ => ?_))
      | exact ih0 _ _ _ _
      | exact spec_Place.mono _ _ _ _
      | exact LeO.none _
      | refine LeO.ite ?_ ?_
      | refine LeO.bind ?_ (fun _ => ?_)
set_option maxHeartbeats 8000000 in
set_option maxRecDepth 100000 in
theorem spec_SplitList.calls (k : Nat) (a0 : ByteArray) (a1 : ByteArray) (r : List ByteArray) (w : World) (h : spec_SplitList.f k a0 a1 = some r) :
    Calls Tryd.prog 13 #[.string a0, .string a1] w fun e w' => ∃ v0_ : Value, e = .returned (v0_) ∧ Kd.R Kd.string 9 w' w.heap.size (fun _ => True) v0_ r ∧ Below w.heap.size w w' := by
  have HB := Aside0.mk (Below.refl w.heap.size w)
  have H : (spec_SplitList.l0 k a0 a1 ([] : List ByteArray) 0) = some r := h
  clear h
  have H' := Aside0.mk H
  clear H
  go_enter Tryd.func13, Tryd.ntmps13
  go_wp2
  go_loopg [5, 6] k (fun kq v5 v6 w' => ∃ (x5_1 : List ByteArray) (x6_1 : Int), v6 = .int .i64 x6_1 ∧ Aside0 (spec_SplitList.l0 kq a0 a1 x5_1 x6_1 = some r) ∧ Aside0 (kq ≤ k) ∧ Aside0 (Kd.R Kd.string 9 w' w.heap.size (fun _ => True) v5 x5_1) ∧ Aside0 (Below w.heap.size w w'))
  case atStart => exact ⟨(([] : List ByteArray)), (0), (by first | rfl | (simp; done) | (simp [*]; done)), H', ⟨Nat.le_refl _⟩, ⟨by first | exact Kd.R_nil _ _ _ _ _ | exact Kd.N_nil _ _ _ _ _ | exact Kd.V_nil _ _ _ _ _ | exact Kd.Q_nil _ _ _ _ _ | exact Kd.S_nil _ _ _ _ _⟩, ⟨by repeat (first | (with_reducible first | exact HB.out | apply below_alloc | apply pw_below_drewN | apply below_drew1) | exact HB.out)⟩⟩
  case round =>
    clear H'
    try clear c1
    try clear p2
    obtain ⟨x5_1, x6_1, rfl, HA, HK1, HO_5, HB⟩ := hrel
    cases gk with
    | zero => exact absurd HA.out (by simp [spec_SplitList.l0])
    | succ k1 =>
      have H := HA.out
      clear HA
      simp only [spec_SplitList.l0] at H
      replace H := Option.bind_eq_some_iff.mp H
      obtain ⟨t104, A30, H⟩ := H
      replace H : (if t104 < 0 then (if 0 ≤ x6_1 then (if x6_1 ≤ (a1.size : Int) then (if x5_1.length < 8796093022208 then (some (x5_1 ++ [a1.extract (x6_1 : Int).toNat a1.size])) else (none)) else (none)) else (none)) else (if 0 ≤ x6_1 then (if x6_1 ≤ t104 then (if t104 ≤ (a1.size : Int) then (if x5_1.length < 8796093022208 then (spec_SplitList.l0 k1 a0 a1 (x5_1 ++ [a1.extract (x6_1 : Int).toNat (t104 : Int).toNat]) (wrap64 (t104 + (a0.size : Int)))) else (none)) else (none)) else (none)) else (none))) = some r := H
      have A3 := Aside0.mk A30
      clear A30
      by_cases c4 : t104 < 0
      · rw [if_pos c4] at H
        have c4b0 : decide (t104 < 0) = true := decide_eq_true c4
        clear c4
        by_cases c5 : 0 ≤ x6_1
        · rw [if_pos c5] at H
          have c5b0 := eq_true c5
          have c5b1 : decide (0 ≤ x6_1) = true := decide_eq_true c5
          clear c5
          by_cases c6 : x6_1 ≤ (a1.size : Int)
          · rw [if_pos c6] at H
            have c6b0 := eq_true c6
            have c6b1 : decide (x6_1 ≤ (a1.size : Int)) = true := decide_eq_true c6
            clear c6
            by_cases c7 : x5_1.length < 8796093022208
            · rw [if_pos c7] at H
              have LMc7 := Aside0.mk c7
              clear c7
              obtain ⟨y105, hy105⟩ : ∃ y_ : List ByteArray, y_ = (x5_1 ++ [a1.extract (x6_1 : Int).toNat a1.size]) := ⟨_, rfl⟩
              replace H : (some y105) = some r := by first | (rw [hy105]; with_reducible exact H) | (have H2_ := (Option.bind_some _ _).symm.trans H; rw [hy105]; with_reducible exact H2_) | (have H2_ := (Option.bind_some _ _).symm.trans H; with_reducible exact H2_) | with_reducible exact H | (rw [hy105]; exact H) | exact H
              have Ny105 := Aside0.mk hy105
              clear hy105
              obtain rfl := Option.some.inj H
              go_wp2_with (first | ((with_reducible refine gate_callee (f := 27) rfl ?_); refine goesL_ (some 11) rfl rfl Tryd.func27 (by kernel_rfl) rfl #[.string a0, .string a1, .int .i64 x6_1] rfl (by (try simp only [List.map_toArray, List.map_cons, List.map_nil]); first | done | rfl | (simp only [List.length_drop, List.length_take]; rfl)) ?_; (with_reducible refine (spec_Place.calls k1 a0 a1 x6_1 t104 _ A3.out).mono ?_); rintro e w' ⟨rfl, ⟨nd, rfl⟩⟩; refine ⟨_, rfl, ?_⟩) | ((with_reducible refine gate_builtin (b := .append) (xs := #[.tmp 14, .tmp 18]) rfl ?_); at_builtin; refine Kd.R_append Kd.string (w0 := w) w.heap.size rfl (.tmp 14) (.tmp 18) 35 9 (.string ⟨#[]⟩) 16 rfl Tryd.underlying35 info9 rfl (by decide) (by omega) u5 x5_1 (a1.extract (x6_1 : Int).toNat a1.size) [.string (a1.extract (x6_1 : Int).toNat a1.size)] (fun _ => True) (fun _ => False) rfl rfl ?aP (fun _ hk => hk.elim) ?aF ?aO ?aB ?aS ?aL ?_; (case aP => exact rfl); (case aB => exact (by repeat (first | (with_reducible first | exact HB.out | apply below_alloc | apply pw_below_drewN | apply below_drew1) | exact HB.out))); (case aF => exact (fun _ _ => trivial)); (case aO => exact (by (with_reducible repeat (first | apply Kd.R_alloc | apply Kd.R_drewN | apply Kd.R_drew)); exact HO_5.out)); (case aS => exact (below_size (by repeat (first | (with_reducible first | exact HB.out | apply below_alloc | apply pw_below_drewN | apply below_drew1) | exact HB.out)))); (case aL => have := LMc7.out; omega); intro v106 w8 ho hb hg hat; rw [← Ny105.out] at ho; have n0_ := Aside0.mk (hb); have n1_ := Aside0.mk (ho); clear HB; clear HO_5; have HB := n0_; have HO107 := n1_; clear n0_ n1_; clear ho hb hg hat))
              go_ret
              exact ⟨_, by first | rfl | (simp [errW_none, errW_some] <;> rfl) | (simp [*, errW_none, errW_some] <;> rfl), by (with_reducible repeat (first | apply Kd.R_alloc | apply Kd.R_drewN | apply Kd.R_drew)); exact HO107.out, by repeat (first | (with_reducible first | exact HB.out | apply below_alloc | apply pw_below_drewN | apply below_drew1) | exact HB.out)⟩
            · rw [if_neg c7] at H
              exact absurd H (by simp)
          · rw [if_neg c6] at H
            exact absurd H (by simp)
        · rw [if_neg c5] at H
          exact absurd H (by simp)
      · rw [if_neg c4] at H
        have c4b0 : decide (t104 < 0) = false := decide_eq_false c4
        clear c4
        by_cases c9 : 0 ≤ x6_1
        · rw [if_pos c9] at H
          have c9b0 := eq_true c9
          have c9b1 : decide (0 ≤ x6_1) = true := decide_eq_true c9
          clear c9
          by_cases c10 : x6_1 ≤ t104
          · rw [if_pos c10] at H
            have c10b0 := eq_true c10
            have c10b1 : decide (x6_1 ≤ t104) = true := decide_eq_true c10
            clear c10
            by_cases c11 : t104 ≤ (a1.size : Int)
            · rw [if_pos c11] at H
              have c11b0 := eq_true c11
              have c11b1 : decide (t104 ≤ (a1.size : Int)) = true := decide_eq_true c11
              clear c11
              by_cases c12 : x5_1.length < 8796093022208
              · rw [if_pos c12] at H
                have LMc12 := Aside0.mk c12
                clear c12
                obtain ⟨y108, hy108⟩ : ∃ y_ : List ByteArray, y_ = (x5_1 ++ [a1.extract (x6_1 : Int).toNat (t104 : Int).toNat]) := ⟨_, rfl⟩
                replace H : (spec_SplitList.l0 k1 a0 a1 y108 (wrap64 (t104 + (a0.size : Int)))) = some r := by first | (rw [hy108]; with_reducible exact H) | (have H2_ := (Option.bind_some _ _).symm.trans H; rw [hy108]; with_reducible exact H2_) | (have H2_ := (Option.bind_some _ _).symm.trans H; with_reducible exact H2_) | with_reducible exact H | (rw [hy108]; exact H) | exact H
                have Ny108 := Aside0.mk hy108
                clear hy108
                have H' := Aside0.mk H
                clear H
                go_wp2_with (first | ((with_reducible refine gate_callee (f := 27) rfl ?_); refine goesL_ (some 11) rfl rfl Tryd.func27 (by kernel_rfl) rfl #[.string a0, .string a1, .int .i64 x6_1] rfl (by (try simp only [List.map_toArray, List.map_cons, List.map_nil]); first | done | rfl | (simp only [List.length_drop, List.length_take]; rfl)) ?_; (with_reducible refine (spec_Place.calls k1 a0 a1 x6_1 t104 _ A3.out).mono ?_); rintro e w' ⟨rfl, ⟨nd, rfl⟩⟩; refine ⟨_, rfl, ?_⟩) | ((with_reducible refine gate_builtin (b := .append) (xs := #[.tmp 20, .tmp 25]) rfl ?_); at_builtin; refine Kd.R_append Kd.string (w0 := w) w.heap.size rfl (.tmp 20) (.tmp 25) 35 9 (.string ⟨#[]⟩) 16 rfl Tryd.underlying35 info9 rfl (by decide) (by omega) u5 x5_1 (a1.extract (x6_1 : Int).toNat (t104 : Int).toNat) [.string (a1.extract (x6_1 : Int).toNat (t104 : Int).toNat)] (fun _ => True) (fun _ => False) rfl rfl ?aP (fun _ hk => hk.elim) ?aF ?aO ?aB ?aS ?aL ?_; (case aP => exact rfl); (case aB => exact (by repeat (first | (with_reducible first | exact HB.out | apply below_alloc | apply pw_below_drewN | apply below_drew1) | exact HB.out))); (case aF => exact (fun _ _ => trivial)); (case aO => exact (by (with_reducible repeat (first | apply Kd.R_alloc | apply Kd.R_drewN | apply Kd.R_drew)); exact HO_5.out)); (case aS => exact (below_size (by repeat (first | (with_reducible first | exact HB.out | apply below_alloc | apply pw_below_drewN | apply below_drew1) | exact HB.out)))); (case aL => have := LMc12.out; omega); intro v109 w13 ho hb hg hat; rw [← Ny108.out] at ho; have n0_ := Aside0.mk (hb); have n1_ := Aside0.mk (ho); clear HB; clear HO_5; have HB := n0_; have HO110 := n1_; clear n0_ n1_; clear ho hb hg hat))
                go_roundg k1
                case measure => have := HK1.out; omega
                case rel => exact ⟨(y108), (wrap64 (t104 + (a0.size : Int))), (by first | rfl | (simp; done) | (simp [*]; done)), H', ⟨by have := HK1.out; omega⟩, ⟨by (with_reducible repeat (first | apply Kd.R_alloc | apply Kd.R_drewN | apply Kd.R_drew)); first | exact HO110.out | (have h_ := HO110.out; simp only [Txt.own_map] at h_ ⊢; exact h_)⟩, ⟨by repeat (first | (with_reducible first | exact HB.out | apply below_alloc | apply pw_below_drewN | apply below_drew1) | exact HB.out)⟩⟩
              · rw [if_neg c12] at H
                exact absurd H (by simp)
            · rw [if_neg c11] at H
              exact absurd H (by simp)
          · rw [if_neg c10] at H
            exact absurd H (by simp)
        · rw [if_neg c9] at H
          exact absurd H (by simp)

/-! ### spec_Joined: function 14 -/
def spec_Joined.l0 : Nat → ByteArray → List ByteArray → ByteArray → Int → Int → Option (ByteArray)
  | 0, _, _, _, _, _ => none
  | k + 1, x0, x1, x5, x8, x9 => if x9 < x8 then (if x9 > 0 then (if x5.size + x0.size ≤ 9223372036854775807 then (if 0 ≤ x9 then (if x9 < (x1.length : Int) then (if (x5 ++ x0).size + (rdOf ByteArray.empty x1 x9).size ≤ 9223372036854775807 then (spec_Joined.l0 k x0 x1 ((x5 ++ x0) ++ (rdOf ByteArray.empty x1 x9)) x8 (wrap64 (x9 + 1))) else (none)) else (none)) else (none)) else (none)) else (if 0 ≤ x9 then (if x9 < (x1.length : Int) then (if x5.size + (rdOf ByteArray.empty x1 x9).size ≤ 9223372036854775807 then (spec_Joined.l0 k x0 x1 (x5 ++ (rdOf ByteArray.empty x1 x9)) x8 (wrap64 (x9 + 1))) else (none)) else (none)) else (none))) else (some x5)
def spec_Joined.f (k : Nat) (a0 : ByteArray) (l1 : List ByteArray) : Option (ByteArray) := spec_Joined.l0 k a0 l1 (⟨#[]⟩ : ByteArray) (l1.length : Int) 0
theorem spec_Joined.mono_l : ∀ k, (∀ y0 y1 y2 y3 y4, LeO (spec_Joined.l0 k y0 y1 y2 y3 y4) (spec_Joined.l0 (k + 1) y0 y1 y2 y3 y4))
  | 0 => fun _ _ _ _ _ r h => by simp [spec_Joined.l0] at h
  | k + 1 => by
    have ih0 := spec_Joined.mono_l k
    · intro y0 y1 y2 y3 y4
      unfold spec_Joined.l0
      repeat' first
      | (with_reducible exact ih0 _ _ _ _ _)
      | (with_reducible exact LeO.refl _)
      | (with_reducible exact LeO.none _)
      | (with_reducible refine LeO.ite ?_ ?_)
      | (with_reducible refine LeO.bind ?_ (fun _ => ?_))
      | exact ih0 _ _ _ _ _
      | exact LeO.none _
      | refine LeO.ite ?_ ?_
      | refine LeO.bind ?_ (fun _ => ?_)
theorem spec_Joined.mono : ∀ a0 a1 k, LeO (spec_Joined.f k a0 a1) (spec_Joined.f (k + 1) a0 a1) := by
  intro a0 a1 k
  have ih0 := spec_Joined.mono_l k
  unfold spec_Joined.f
  repeat' first
      | (with_reducible exact ih0 _ _ _ _ _)
      | (with_reducible exact LeO.refl _)
      | (with_reducible exact LeO.none _)
      | (with_reducible refine LeO.ite ?_ ?_)
      | (with_reducible refine LeO.bind ?_ (fun _ => ?_))
      | exact ih0 _ _ _ _ _
      | exact LeO.none _
      | refine LeO.ite ?_ ?_
      | refine LeO.bind ?_ (fun _ => ?_)
set_option maxHeartbeats 8000000 in
set_option maxRecDepth 100000 in
theorem spec_Joined.calls (k : Nat) (a0 : ByteArray) (A1 : Option Addr) (c1 : Nat) (l1 : List ByteArray) (r : ByteArray) (w : World) (hr1 : Kd.C Kd.string w A1 l1.length l1) (hc1 : l1.length ≤ c1) (h : spec_Joined.f k a0 l1 = some r) :
    Calls Tryd.prog 14 #[.string a0, .slice A1 l1.length c1] w fun e w' => e = .returned (.string r) ∧ Drawn0 w w' := by
  have HR1 := Aside0.mk hr1
  have HC1 := Aside0.mk hc1
  clear hr1 hc1
  have H : (spec_Joined.l0 k a0 l1 (⟨#[]⟩ : ByteArray) (l1.length : Int) 0) = some r := h
  clear h
  have H' := Aside0.mk H
  clear H
  go_enter Tryd.func14, Tryd.ntmps14
  go_wp2
  go_loopg [5, 9] k (fun kq v5 v9 w' => ∃ (x5_1 : ByteArray) (x9_1 : Int), v5 = .string x5_1 ∧ v9 = .int .i64 x9_1 ∧ Aside0 (spec_Joined.l0 kq a0 l1 x5_1 (l1.length : Int) x9_1 = some r) ∧ Aside0 (kq ≤ k) ∧ Drawn0 w w')
  case atStart => exact ⟨((⟨#[]⟩ : ByteArray)), (0), (by first | rfl | (simp; done) | (simp [*]; done)), (by first | rfl | (simp; done) | (simp [*]; done)), H', ⟨Nat.le_refl _⟩, by repeat (first | exact Drawn0.refl _ | apply Drawn0.step)⟩
  case round =>
    clear H'
    try clear c1
    try clear p2
    obtain ⟨x5_1, x9_1, rfl, rfl, HA, HK1, ⟨m1, rfl⟩⟩ := hrel
    cases gk with
    | zero => exact absurd HA.out (by simp [spec_Joined.l0])
    | succ k1 =>
      have H := HA.out
      clear HA
      simp only [spec_Joined.l0] at H
      by_cases c3 : x9_1 < (l1.length : Int)
      · rw [if_pos c3] at H
        have c3b0 : decide (x9_1 < (l1.length : Int)) = true := decide_eq_true c3
        clear c3
        by_cases c4 : x9_1 > 0
        · rw [if_pos c4] at H
          have c4b0 : decide (0 < x9_1) = true := decide_eq_true c4
          clear c4
          by_cases c5 : x5_1.size + a0.size ≤ 9223372036854775807
          · rw [if_pos c5] at H
            have c5b0 := eq_true c5
            have c5b1 : decide (x5_1.size + a0.size ≤ 9223372036854775807) = true := decide_eq_true c5
            try have c5b2 : (9223372036854775807 < x5_1.size + a0.size) = False := eq_false (Nat.not_lt.2 c5)
            by_cases c6 : 0 ≤ x9_1
            · rw [if_pos c6] at H
              have c6b0 : decide (0 ≤ x9_1) = true := decide_eq_true c6
              clear c6
              by_cases c7 : x9_1 < (l1.length : Int)
              · rw [if_pos c7] at H
                have c7b0 : decide (x9_1 < (l1.length : Int)) = true := decide_eq_true c7
                clear c7
                by_cases c8 : (x5_1 ++ a0).size + (rdOf ByteArray.empty l1 x9_1).size ≤ 9223372036854775807
                · rw [if_pos c8] at H
                  have c8b0 := eq_true c8
                  have c8b1 : decide ((x5_1 ++ a0).size + (rdOf ByteArray.empty l1 x9_1).size ≤ 9223372036854775807) = true := decide_eq_true c8
                  try have c8b2 : (9223372036854775807 < (x5_1 ++ a0).size + (rdOf ByteArray.empty l1 x9_1).size) = False := eq_false (Nat.not_lt.2 c8)
                  have H' := Aside0.mk H
                  clear H
                  have p111 : 0 ≤ (x9_1 : Int) := of_decide_eq_true (by first | (with_reducible assumption) | assumption)
                  have q111 : x9_1 < (l1.length : Int) := of_decide_eq_true (by first | (with_reducible assumption) | assumption)
                  obtain ⟨ad111, e111, hx111_0⟩ := Kd.at_string HR1.out x9_1 p111 q111
                  cases e111
                  replace p111 := eq_true p111
                  replace q111 := eq_true q111
                  go_wp2
                  go_roundg k1
                  case measure => have := HK1.out; omega
                  case rel => exact ⟨((x5_1 ++ a0) ++ (rdOf ByteArray.empty l1 x9_1)), (wrap64 (x9_1 + 1)), (by first | rfl | (simp; done) | (simp [*]; done)), (by first | rfl | (simp; done) | (simp [*]; done)), H', ⟨by have := HK1.out; omega⟩, by repeat (first | exact Drawn0.refl _ | apply Drawn0.step)⟩
                · rw [if_neg c8] at H
                  exact absurd H (by simp)
              · rw [if_neg c7] at H
                exact absurd H (by simp)
            · rw [if_neg c6] at H
              exact absurd H (by simp)
          · rw [if_neg c5] at H
            exact absurd H (by simp)
        · rw [if_neg c4] at H
          have c4b0 : decide (0 < x9_1) = false := decide_eq_false c4
          clear c4
          by_cases c9 : 0 ≤ x9_1
          · rw [if_pos c9] at H
            have c9b0 : decide (0 ≤ x9_1) = true := decide_eq_true c9
            clear c9
            by_cases c10 : x9_1 < (l1.length : Int)
            · rw [if_pos c10] at H
              have c10b0 : decide (x9_1 < (l1.length : Int)) = true := decide_eq_true c10
              clear c10
              by_cases c11 : x5_1.size + (rdOf ByteArray.empty l1 x9_1).size ≤ 9223372036854775807
              · rw [if_pos c11] at H
                have c11b0 := eq_true c11
                have c11b1 : decide (x5_1.size + (rdOf ByteArray.empty l1 x9_1).size ≤ 9223372036854775807) = true := decide_eq_true c11
                try have c11b2 : (9223372036854775807 < x5_1.size + (rdOf ByteArray.empty l1 x9_1).size) = False := eq_false (Nat.not_lt.2 c11)
                have H' := Aside0.mk H
                clear H
                have p112 : 0 ≤ (x9_1 : Int) := of_decide_eq_true (by first | (with_reducible assumption) | assumption)
                have q112 : x9_1 < (l1.length : Int) := of_decide_eq_true (by first | (with_reducible assumption) | assumption)
                obtain ⟨ad112, e112, hx112_0⟩ := Kd.at_string HR1.out x9_1 p112 q112
                cases e112
                replace p112 := eq_true p112
                replace q112 := eq_true q112
                go_wp2
                go_roundg k1
                case measure => have := HK1.out; omega
                case rel => exact ⟨(x5_1 ++ (rdOf ByteArray.empty l1 x9_1)), (wrap64 (x9_1 + 1)), (by first | rfl | (simp; done) | (simp [*]; done)), (by first | rfl | (simp; done) | (simp [*]; done)), H', ⟨by have := HK1.out; omega⟩, by repeat (first | exact Drawn0.refl _ | apply Drawn0.step)⟩
              · rw [if_neg c11] at H
                exact absurd H (by simp)
            · rw [if_neg c10] at H
              exact absurd H (by simp)
          · rw [if_neg c9] at H
            exact absurd H (by simp)
      · rw [if_neg c3] at H
        have c3b0 : decide (x9_1 < (l1.length : Int)) = false := decide_eq_false c3
        clear c3
        obtain rfl := Option.some.inj H
        go_wp2
        go_ret
        exact ⟨by first | rfl | (simp; done) | (simp [*]; done), by repeat (first | exact Drawn0.refl _ | apply Drawn0.step)⟩

/-! ### sprig_zzIndex: function 59 -/
def sprig_zzIndex.l0 : Nat → ByteArray → ByteArray → Int → Option (Int)
  | 0, _, _, _ => none
  | k + 1, x0, x1, x5 => if (wrap64 (x5 + (x1.size : Int))) ≤ (x0.size : Int) then (if 0 ≤ x5 then (if x5 ≤ (wrap64 (x5 + (x1.size : Int))) then (if (x0.extract (x5 : Int).toNat ((wrap64 (x5 + (x1.size : Int))) : Int).toNat).toList = x1.toList then (some x5) else (sprig_zzIndex.l0 k x0 x1 (wrap64 (x5 + 1)))) else (none)) else (none)) else (some (-1))
def sprig_zzIndex.f (k : Nat) (a0 : ByteArray) (a1 : ByteArray) : Option (Int) := sprig_zzIndex.l0 k a0 a1 0
theorem sprig_zzIndex.mono_l : ∀ k, (∀ y0 y1 y2, LeO (sprig_zzIndex.l0 k y0 y1 y2) (sprig_zzIndex.l0 (k + 1) y0 y1 y2))
  | 0 => fun _ _ _ r h => by simp [sprig_zzIndex.l0] at h
  | k + 1 => by
    have ih0 := sprig_zzIndex.mono_l k
    · intro y0 y1 y2
      unfold sprig_zzIndex.l0
      repeat' first
      | (with_reducible exact ih0 _ _ _)
      | (with_reducible exact LeO.refl _)
      | (with_reducible exact LeO.none _)
      | (with_reducible refine LeO.ite ?_ ?_)
      | (with_reducible refine LeO.bind ?_ (fun _ => ?_))
      | exact ih0 _ _ _
      | exact LeO.none _
      | refine LeO.ite ?_ ?_
      | refine LeO.bind ?_ (fun _ => ?_)
theorem sprig_zzIndex.mono : ∀ a0 a1 k, LeO (sprig_zzIndex.f k a0 a1) (sprig_zzIndex.f (k + 1) a0 a1) := by
  intro a0 a1 k
  have ih0 := sprig_zzIndex.mono_l k
  unfold sprig_zzIndex.f
  repeat' first
      | (with_reducible exact ih0 _ _ _)
      | (with_reducible exact LeO.refl _)
      | (with_reducible exact LeO.none _)
      | (with_reducible refine LeO.ite ?_ ?_)
      | (with_reducible refine LeO.bind ?_ (fun _ => ?_))
      | exact ih0 _ _ _
      | exact LeO.none _
      | refine LeO.ite ?_ ?_
      | refine LeO.bind ?_ (fun _ => ?_)
set_option maxHeartbeats 8000000 in
set_option maxRecDepth 100000 in
theorem sprig_zzIndex.calls (k : Nat) (a0 : ByteArray) (a1 : ByteArray) (r : Int) (w : World) (h : sprig_zzIndex.f k a0 a1 = some r) :
    Calls Tryd.prog 59 #[.string a0, .string a1] w fun e w' => e = .returned (.int .i64 r) ∧ Drawn0 w w' := by
  have H : (sprig_zzIndex.l0 k a0 a1 0) = some r := h
  clear h
  have H' := Aside0.mk H
  clear H
  go_enter Tryd.func59, Tryd.ntmps59
  go_wp2
  go_loopg [5] k (fun kq v5 w' => ∃ (x5_1 : Int), v5 = .int .i64 x5_1 ∧ Aside0 (sprig_zzIndex.l0 kq a0 a1 x5_1 = some r) ∧ Aside0 (kq ≤ k) ∧ Drawn0 w w')
  case atStart => exact ⟨(0), (by first | rfl | (simp; done) | (simp [*]; done)), H', ⟨Nat.le_refl _⟩, by repeat (first | exact Drawn0.refl _ | apply Drawn0.step)⟩
  case round =>
    clear H'
    try clear p2
    obtain ⟨x5_1, rfl, HA, HK1, ⟨m1, rfl⟩⟩ := hrel
    cases gk with
    | zero => exact absurd HA.out (by simp [sprig_zzIndex.l0])
    | succ k1 =>
      have H := HA.out
      clear HA
      simp only [sprig_zzIndex.l0] at H
      by_cases c3 : (wrap64 (x5_1 + (a1.size : Int))) ≤ (a0.size : Int)
      · rw [if_pos c3] at H
        have c3b0 : decide ((wrap64 (x5_1 + (a1.size : Int))) ≤ (a0.size : Int)) = true := decide_eq_true c3
        clear c3
        by_cases c4 : 0 ≤ x5_1
        · rw [if_pos c4] at H
          have c4b0 := eq_true c4
          have c4b1 : decide (0 ≤ x5_1) = true := decide_eq_true c4
          clear c4
          by_cases c5 : x5_1 ≤ (wrap64 (x5_1 + (a1.size : Int)))
          · rw [if_pos c5] at H
            have c5b0 := eq_true c5
            have c5b1 : decide (x5_1 ≤ (wrap64 (x5_1 + (a1.size : Int)))) = true := decide_eq_true c5
            have c6b0 := eq_true (of_decide_eq_true (by first | (with_reducible assumption) | assumption) : (wrap64 (x5_1 + (a1.size : Int))) ≤ (a0.size : Int))
            by_cases c7 : (a0.extract (x5_1 : Int).toNat ((wrap64 (x5_1 + (a1.size : Int))) : Int).toNat).toList = a1.toList
            · rw [if_pos c7] at H
              have c7b0 : ((a0.extract (x5_1 : Int).toNat ((wrap64 (x5_1 + (a1.size : Int))) : Int).toNat).toList == a1.toList) = true := beq_iff_eq.mpr c7
              have c7b1 : ((a0.extract (x5_1 : Int).toNat ((wrap64 (x5_1 + (a1.size : Int))) : Int).toNat).toList != a1.toList) = false := bne_eq_false_iff_eq.mpr c7
              clear c7
              obtain rfl := Option.some.inj H
              go_wp2
              go_ret
              exact ⟨by first | rfl | (simp; done) | (simp [*]; done), by repeat (first | exact Drawn0.refl _ | apply Drawn0.step)⟩
            · rw [if_neg c7] at H
              have c7b0 : ((a0.extract (x5_1 : Int).toNat ((wrap64 (x5_1 + (a1.size : Int))) : Int).toNat).toList == a1.toList) = false := beq_eq_false_iff_ne.mpr c7
              have c7b1 : ((a0.extract (x5_1 : Int).toNat ((wrap64 (x5_1 + (a1.size : Int))) : Int).toNat).toList != a1.toList) = true := bne_iff_ne.mpr c7
              have H' := Aside0.mk H
              clear H
              go_wp2
              go_roundg k1
              case measure => have := HK1.out; omega
              case rel => exact ⟨(wrap64 (x5_1 + 1)), (by first | rfl | (simp; done) | (simp [*]; done)), H', ⟨by have := HK1.out; omega⟩, by repeat (first | exact Drawn0.refl _ | apply Drawn0.step)⟩
          · rw [if_neg c5] at H
            exact absurd H (by simp)
        · rw [if_neg c4] at H
          exact absurd H (by simp)
      · rw [if_neg c3] at H
        have c3b0 : decide ((wrap64 (x5_1 + (a1.size : Int))) ≤ (a0.size : Int)) = false := decide_eq_false c3
        clear c3
        obtain rfl := Option.some.inj H
        go_wp2
        go_ret
        exact ⟨by first | rfl | (simp; done) | (simp [*]; done), by repeat (first | exact Drawn0.refl _ | apply Drawn0.step)⟩

/-! ### sprig_zzSplitN: function 52 -/
mutual
def sprig_zzSplitN.l0 : Nat → ByteArray → ByteArray → Int → List ByteArray → Option (List ByteArray)
  | 0, _, _, _, _ => none
  | k + 1, x0, x1, x2, x7 => if x2 < 0 then (sprig_zzSplitN.j1 k x0 x1 x2 x7 true) else (sprig_zzSplitN.j1 k x0 x1 x2 x7 (decide ((x7.length : Int) < (wrap64 (x2 - 1)))))
def sprig_zzSplitN.j1 : Nat → ByteArray → ByteArray → Int → List ByteArray → Bool → Option (List ByteArray)
  | 0, _, _, _, _, _ => none
  | k + 1, x0, x1, x2, x7, x19 => if x19 = true then (if (x1.size : Int) = 0 then ((utf8_DecodeRuneInString.f x0).bind fun bt245 => (if bt245.2 = (x0.size : Int) then (if (x0.size : Int) = 0 then (if (x7.length : Int) = 0 then (some (([] : List ByteArray))) else (if x7.length < 8796093022208 then (some (x7 ++ [x0])) else (none))) else (if x7.length < 8796093022208 then (some (x7 ++ [x0])) else (none))) else (if 0 ≤ bt245.2 then (if bt245.2 ≤ (x0.size : Int) then (if x7.length < 8796093022208 then (if 0 ≤ (wrap64 (bt245.2 + (x1.size : Int))) then (if (wrap64 (bt245.2 + (x1.size : Int))) ≤ (x0.size : Int) then (sprig_zzSplitN.l0 k (x0.extract ((wrap64 (bt245.2 + (x1.size : Int))) : Int).toNat x0.size) x1 x2 (x7 ++ [x0.extract 0 (bt245.2 : Int).toNat])) else (none)) else (none)) else (none)) else (none)) else (none)))) else ((sprig_zzIndex.f k x0 x1).bind fun t259 => (if t259 < 0 then (if x7.length < 8796093022208 then (some (x7 ++ [x0])) else (none)) else (if 0 ≤ t259 then (if t259 ≤ (x0.size : Int) then (if x7.length < 8796093022208 then (if 0 ≤ (wrap64 (t259 + (x1.size : Int))) then (if (wrap64 (t259 + (x1.size : Int))) ≤ (x0.size : Int) then (sprig_zzSplitN.l0 k (x0.extract ((wrap64 (t259 + (x1.size : Int))) : Int).toNat x0.size) x1 x2 (x7 ++ [x0.extract 0 (t259 : Int).toNat])) else (none)) else (none)) else (none)) else (none)) else (none))))) else (if (x1.size : Int) = 0 then (if (x0.size : Int) = 0 then (if (x7.length : Int) = 0 then (some (([] : List ByteArray))) else (if x7.length < 8796093022208 then (some (x7 ++ [x0])) else (none))) else (if x7.length < 8796093022208 then (some (x7 ++ [x0])) else (none))) else (if x7.length < 8796093022208 then (some (x7 ++ [x0])) else (none)))
end
def sprig_zzSplitN.f (k : Nat) (a0 : ByteArray) (a1 : ByteArray) (a2 : Int) : Option (List ByteArray) := if a2 = 0 then (some ([] : List ByteArray)) else (sprig_zzSplitN.l0 k a0 a1 a2 ([] : List ByteArray))
theorem sprig_zzSplitN.mono_l : ∀ k, (∀ y0 y1 y2 y3, LeO (sprig_zzSplitN.l0 k y0 y1 y2 y3) (sprig_zzSplitN.l0 (k + 1) y0 y1 y2 y3)) ∧ (∀ y0 y1 y2 y3 y4, LeO (sprig_zzSplitN.j1 k y0 y1 y2 y3 y4) (sprig_zzSplitN.j1 (k + 1) y0 y1 y2 y3 y4))
  | 0 => ⟨fun _ _ _ _ r h => by simp [sprig_zzSplitN.l0] at h, fun _ _ _ _ _ r h => by simp [sprig_zzSplitN.j1] at h⟩
  | k + 1 => by
    obtain ⟨ih0, ih1⟩ := sprig_zzSplitN.mono_l k
    refine ⟨?_, ?_⟩
    · intro y0 y1 y2 y3
      unfold sprig_zzSplitN.l0
      repeat' first
      | (with_reducible exact ih0 _ _ _ _)
      | (with_reducible exact ih1 _ _ _ _ _)
      | (with_reducible exact sprig_zzIndex.mono _ _ _)
      | (with_reducible exact LeO.refl _)
      | (with_reducible exact LeO.none _)
      | (with_reducible refine LeO.ite ?_ ?_)
      | (with_reducible refine LeO.bind ?_ (fun _ => ?_))
      | exact ih0 _ _ _ _
      | exact ih1 _ _ _ _ _
      | exact sprig_zzIndex.mono _ _ _
      | exact LeO.none _
      | refine LeO.ite ?_ ?_
      | refine LeO.bind ?_ (fun _ => ?_)
    · intro y0 y1 y2 y3 y4
      unfold sprig_zzSplitN.j1
      repeat' first
      | (with_reducible exact ih0 _ _ _ _)
      | (with_reducible exact ih1 _ _ _ _ _)
      | (with_reducible exact sprig_zzIndex.mono _ _ _)
      | (with_reducible exact LeO.refl _)
      | (with_reducible exact LeO.none _)
      | (with_reducible refine LeO.ite ?_ ?_)
      | (with_reducible refine LeO.bind ?_ (fun _ => ?_))
      | exact ih0 _ _ _ _
      | exact ih1 _ _ _ _ _
      | exact sprig_zzIndex.mono _ _ _
      | exact LeO.none _
      | refine LeO.ite ?_ ?_
      | refine LeO.bind ?_ (fun _ => ?_)
theorem sprig_zzSplitN.mono : ∀ a0 a1 a2 k, LeO (sprig_zzSplitN.f k a0 a1 a2) (sprig_zzSplitN.f (k + 1) a0 a1 a2) := by
  intro a0 a1 a2 k
  obtain ⟨ih0, ih1⟩ := sprig_zzSplitN.mono_l k
  unfold sprig_zzSplitN.f
  repeat' first
      | (with_reducible exact ih0 _ _ _ _)
      | (with_reducible exact ih1 _ _ _ _ _)
      | (with_reducible exact sprig_zzIndex.mono _ _ _)
      | (with_reducible exact LeO.refl _)
      | (with_reducible exact LeO.none _)
      | (with_reducible refine LeO.ite ?_ ?_)
      | (with_reducible refine LeO.bind ?_ (fun _ => ?_))
      | exact ih0 _ _ _ _
      | exact ih1 _ _ _ _ _
      | exact sprig_zzIndex.mono _ _ _
      | exact LeO.none _
      | refine LeO.ite ?_ ?_
      | refine LeO.bind ?_ (fun _ => ?_)
set_option maxHeartbeats 8000000 in
set_option maxRecDepth 100000 in
theorem sprig_zzSplitN.calls (k : Nat) (a0 : ByteArray) (a1 : ByteArray) (a2 : Int) (r : List ByteArray) (w : World) (h : sprig_zzSplitN.f k a0 a1 a2 = some r) :
    Calls Tryd.prog 52 #[.string a0, .string a1, .int .i64 a2] w fun e w' => ∃ v0_ : Value, e = .returned (v0_) ∧ Kd.R Kd.string 9 w' w.heap.size (fun _ => True) v0_ r ∧ Below w.heap.size w w' := by
  have HB := Aside0.mk (Below.refl w.heap.size w)
  have H : (if a2 = 0 then (some ([] : List ByteArray)) else (sprig_zzSplitN.l0 k a0 a1 a2 ([] : List ByteArray))) = some r := h
  clear h
  by_cases c4 : a2 = 0
  · rw [if_pos c4] at H
    have c4b0 : (a2 == 0) = true := beq_iff_eq.mpr c4
    have c4b1 : (a2 != 0) = false := bne_eq_false_iff_eq.mpr c4
    clear c4
    obtain rfl := Option.some.inj H
    go_enter Tryd.func52, Tryd.ntmps52
    go_wp2
    go_ret
    exact ⟨_, by first | rfl | (simp [errW_none, errW_some] <;> rfl) | (simp [*, errW_none, errW_some] <;> rfl), by first | exact Kd.R_nil _ _ _ _ _ | exact Kd.N_nil _ _ _ _ _ | exact Kd.V_nil _ _ _ _ _ | exact Kd.Q_nil _ _ _ _ _ | exact Kd.S_nil _ _ _ _ _, by repeat (first | (with_reducible first | exact HB.out | apply below_alloc | apply pw_below_drewN | apply below_drew1) | exact HB.out)⟩
  · rw [if_neg c4] at H
    have c4b0 : (a2 == 0) = false := beq_eq_false_iff_ne.mpr c4
    have c4b1 : (a2 != 0) = true := bne_iff_ne.mpr c4
    have H' := Aside0.mk H
    clear H
    go_enter Tryd.func52, Tryd.ntmps52
    go_wp2
    go_loopg [0, 7] k (fun kq v0 v7 w' => ∃ (x0_1 : ByteArray) (x7_1 : List ByteArray), v0 = .string x0_1 ∧ Aside0 (sprig_zzSplitN.l0 kq x0_1 a1 a2 x7_1 = some r) ∧ Aside0 (kq ≤ k) ∧ Aside0 (Kd.R Kd.string 9 w' w.heap.size (fun _ => True) v7 x7_1) ∧ Aside0 (Below w.heap.size w w'))
    case atStart => exact ⟨(a0), (([] : List ByteArray)), (by first | rfl | (simp; done) | (simp [*]; done)), H', ⟨Nat.le_refl _⟩, ⟨by first | exact Kd.R_nil _ _ _ _ _ | exact Kd.N_nil _ _ _ _ _ | exact Kd.V_nil _ _ _ _ _ | exact Kd.Q_nil _ _ _ _ _ | exact Kd.S_nil _ _ _ _ _⟩, ⟨by repeat (first | (with_reducible first | exact HB.out | apply below_alloc | apply pw_below_drewN | apply below_drew1) | exact HB.out)⟩⟩
    case round =>
      clear H'
      try clear p2
      try clear c4
      try clear c4b0
      try clear c4b1
      obtain ⟨x0_1, x7_1, rfl, HA, HK1, HO_7, HB⟩ := hrel
      cases gk with
      | zero => exact absurd HA.out (by simp [sprig_zzSplitN.l0])
      | succ k1 =>
        have H := HA.out
        clear HA
        simp only [sprig_zzSplitN.l0] at H
        have HC5 := Aside0.mk H
        clear H
        go_upto_region 4 with (fail)
        go_cut [19] (fun v19 wc => ∃ (kq : Nat) (x19_4 : Bool), v19 = .bool x19_4 ∧ Aside0 (sprig_zzSplitN.j1 kq x0_1 a1 a2 x7_1 x19_4 = some r) ∧ Aside0 (kq ≤ k1) ∧ Aside0 (Kd.R Kd.string 9 wc w.heap.size (fun _ => True) u7 x7_1) ∧ Aside0 (Below w.heap.size w wc))
        case first =>
          have H := HC5.out
          clear HC5
          by_cases c6 : a2 < 0
          · rw [if_pos c6] at H
            have c6b0 : decide (a2 < 0) = true := decide_eq_true c6
            clear c6
            (first | rw [c6b0] | (simp only [i64_w, i32_w]; rw [c6b0]) | skip)
            have H' := Aside0.mk H
            clear H
            go_wp2
            go_meet
            case rel => exact ⟨_, (true), (by first | rfl | (simp; done) | (simp [*]; done)), H', ⟨by have := HK1.out; first | omega | exact Nat.le_refl _⟩, ⟨by (with_reducible repeat (first | apply Kd.R_alloc | apply Kd.R_drewN | apply Kd.R_drew)); first | exact HO_7.out | (have h_ := HO_7.out; simp only [Txt.own_map] at h_ ⊢; exact h_)⟩, ⟨by repeat (first | (with_reducible first | exact HB.out | apply below_alloc | apply pw_below_drewN | apply below_drew1) | exact HB.out)⟩⟩
          · rw [if_neg c6] at H
            have c6b0 : decide (a2 < 0) = false := decide_eq_false c6
            clear c6
            (first | rw [c6b0] | (simp only [i64_w, i32_w]; rw [c6b0]) | skip)
            have H' := Aside0.mk H
            clear H
            obtain ⟨Ao7, co7, eo7⟩ := Kd.R_slice HO_7.out
            subst eo7
            go_wp2
            go_meet
            case rel => exact ⟨_, (decide ((x7_1.length : Int) < (wrap64 (a2 - 1)))), (by first | rfl | (simp; done) | (simp [*]; done)), H', ⟨by have := HK1.out; first | omega | exact Nat.le_refl _⟩, ⟨by (with_reducible repeat (first | apply Kd.R_alloc | apply Kd.R_drewN | apply Kd.R_drew)); first | exact HO_7.out | (have h_ := HO_7.out; simp only [Txt.own_map] at h_ ⊢; exact h_)⟩, ⟨by repeat (first | (with_reducible first | exact HB.out | apply below_alloc | apply pw_below_drewN | apply below_drew1) | exact HB.out)⟩⟩
        case rest =>
          clear HC5
          try clear p2
          try clear c4
          try clear c4b0
          try clear c4b1
          try clear c5
          try clear c6
          try clear c6b0
          try clear p6
          try clear p2
          obtain ⟨kq, x19_4, rfl, HA, HJ4, HO_7, HB⟩ := hcut
          cases kq with
          | zero => exact absurd HA.out (by simp [sprig_zzSplitN.j1])
          | succ kj4 =>
            have H := HA.out
            clear HA
            simp only [sprig_zzSplitN.j1] at H
            by_cases c8 : x19_4 = true
            · subst c8
              have H1 : (if (a1.size : Int) = 0 then ((utf8_DecodeRuneInString.f x0_1).bind fun bt245 => (if bt245.2 = (x0_1.size : Int) then (if (x0_1.size : Int) = 0 then (if (x7_1.length : Int) = 0 then (some (([] : List ByteArray))) else (if x7_1.length < 8796093022208 then (some (x7_1 ++ [x0_1])) else (none))) else (if x7_1.length < 8796093022208 then (some (x7_1 ++ [x0_1])) else (none))) else (if 0 ≤ bt245.2 then (if bt245.2 ≤ (x0_1.size : Int) then (if x7_1.length < 8796093022208 then (if 0 ≤ (wrap64 (bt245.2 + (a1.size : Int))) then (if (wrap64 (bt245.2 + (a1.size : Int))) ≤ (x0_1.size : Int) then (sprig_zzSplitN.l0 kj4 (x0_1.extract ((wrap64 (bt245.2 + (a1.size : Int))) : Int).toNat x0_1.size) a1 a2 (x7_1 ++ [x0_1.extract 0 (bt245.2 : Int).toNat])) else (none)) else (none)) else (none)) else (none)) else (none)))) else ((sprig_zzIndex.f kj4 x0_1 a1).bind fun t259 => (if t259 < 0 then (if x7_1.length < 8796093022208 then (some (x7_1 ++ [x0_1])) else (none)) else (if 0 ≤ t259 then (if t259 ≤ (x0_1.size : Int) then (if x7_1.length < 8796093022208 then (if 0 ≤ (wrap64 (t259 + (a1.size : Int))) then (if (wrap64 (t259 + (a1.size : Int))) ≤ (x0_1.size : Int) then (sprig_zzSplitN.l0 kj4 (x0_1.extract ((wrap64 (t259 + (a1.size : Int))) : Int).toNat x0_1.size) a1 a2 (x7_1 ++ [x0_1.extract 0 (t259 : Int).toNat])) else (none)) else (none)) else (none)) else (none)) else (none))))) = some r := by rw [if_pos rfl] at H; exact H
              clear H
              have H := H1
              clear H1
              by_cases c9 : (a1.size : Int) = 0
              · rw [if_pos c9] at H
                have c9b0 : ((a1.size : Int) == 0) = true := beq_iff_eq.mpr c9
                have c9b1 : ((a1.size : Int) != 0) = false := bne_eq_false_iff_eq.mpr c9
                clear c9
                replace H := Option.bind_eq_some_iff.mp H
                obtain ⟨⟨t245, t246⟩, A100, H⟩ := H
                replace H : (if t246 = (x0_1.size : Int) then (if (x0_1.size : Int) = 0 then (if (x7_1.length : Int) = 0 then (some (([] : List ByteArray))) else (if x7_1.length < 8796093022208 then (some (x7_1 ++ [x0_1])) else (none))) else (if x7_1.length < 8796093022208 then (some (x7_1 ++ [x0_1])) else (none))) else (if 0 ≤ t246 then (if t246 ≤ (x0_1.size : Int) then (if x7_1.length < 8796093022208 then (if 0 ≤ (wrap64 (t246 + (a1.size : Int))) then (if (wrap64 (t246 + (a1.size : Int))) ≤ (x0_1.size : Int) then (sprig_zzSplitN.l0 kj4 (x0_1.extract ((wrap64 (t246 + (a1.size : Int))) : Int).toNat x0_1.size) a1 a2 (x7_1 ++ [x0_1.extract 0 (t246 : Int).toNat])) else (none)) else (none)) else (none)) else (none)) else (none))) = some r := H
                have A10 := Aside0.mk A100
                clear A100
                by_cases c11 : t246 = (x0_1.size : Int)
                · rw [if_pos c11] at H
                  have c11b0 : (t246 == (x0_1.size : Int)) = true := beq_iff_eq.mpr c11
                  have c11b1 : (t246 != (x0_1.size : Int)) = false := bne_eq_false_iff_eq.mpr c11
                  clear c11
                  by_cases c12 : (x0_1.size : Int) = 0
                  · rw [if_pos c12] at H
                    have c12b0 : ((x0_1.size : Int) == 0) = true := beq_iff_eq.mpr c12
                    have c12b1 : ((x0_1.size : Int) != 0) = false := bne_eq_false_iff_eq.mpr c12
                    clear c12
                    by_cases c13 : (x7_1.length : Int) = 0
                    · rw [if_pos c13] at H
                      have c13b0 : ((x7_1.length : Int) == 0) = true := beq_iff_eq.mpr c13
                      have c13b1 : ((x7_1.length : Int) != 0) = false := bne_eq_false_iff_eq.mpr c13
                      clear c13
                      obtain ⟨y247, hy247⟩ : ∃ y_ : List ByteArray, y_ = (([] : List ByteArray)) := ⟨_, rfl⟩
                      replace H : (some y247) = some r := by first | (rw [hy247]; with_reducible exact H) | (have H2_ := (Option.bind_some _ _).symm.trans H; rw [hy247]; with_reducible exact H2_) | (have H2_ := (Option.bind_some _ _).symm.trans H; with_reducible exact H2_) | with_reducible exact H | (rw [hy247]; exact H) | exact H
                      have Ny247 := Aside0.mk hy247
                      clear hy247
                      obtain rfl := Option.some.inj H
                      go_wp2_with (first | ((with_reducible refine gate_callee (f := 34) rfl ?_); refine goesL_ (some 25) rfl rfl Tryd.func34 (by kernel_rfl) rfl #[.string x0_1] rfl (by (try simp only [List.map_toArray, List.map_cons, List.map_nil]); first | done | rfl | (simp only [List.length_drop, List.length_take]; rfl)) ?_; (with_reducible refine (utf8_DecodeRuneInString.calls x0_1 t245 t246 _ A10.out).mono ?_); rintro e w' ⟨rfl, ⟨nd, rfl⟩⟩; refine ⟨_, rfl, ?_⟩; obtain ⟨Ao14, co14, eo14⟩ := Kd.R_slice HO_7.out; subst eo14) | ((with_reducible refine gate_dst (N := 62) rfl ?_); (try (refine gate_guard (by rfl) ?_; dsimp only)); refine Kd.R_lit Kd.string _ 9 ?hg (N := 62) ?hd (xs := ([] : List ByteArray)) (inner := []) (ok := fun _ => True) (okp := fun _ => True) ?hr ?hp (fun _ hk => hk) trivial (Below.refl _ _) (Nat.le_refl _) (by simp) ?_; (case hd => rfl); (case hg => rfl); (case hr => first | (go_simp; done) | (go_simp; rfl)); (case hp => exact (Reps.none _ _)); intro v248 w15 ho16 hb hg_ hnew_; clear hg_ hnew_; (first | rw [← Ny247.out] at ho16 | (simp only [Int.reduceToNat] at ho16; rw [← Ny247.out] at ho16)); have n0_ := Aside0.mk (Kd.R_elder' (by (with_reducible repeat (first | apply Kd.R_alloc | apply Kd.R_drewN | apply Kd.R_drew)); exact HO_7.out) (Kd.R_base ho16) hb); have n1_ := Aside0.mk (Kd.R_lower (Kd.R_new' ho16 (Kd.R_lt (by (with_reducible repeat (first | apply Kd.R_alloc | apply Kd.R_drewN | apply Kd.R_drew)); exact HO_7.out))) (below_size (by repeat (first | (with_reducible first | exact HB.out | apply below_alloc | apply pw_below_drewN | apply below_drew1) | exact HB.out)))); have n2_ := Aside0.mk (below_step (by repeat (first | (with_reducible first | exact HB.out | apply below_alloc | apply pw_below_drewN | apply below_drew1) | exact HB.out)) hb); clear HO_7; clear HB; have HO_7 := n0_; have HO249 := n1_; have HB := n2_; clear n0_ n1_ n2_; clear hb ho16))
                      go_ret
                      exact ⟨_, by first | rfl | (simp [errW_none, errW_some] <;> rfl) | (simp [*, errW_none, errW_some] <;> rfl), by (with_reducible repeat (first | apply Kd.R_alloc | apply Kd.R_drewN | apply Kd.R_drew)); exact Kd.R_mono HO249.out (fun _ hk => trivial), by repeat (first | (with_reducible first | exact HB.out | apply below_alloc | apply pw_below_drewN | apply below_drew1) | exact HB.out)⟩
                    · rw [if_neg c13] at H
                      have c13b0 : ((x7_1.length : Int) == 0) = false := beq_eq_false_iff_ne.mpr c13
                      have c13b1 : ((x7_1.length : Int) != 0) = true := bne_iff_ne.mpr c13
                      have c13b2 : ¬ (x7_1 = []) := fun h_ => c13 (by rw [h_]; rfl)
                      by_cases c17 : x7_1.length < 8796093022208
                      · rw [if_pos c17] at H
                        have LMc17 := Aside0.mk c17
                        clear c17
                        obtain ⟨y250, hy250⟩ : ∃ y_ : List ByteArray, y_ = (x7_1 ++ [x0_1]) := ⟨_, rfl⟩
                        replace H : (some y250) = some r := by first | (rw [hy250]; with_reducible exact H) | (have H2_ := (Option.bind_some _ _).symm.trans H; rw [hy250]; with_reducible exact H2_) | (have H2_ := (Option.bind_some _ _).symm.trans H; with_reducible exact H2_) | with_reducible exact H | (rw [hy250]; exact H) | exact H
                        have Ny250 := Aside0.mk hy250
                        clear hy250
                        obtain rfl := Option.some.inj H
                        go_wp2_with (first | ((with_reducible refine gate_callee (f := 34) rfl ?_); refine goesL_ (some 25) rfl rfl Tryd.func34 (by kernel_rfl) rfl #[.string x0_1] rfl (by (try simp only [List.map_toArray, List.map_cons, List.map_nil]); first | done | rfl | (simp only [List.length_drop, List.length_take]; rfl)) ?_; (with_reducible refine (utf8_DecodeRuneInString.calls x0_1 t245 t246 _ A10.out).mono ?_); rintro e w' ⟨rfl, ⟨nd, rfl⟩⟩; refine ⟨_, rfl, ?_⟩; obtain ⟨Ao18, co18, eo18⟩ := Kd.R_slice HO_7.out; subst eo18) | ((with_reducible refine gate_builtin (b := .append) (xs := #[.tmp 63, .tmp 65]) rfl ?_); (try (refine gate_guard (by rfl) ?_; dsimp only)); at_builtin; refine Kd.R_append Kd.string (w0 := w) w.heap.size rfl (.tmp 63) (.tmp 65) 35 9 (.string ⟨#[]⟩) 16 rfl Tryd.underlying35 info9 rfl (by decide) (by omega) (.slice Ao18 x7_1.length co18) x7_1 x0_1 [.string x0_1] (fun _ => True) (fun _ => False) rfl rfl ?aP (fun _ hk => hk.elim) ?aF ?aO ?aB ?aS ?aL ?_; (case aP => exact rfl); (case aB => exact (by repeat (first | (with_reducible first | exact HB.out | apply below_alloc | apply pw_below_drewN | apply below_drew1) | exact HB.out))); (case aF => exact (fun _ _ => trivial)); (case aO => exact (by (with_reducible repeat (first | apply Kd.R_alloc | apply Kd.R_drewN | apply Kd.R_drew)); exact HO_7.out)); (case aS => exact (below_size (by repeat (first | (with_reducible first | exact HB.out | apply below_alloc | apply pw_below_drewN | apply below_drew1) | exact HB.out)))); (case aL => have := LMc17.out; omega); intro v251 w19 ho hb hg hat; rw [← Ny250.out] at ho; have n0_ := Aside0.mk (hb); have n1_ := Aside0.mk (ho); clear HB; clear HO_7; have HB := n0_; have HO252 := n1_; clear n0_ n1_; clear ho hb hg hat))
                        go_ret
                        exact ⟨_, by first | rfl | (simp [errW_none, errW_some] <;> rfl) | (simp [*, errW_none, errW_some] <;> rfl), by (with_reducible repeat (first | apply Kd.R_alloc | apply Kd.R_drewN | apply Kd.R_drew)); exact HO252.out, by repeat (first | (with_reducible first | exact HB.out | apply below_alloc | apply pw_below_drewN | apply below_drew1) | exact HB.out)⟩
                      · rw [if_neg c17] at H
                        exact absurd H (by simp)
                  · rw [if_neg c12] at H
                    have c12b0 : ((x0_1.size : Int) == 0) = false := beq_eq_false_iff_ne.mpr c12
                    have c12b1 : ((x0_1.size : Int) != 0) = true := bne_iff_ne.mpr c12
                    by_cases c20 : x7_1.length < 8796093022208
                    · rw [if_pos c20] at H
                      have LMc20 := Aside0.mk c20
                      clear c20
                      obtain ⟨y253, hy253⟩ : ∃ y_ : List ByteArray, y_ = (x7_1 ++ [x0_1]) := ⟨_, rfl⟩
                      replace H : (some y253) = some r := by first | (rw [hy253]; with_reducible exact H) | (have H2_ := (Option.bind_some _ _).symm.trans H; rw [hy253]; with_reducible exact H2_) | (have H2_ := (Option.bind_some _ _).symm.trans H; with_reducible exact H2_) | with_reducible exact H | (rw [hy253]; exact H) | exact H
                      have Ny253 := Aside0.mk hy253
                      clear hy253
                      obtain rfl := Option.some.inj H
                      go_wp2_with (first | ((with_reducible refine gate_callee (f := 34) rfl ?_); refine goesL_ (some 25) rfl rfl Tryd.func34 (by kernel_rfl) rfl #[.string x0_1] rfl (by (try simp only [List.map_toArray, List.map_cons, List.map_nil]); first | done | rfl | (simp only [List.length_drop, List.length_take]; rfl)) ?_; (with_reducible refine (utf8_DecodeRuneInString.calls x0_1 t245 t246 _ A10.out).mono ?_); rintro e w' ⟨rfl, ⟨nd, rfl⟩⟩; refine ⟨_, rfl, ?_⟩) | ((with_reducible refine gate_builtin (b := .append) (xs := #[.tmp 63, .tmp 65]) rfl ?_); (try (refine gate_guard (by rfl) ?_; dsimp only)); at_builtin; refine Kd.R_append Kd.string (w0 := w) w.heap.size rfl (.tmp 63) (.tmp 65) 35 9 (.string ⟨#[]⟩) 16 rfl Tryd.underlying35 info9 rfl (by decide) (by omega) u7 x7_1 x0_1 [.string x0_1] (fun _ => True) (fun _ => False) rfl rfl ?aP (fun _ hk => hk.elim) ?aF ?aO ?aB ?aS ?aL ?_; (case aP => exact rfl); (case aB => exact (by repeat (first | (with_reducible first | exact HB.out | apply below_alloc | apply pw_below_drewN | apply below_drew1) | exact HB.out))); (case aF => exact (fun _ _ => trivial)); (case aO => exact (by (with_reducible repeat (first | apply Kd.R_alloc | apply Kd.R_drewN | apply Kd.R_drew)); exact HO_7.out)); (case aS => exact (below_size (by repeat (first | (with_reducible first | exact HB.out | apply below_alloc | apply pw_below_drewN | apply below_drew1) | exact HB.out)))); (case aL => have := LMc20.out; omega); intro v254 w21 ho hb hg hat; rw [← Ny253.out] at ho; have n0_ := Aside0.mk (hb); have n1_ := Aside0.mk (ho); clear HB; clear HO_7; have HB := n0_; have HO255 := n1_; clear n0_ n1_; clear ho hb hg hat))
                      go_ret
                      exact ⟨_, by first | rfl | (simp [errW_none, errW_some] <;> rfl) | (simp [*, errW_none, errW_some] <;> rfl), by (with_reducible repeat (first | apply Kd.R_alloc | apply Kd.R_drewN | apply Kd.R_drew)); exact HO255.out, by repeat (first | (with_reducible first | exact HB.out | apply below_alloc | apply pw_below_drewN | apply below_drew1) | exact HB.out)⟩
                    · rw [if_neg c20] at H
                      exact absurd H (by simp)
                · rw [if_neg c11] at H
                  have c11b0 : (t246 == (x0_1.size : Int)) = false := beq_eq_false_iff_ne.mpr c11
                  have c11b1 : (t246 != (x0_1.size : Int)) = true := bne_iff_ne.mpr c11
                  by_cases c22 : 0 ≤ t246
                  · rw [if_pos c22] at H
                    have c22b0 := eq_true c22
                    have c22b1 : decide (0 ≤ t246) = true := decide_eq_true c22
                    clear c22
                    by_cases c23 : t246 ≤ (x0_1.size : Int)
                    · rw [if_pos c23] at H
                      have c23b0 := eq_true c23
                      have c23b1 : decide (t246 ≤ (x0_1.size : Int)) = true := decide_eq_true c23
                      clear c23
                      by_cases c24 : x7_1.length < 8796093022208
                      · rw [if_pos c24] at H
                        have LMc24 := Aside0.mk c24
                        clear c24
                        obtain ⟨y256, hy256⟩ : ∃ y_ : List ByteArray, y_ = (x7_1 ++ [x0_1.extract 0 (t246 : Int).toNat]) := ⟨_, rfl⟩
                        replace H : (if 0 ≤ (wrap64 (t246 + (a1.size : Int))) then (if (wrap64 (t246 + (a1.size : Int))) ≤ (x0_1.size : Int) then (sprig_zzSplitN.l0 kj4 (x0_1.extract ((wrap64 (t246 + (a1.size : Int))) : Int).toNat x0_1.size) a1 a2 y256) else (none)) else (none)) = some r := by first | (rw [hy256]; with_reducible exact H) | (have H2_ := (Option.bind_some _ _).symm.trans H; rw [hy256]; with_reducible exact H2_) | (have H2_ := (Option.bind_some _ _).symm.trans H; with_reducible exact H2_) | with_reducible exact H | (rw [hy256]; exact H) | exact H
                        have Ny256 := Aside0.mk hy256
                        clear hy256
                        obtain ⟨ji25, hji25⟩ : ∃ j_ : Int, (wrap64 (t246 + (a1.size : Int))) = j_ := ⟨_, rfl⟩
                        replace H : (if 0 ≤ (ji25) then (if (ji25) ≤ (x0_1.size : Int) then (sprig_zzSplitN.l0 kj4 (x0_1.extract ((ji25) : Int).toNat x0_1.size) a1 a2 y256) else (none)) else (none)) = some r := by first | (rw [hji25] at H; exact H) | (simp only [hji25] at H ⊢; exact H)
                        (try rw [hji25] at A10)
                        have hji25w : (IntKind.i64.wrap (t246 + (a1.size : Int))) = ji25 := (i64_w _).trans hji25
                        by_cases c26 : 0 ≤ (ji25)
                        · rw [if_pos c26] at H
                          have c26b0 := eq_true c26
                          have c26b1 : decide (0 ≤ (ji25)) = true := decide_eq_true c26
                          clear c26
                          by_cases c27 : (ji25) ≤ (x0_1.size : Int)
                          · rw [if_pos c27] at H
                            have c27b0 := eq_true c27
                            have c27b1 : decide ((ji25) ≤ (x0_1.size : Int)) = true := decide_eq_true c27
                            clear c27
                            have H' := Aside0.mk H
                            clear H
                            go_wp2_with (first | ((with_reducible refine gate_callee (f := 34) rfl ?_); refine goesL_ (some 25) rfl rfl Tryd.func34 (by kernel_rfl) rfl #[.string x0_1] rfl (by (try simp only [List.map_toArray, List.map_cons, List.map_nil]); first | done | rfl | (simp only [List.length_drop, List.length_take]; rfl)) ?_; (with_reducible refine (utf8_DecodeRuneInString.calls x0_1 t245 t246 _ A10.out).mono ?_); rintro e w' ⟨rfl, ⟨nd, rfl⟩⟩; refine ⟨_, rfl, ?_⟩) | ((with_reducible refine gate_builtin (b := .append) (xs := #[.tmp 37, .tmp 41]) rfl ?_); (try (refine gate_guard (by rfl) ?_; dsimp only)); at_builtin; refine Kd.R_append Kd.string (w0 := w) w.heap.size rfl (.tmp 37) (.tmp 41) 35 9 (.string ⟨#[]⟩) 16 rfl Tryd.underlying35 info9 rfl (by decide) (by omega) u7 x7_1 (x0_1.extract 0 (t246 : Int).toNat) [.string (x0_1.extract 0 (t246 : Int).toNat)] (fun _ => True) (fun _ => False) rfl rfl ?aP (fun _ hk => hk.elim) ?aF ?aO ?aB ?aS ?aL ?_; (case aP => exact rfl); (case aB => exact (by repeat (first | (with_reducible first | exact HB.out | apply below_alloc | apply pw_below_drewN | apply below_drew1) | exact HB.out))); (case aF => exact (fun _ _ => trivial)); (case aO => exact (by (with_reducible repeat (first | apply Kd.R_alloc | apply Kd.R_drewN | apply Kd.R_drew)); exact HO_7.out)); (case aS => exact (below_size (by repeat (first | (with_reducible first | exact HB.out | apply below_alloc | apply pw_below_drewN | apply below_drew1) | exact HB.out)))); (case aL => have := LMc24.out; omega); intro v257 w28 ho hb hg hat; rw [← Ny256.out] at ho; have n0_ := Aside0.mk (hb); have n1_ := Aside0.mk (ho); clear HB; clear HO_7; have HB := n0_; have HO258 := n1_; clear n0_ n1_; clear ho hb hg hat))
                            go_roundg kj4
                            case measure => have := HK1.out; have := HJ4.out; omega
                            case rel => exact ⟨(x0_1.extract ((ji25) : Int).toNat x0_1.size), (y256), (by first | rfl | (simp; done) | (simp only [← hji25] <;> (first | rfl | simp)) | (simp [*]; done)), H', ⟨by have := HK1.out; have := HJ4.out; omega⟩, ⟨by (with_reducible repeat (first | apply Kd.R_alloc | apply Kd.R_drewN | apply Kd.R_drew)); first | exact HO258.out | (have h_ := HO258.out; simp only [Txt.own_map] at h_ ⊢; exact h_)⟩, ⟨by repeat (first | (with_reducible first | exact HB.out | apply below_alloc | apply pw_below_drewN | apply below_drew1) | exact HB.out)⟩⟩
                          · rw [if_neg c27] at H
                            exact absurd H (by simp)
                        · rw [if_neg c26] at H
                          exact absurd H (by simp)
                      · rw [if_neg c24] at H
                        exact absurd H (by simp)
                    · rw [if_neg c23] at H
                      exact absurd H (by simp)
                  · rw [if_neg c22] at H
                    exact absurd H (by simp)
              · rw [if_neg c9] at H
                have c9b0 : ((a1.size : Int) == 0) = false := beq_eq_false_iff_ne.mpr c9
                have c9b1 : ((a1.size : Int) != 0) = true := bne_iff_ne.mpr c9
                replace H := Option.bind_eq_some_iff.mp H
                obtain ⟨t259, A290, H⟩ := H
                replace H : (if t259 < 0 then (if x7_1.length < 8796093022208 then (some (x7_1 ++ [x0_1])) else (none)) else (if 0 ≤ t259 then (if t259 ≤ (x0_1.size : Int) then (if x7_1.length < 8796093022208 then (if 0 ≤ (wrap64 (t259 + (a1.size : Int))) then (if (wrap64 (t259 + (a1.size : Int))) ≤ (x0_1.size : Int) then (sprig_zzSplitN.l0 kj4 (x0_1.extract ((wrap64 (t259 + (a1.size : Int))) : Int).toNat x0_1.size) a1 a2 (x7_1 ++ [x0_1.extract 0 (t259 : Int).toNat])) else (none)) else (none)) else (none)) else (none)) else (none))) = some r := H
                have A29 := Aside0.mk A290
                clear A290
                by_cases c30 : t259 < 0
                · rw [if_pos c30] at H
                  have c30b0 : decide (t259 < 0) = true := decide_eq_true c30
                  clear c30
                  by_cases c31 : x7_1.length < 8796093022208
                  · rw [if_pos c31] at H
                    have LMc31 := Aside0.mk c31
                    clear c31
                    obtain ⟨y260, hy260⟩ : ∃ y_ : List ByteArray, y_ = (x7_1 ++ [x0_1]) := ⟨_, rfl⟩
                    replace H : (some y260) = some r := by first | (rw [hy260]; with_reducible exact H) | (have H2_ := (Option.bind_some _ _).symm.trans H; rw [hy260]; with_reducible exact H2_) | (have H2_ := (Option.bind_some _ _).symm.trans H; with_reducible exact H2_) | with_reducible exact H | (rw [hy260]; exact H) | exact H
                    have Ny260 := Aside0.mk hy260
                    clear hy260
                    obtain rfl := Option.some.inj H
                    go_wp2_with (first | ((with_reducible refine gate_callee (f := 59) rfl ?_); refine goesL_ (some 34) rfl rfl Tryd.func59 (by kernel_rfl) rfl #[.string x0_1, .string a1] rfl (by (try simp only [List.map_toArray, List.map_cons, List.map_nil]); first | done | rfl | (simp only [List.length_drop, List.length_take]; rfl)) ?_; (with_reducible refine (sprig_zzIndex.calls kj4 x0_1 a1 t259 _ A29.out).mono ?_); rintro e w' ⟨rfl, ⟨nd, rfl⟩⟩; refine ⟨_, rfl, ?_⟩) | ((with_reducible refine gate_builtin (b := .append) (xs := #[.tmp 63, .tmp 65]) rfl ?_); (try (refine gate_guard (by rfl) ?_; dsimp only)); at_builtin; refine Kd.R_append Kd.string (w0 := w) w.heap.size rfl (.tmp 63) (.tmp 65) 35 9 (.string ⟨#[]⟩) 16 rfl Tryd.underlying35 info9 rfl (by decide) (by omega) u7 x7_1 x0_1 [.string x0_1] (fun _ => True) (fun _ => False) rfl rfl ?aP (fun _ hk => hk.elim) ?aF ?aO ?aB ?aS ?aL ?_; (case aP => exact rfl); (case aB => exact (by repeat (first | (with_reducible first | exact HB.out | apply below_alloc | apply pw_below_drewN | apply below_drew1) | exact HB.out))); (case aF => exact (fun _ _ => trivial)); (case aO => exact (by (with_reducible repeat (first | apply Kd.R_alloc | apply Kd.R_drewN | apply Kd.R_drew)); exact HO_7.out)); (case aS => exact (below_size (by repeat (first | (with_reducible first | exact HB.out | apply below_alloc | apply pw_below_drewN | apply below_drew1) | exact HB.out)))); (case aL => have := LMc31.out; omega); intro v261 w32 ho hb hg hat; rw [← Ny260.out] at ho; have n0_ := Aside0.mk (hb); have n1_ := Aside0.mk (ho); clear HB; clear HO_7; have HB := n0_; have HO262 := n1_; clear n0_ n1_; clear ho hb hg hat))
                    go_ret
                    exact ⟨_, by first | rfl | (simp [errW_none, errW_some] <;> rfl) | (simp [*, errW_none, errW_some] <;> rfl), by (with_reducible repeat (first | apply Kd.R_alloc | apply Kd.R_drewN | apply Kd.R_drew)); exact HO262.out, by repeat (first | (with_reducible first | exact HB.out | apply below_alloc | apply pw_below_drewN | apply below_drew1) | exact HB.out)⟩
                  · rw [if_neg c31] at H
                    exact absurd H (by simp)
                · rw [if_neg c30] at H
                  have c30b0 : decide (t259 < 0) = false := decide_eq_false c30
                  clear c30
                  by_cases c33 : 0 ≤ t259
                  · rw [if_pos c33] at H
                    have c33b0 := eq_true c33
                    have c33b1 : decide (0 ≤ t259) = true := decide_eq_true c33
                    clear c33
                    by_cases c34 : t259 ≤ (x0_1.size : Int)
                    · rw [if_pos c34] at H
                      have c34b0 := eq_true c34
                      have c34b1 : decide (t259 ≤ (x0_1.size : Int)) = true := decide_eq_true c34
                      clear c34
                      by_cases c35 : x7_1.length < 8796093022208
                      · rw [if_pos c35] at H
                        have LMc35 := Aside0.mk c35
                        clear c35
                        obtain ⟨y263, hy263⟩ : ∃ y_ : List ByteArray, y_ = (x7_1 ++ [x0_1.extract 0 (t259 : Int).toNat]) := ⟨_, rfl⟩
                        replace H : (if 0 ≤ (wrap64 (t259 + (a1.size : Int))) then (if (wrap64 (t259 + (a1.size : Int))) ≤ (x0_1.size : Int) then (sprig_zzSplitN.l0 kj4 (x0_1.extract ((wrap64 (t259 + (a1.size : Int))) : Int).toNat x0_1.size) a1 a2 y263) else (none)) else (none)) = some r := by first | (rw [hy263]; with_reducible exact H) | (have H2_ := (Option.bind_some _ _).symm.trans H; rw [hy263]; with_reducible exact H2_) | (have H2_ := (Option.bind_some _ _).symm.trans H; with_reducible exact H2_) | with_reducible exact H | (rw [hy263]; exact H) | exact H
                        have Ny263 := Aside0.mk hy263
                        clear hy263
                        obtain ⟨ji36, hji36⟩ : ∃ j_ : Int, (wrap64 (t259 + (a1.size : Int))) = j_ := ⟨_, rfl⟩
                        replace H : (if 0 ≤ (ji36) then (if (ji36) ≤ (x0_1.size : Int) then (sprig_zzSplitN.l0 kj4 (x0_1.extract ((ji36) : Int).toNat x0_1.size) a1 a2 y263) else (none)) else (none)) = some r := by first | (rw [hji36] at H; exact H) | (simp only [hji36] at H ⊢; exact H)
                        (try rw [hji36] at A29)
                        have hji36w : (IntKind.i64.wrap (t259 + (a1.size : Int))) = ji36 := (i64_w _).trans hji36
                        by_cases c37 : 0 ≤ (ji36)
                        · rw [if_pos c37] at H
                          have c37b0 := eq_true c37
                          have c37b1 : decide (0 ≤ (ji36)) = true := decide_eq_true c37
                          clear c37
                          by_cases c38 : (ji36) ≤ (x0_1.size : Int)
                          · rw [if_pos c38] at H
                            have c38b0 := eq_true c38
                            have c38b1 : decide ((ji36) ≤ (x0_1.size : Int)) = true := decide_eq_true c38
                            clear c38
                            have H' := Aside0.mk H
                            clear H
                            go_wp2_with (first | ((with_reducible refine gate_callee (f := 59) rfl ?_); refine goesL_ (some 34) rfl rfl Tryd.func59 (by kernel_rfl) rfl #[.string x0_1, .string a1] rfl (by (try simp only [List.map_toArray, List.map_cons, List.map_nil]); first | done | rfl | (simp only [List.length_drop, List.length_take]; rfl)) ?_; (with_reducible refine (sprig_zzIndex.calls kj4 x0_1 a1 t259 _ A29.out).mono ?_); rintro e w' ⟨rfl, ⟨nd, rfl⟩⟩; refine ⟨_, rfl, ?_⟩) | ((with_reducible refine gate_builtin (b := .append) (xs := #[.tmp 37, .tmp 41]) rfl ?_); (try (refine gate_guard (by rfl) ?_; dsimp only)); at_builtin; refine Kd.R_append Kd.string (w0 := w) w.heap.size rfl (.tmp 37) (.tmp 41) 35 9 (.string ⟨#[]⟩) 16 rfl Tryd.underlying35 info9 rfl (by decide) (by omega) u7 x7_1 (x0_1.extract 0 (t259 : Int).toNat) [.string (x0_1.extract 0 (t259 : Int).toNat)] (fun _ => True) (fun _ => False) rfl rfl ?aP (fun _ hk => hk.elim) ?aF ?aO ?aB ?aS ?aL ?_; (case aP => exact rfl); (case aB => exact (by repeat (first | (with_reducible first | exact HB.out | apply below_alloc | apply pw_below_drewN | apply below_drew1) | exact HB.out))); (case aF => exact (fun _ _ => trivial)); (case aO => exact (by (with_reducible repeat (first | apply Kd.R_alloc | apply Kd.R_drewN | apply Kd.R_drew)); exact HO_7.out)); (case aS => exact (below_size (by repeat (first | (with_reducible first | exact HB.out | apply below_alloc | apply pw_below_drewN | apply below_drew1) | exact HB.out)))); (case aL => have := LMc35.out; omega); intro v264 w39 ho hb hg hat; rw [← Ny263.out] at ho; have n0_ := Aside0.mk (hb); have n1_ := Aside0.mk (ho); clear HB; clear HO_7; have HB := n0_; have HO265 := n1_; clear n0_ n1_; clear ho hb hg hat))
                            go_roundg kj4
                            case measure => have := HK1.out; have := HJ4.out; omega
                            case rel => exact ⟨(x0_1.extract ((ji36) : Int).toNat x0_1.size), (y263), (by first | rfl | (simp; done) | (simp only [← hji36] <;> (first | rfl | simp)) | (simp [*]; done)), H', ⟨by have := HK1.out; have := HJ4.out; omega⟩, ⟨by (with_reducible repeat (first | apply Kd.R_alloc | apply Kd.R_drewN | apply Kd.R_drew)); first | exact HO265.out | (have h_ := HO265.out; simp only [Txt.own_map] at h_ ⊢; exact h_)⟩, ⟨by repeat (first | (with_reducible first | exact HB.out | apply below_alloc | apply pw_below_drewN | apply below_drew1) | exact HB.out)⟩⟩
                          · rw [if_neg c38] at H
                            exact absurd H (by simp)
                        · rw [if_neg c37] at H
                          exact absurd H (by simp)
                      · rw [if_neg c35] at H
                        exact absurd H (by simp)
                    · rw [if_neg c34] at H
                      exact absurd H (by simp)
                  · rw [if_neg c33] at H
                    exact absurd H (by simp)
            · replace c8 := Bool.eq_false_iff.mpr c8
              subst c8
              have H1 : (if (a1.size : Int) = 0 then (if (x0_1.size : Int) = 0 then (if (x7_1.length : Int) = 0 then (some (([] : List ByteArray))) else (if x7_1.length < 8796093022208 then (some (x7_1 ++ [x0_1])) else (none))) else (if x7_1.length < 8796093022208 then (some (x7_1 ++ [x0_1])) else (none))) else (if x7_1.length < 8796093022208 then (some (x7_1 ++ [x0_1])) else (none))) = some r := by rw [if_neg (show ¬ (false = true) by decide)] at H; exact H
              clear H
              have H := H1
              clear H1
              by_cases c40 : (a1.size : Int) = 0
              · rw [if_pos c40] at H
                have c40b0 : ((a1.size : Int) == 0) = true := beq_iff_eq.mpr c40
                have c40b1 : ((a1.size : Int) != 0) = false := bne_eq_false_iff_eq.mpr c40
                clear c40
                by_cases c41 : (x0_1.size : Int) = 0
                · rw [if_pos c41] at H
                  have c41b0 : ((x0_1.size : Int) == 0) = true := beq_iff_eq.mpr c41
                  have c41b1 : ((x0_1.size : Int) != 0) = false := bne_eq_false_iff_eq.mpr c41
                  clear c41
                  by_cases c42 : (x7_1.length : Int) = 0
                  · rw [if_pos c42] at H
                    have c42b0 : ((x7_1.length : Int) == 0) = true := beq_iff_eq.mpr c42
                    have c42b1 : ((x7_1.length : Int) != 0) = false := bne_eq_false_iff_eq.mpr c42
                    clear c42
                    obtain ⟨y233, hy233⟩ : ∃ y_ : List ByteArray, y_ = (([] : List ByteArray)) := ⟨_, rfl⟩
                    replace H : (some y233) = some r := by first | (rw [hy233]; with_reducible exact H) | (have H2_ := (Option.bind_some _ _).symm.trans H; rw [hy233]; with_reducible exact H2_) | (have H2_ := (Option.bind_some _ _).symm.trans H; with_reducible exact H2_) | with_reducible exact H | (rw [hy233]; exact H) | exact H
                    have Ny233 := Aside0.mk hy233
                    clear hy233
                    obtain rfl := Option.some.inj H
                    obtain ⟨Ao43, co43, eo43⟩ := Kd.R_slice HO_7.out
                    subst eo43
                    go_wp2_with (first | ((with_reducible refine gate_dst (N := 62) rfl ?_); (try (refine gate_guard (by rfl) ?_; dsimp only)); refine Kd.R_lit Kd.string _ 9 ?hg (N := 62) ?hd (xs := ([] : List ByteArray)) (inner := []) (ok := fun _ => True) (okp := fun _ => True) ?hr ?hp (fun _ hk => hk) trivial (Below.refl _ _) (Nat.le_refl _) (by simp) ?_; (case hd => rfl); (case hg => rfl); (case hr => first | (go_simp; done) | (go_simp; rfl)); (case hp => exact (Reps.none _ _)); intro v234 w44 ho45 hb hg_ hnew_; clear hg_ hnew_; (first | rw [← Ny233.out] at ho45 | (simp only [Int.reduceToNat] at ho45; rw [← Ny233.out] at ho45)); have n0_ := Aside0.mk (Kd.R_elder' (by (with_reducible repeat (first | apply Kd.R_alloc | apply Kd.R_drewN | apply Kd.R_drew)); exact HO_7.out) (Kd.R_base ho45) hb); have n1_ := Aside0.mk (Kd.R_lower (Kd.R_new' ho45 (Kd.R_lt (by (with_reducible repeat (first | apply Kd.R_alloc | apply Kd.R_drewN | apply Kd.R_drew)); exact HO_7.out))) (below_size (by repeat (first | (with_reducible first | exact HB.out | apply below_alloc | apply pw_below_drewN | apply below_drew1) | exact HB.out)))); have n2_ := Aside0.mk (below_step (by repeat (first | (with_reducible first | exact HB.out | apply below_alloc | apply pw_below_drewN | apply below_drew1) | exact HB.out)) hb); clear HO_7; clear HB; have HO_7 := n0_; have HO235 := n1_; have HB := n2_; clear n0_ n1_ n2_; clear hb ho45))
                    go_ret
                    exact ⟨_, by first | rfl | (simp [errW_none, errW_some] <;> rfl) | (simp [*, errW_none, errW_some] <;> rfl), by (with_reducible repeat (first | apply Kd.R_alloc | apply Kd.R_drewN | apply Kd.R_drew)); exact Kd.R_mono HO235.out (fun _ hk => trivial), by repeat (first | (with_reducible first | exact HB.out | apply below_alloc | apply pw_below_drewN | apply below_drew1) | exact HB.out)⟩
                  · rw [if_neg c42] at H
                    have c42b0 : ((x7_1.length : Int) == 0) = false := beq_eq_false_iff_ne.mpr c42
                    have c42b1 : ((x7_1.length : Int) != 0) = true := bne_iff_ne.mpr c42
                    have c42b2 : ¬ (x7_1 = []) := fun h_ => c42 (by rw [h_]; rfl)
                    by_cases c46 : x7_1.length < 8796093022208
                    · rw [if_pos c46] at H
                      have LMc46 := Aside0.mk c46
                      clear c46
                      obtain ⟨y236, hy236⟩ : ∃ y_ : List ByteArray, y_ = (x7_1 ++ [x0_1]) := ⟨_, rfl⟩
                      replace H : (some y236) = some r := by first | (rw [hy236]; with_reducible exact H) | (have H2_ := (Option.bind_some _ _).symm.trans H; rw [hy236]; with_reducible exact H2_) | (have H2_ := (Option.bind_some _ _).symm.trans H; with_reducible exact H2_) | with_reducible exact H | (rw [hy236]; exact H) | exact H
                      have Ny236 := Aside0.mk hy236
                      clear hy236
                      obtain rfl := Option.some.inj H
                      obtain ⟨Ao47, co47, eo47⟩ := Kd.R_slice HO_7.out
                      subst eo47
                      go_wp2_with (first | ((with_reducible refine gate_builtin (b := .append) (xs := #[.tmp 63, .tmp 65]) rfl ?_); (try (refine gate_guard (by rfl) ?_; dsimp only)); at_builtin; refine Kd.R_append Kd.string (w0 := w) w.heap.size rfl (.tmp 63) (.tmp 65) 35 9 (.string ⟨#[]⟩) 16 rfl Tryd.underlying35 info9 rfl (by decide) (by omega) (.slice Ao47 x7_1.length co47) x7_1 x0_1 [.string x0_1] (fun _ => True) (fun _ => False) rfl rfl ?aP (fun _ hk => hk.elim) ?aF ?aO ?aB ?aS ?aL ?_; (case aP => exact rfl); (case aB => exact (by repeat (first | (with_reducible first | exact HB.out | apply below_alloc | apply pw_below_drewN | apply below_drew1) | exact HB.out))); (case aF => exact (fun _ _ => trivial)); (case aO => exact (by (with_reducible repeat (first | apply Kd.R_alloc | apply Kd.R_drewN | apply Kd.R_drew)); exact HO_7.out)); (case aS => exact (below_size (by repeat (first | (with_reducible first | exact HB.out | apply below_alloc | apply pw_below_drewN | apply below_drew1) | exact HB.out)))); (case aL => have := LMc46.out; omega); intro v237 w48 ho hb hg hat; rw [← Ny236.out] at ho; have n0_ := Aside0.mk (hb); have n1_ := Aside0.mk (ho); clear HB; clear HO_7; have HB := n0_; have HO238 := n1_; clear n0_ n1_; clear ho hb hg hat))
                      go_ret
                      exact ⟨_, by first | rfl | (simp [errW_none, errW_some] <;> rfl) | (simp [*, errW_none, errW_some] <;> rfl), by (with_reducible repeat (first | apply Kd.R_alloc | apply Kd.R_drewN | apply Kd.R_drew)); exact HO238.out, by repeat (first | (with_reducible first | exact HB.out | apply below_alloc | apply pw_below_drewN | apply below_drew1) | exact HB.out)⟩
                    · rw [if_neg c46] at H
                      exact absurd H (by simp)
                · rw [if_neg c41] at H
                  have c41b0 : ((x0_1.size : Int) == 0) = false := beq_eq_false_iff_ne.mpr c41
                  have c41b1 : ((x0_1.size : Int) != 0) = true := bne_iff_ne.mpr c41
                  by_cases c49 : x7_1.length < 8796093022208
                  · rw [if_pos c49] at H
                    have LMc49 := Aside0.mk c49
                    clear c49
                    obtain ⟨y239, hy239⟩ : ∃ y_ : List ByteArray, y_ = (x7_1 ++ [x0_1]) := ⟨_, rfl⟩
                    replace H : (some y239) = some r := by first | (rw [hy239]; with_reducible exact H) | (have H2_ := (Option.bind_some _ _).symm.trans H; rw [hy239]; with_reducible exact H2_) | (have H2_ := (Option.bind_some _ _).symm.trans H; with_reducible exact H2_) | with_reducible exact H | (rw [hy239]; exact H) | exact H
                    have Ny239 := Aside0.mk hy239
                    clear hy239
                    obtain rfl := Option.some.inj H
                    go_wp2_with (first | ((with_reducible refine gate_builtin (b := .append) (xs := #[.tmp 63, .tmp 65]) rfl ?_); (try (refine gate_guard (by rfl) ?_; dsimp only)); at_builtin; refine Kd.R_append Kd.string (w0 := w) w.heap.size rfl (.tmp 63) (.tmp 65) 35 9 (.string ⟨#[]⟩) 16 rfl Tryd.underlying35 info9 rfl (by decide) (by omega) u7 x7_1 x0_1 [.string x0_1] (fun _ => True) (fun _ => False) rfl rfl ?aP (fun _ hk => hk.elim) ?aF ?aO ?aB ?aS ?aL ?_; (case aP => exact rfl); (case aB => exact (by repeat (first | (with_reducible first | exact HB.out | apply below_alloc | apply pw_below_drewN | apply below_drew1) | exact HB.out))); (case aF => exact (fun _ _ => trivial)); (case aO => exact (by (with_reducible repeat (first | apply Kd.R_alloc | apply Kd.R_drewN | apply Kd.R_drew)); exact HO_7.out)); (case aS => exact (below_size (by repeat (first | (with_reducible first | exact HB.out | apply below_alloc | apply pw_below_drewN | apply below_drew1) | exact HB.out)))); (case aL => have := LMc49.out; omega); intro v240 w50 ho hb hg hat; rw [← Ny239.out] at ho; have n0_ := Aside0.mk (hb); have n1_ := Aside0.mk (ho); clear HB; clear HO_7; have HB := n0_; have HO241 := n1_; clear n0_ n1_; clear ho hb hg hat))
                    go_ret
                    exact ⟨_, by first | rfl | (simp [errW_none, errW_some] <;> rfl) | (simp [*, errW_none, errW_some] <;> rfl), by (with_reducible repeat (first | apply Kd.R_alloc | apply Kd.R_drewN | apply Kd.R_drew)); exact HO241.out, by repeat (first | (with_reducible first | exact HB.out | apply below_alloc | apply pw_below_drewN | apply below_drew1) | exact HB.out)⟩
                  · rw [if_neg c49] at H
                    exact absurd H (by simp)
              · rw [if_neg c40] at H
                have c40b0 : ((a1.size : Int) == 0) = false := beq_eq_false_iff_ne.mpr c40
                have c40b1 : ((a1.size : Int) != 0) = true := bne_iff_ne.mpr c40
                by_cases c51 : x7_1.length < 8796093022208
                · rw [if_pos c51] at H
                  have LMc51 := Aside0.mk c51
                  clear c51
                  obtain ⟨y242, hy242⟩ : ∃ y_ : List ByteArray, y_ = (x7_1 ++ [x0_1]) := ⟨_, rfl⟩
                  replace H : (some y242) = some r := by first | (rw [hy242]; with_reducible exact H) | (have H2_ := (Option.bind_some _ _).symm.trans H; rw [hy242]; with_reducible exact H2_) | (have H2_ := (Option.bind_some _ _).symm.trans H; with_reducible exact H2_) | with_reducible exact H | (rw [hy242]; exact H) | exact H
                  have Ny242 := Aside0.mk hy242
                  clear hy242
                  obtain rfl := Option.some.inj H
                  go_wp2_with (first | ((with_reducible refine gate_builtin (b := .append) (xs := #[.tmp 63, .tmp 65]) rfl ?_); (try (refine gate_guard (by rfl) ?_; dsimp only)); at_builtin; refine Kd.R_append Kd.string (w0 := w) w.heap.size rfl (.tmp 63) (.tmp 65) 35 9 (.string ⟨#[]⟩) 16 rfl Tryd.underlying35 info9 rfl (by decide) (by omega) u7 x7_1 x0_1 [.string x0_1] (fun _ => True) (fun _ => False) rfl rfl ?aP (fun _ hk => hk.elim) ?aF ?aO ?aB ?aS ?aL ?_; (case aP => exact rfl); (case aB => exact (by repeat (first | (with_reducible first | exact HB.out | apply below_alloc | apply pw_below_drewN | apply below_drew1) | exact HB.out))); (case aF => exact (fun _ _ => trivial)); (case aO => exact (by (with_reducible repeat (first | apply Kd.R_alloc | apply Kd.R_drewN | apply Kd.R_drew)); exact HO_7.out)); (case aS => exact (below_size (by repeat (first | (with_reducible first | exact HB.out | apply below_alloc | apply pw_below_drewN | apply below_drew1) | exact HB.out)))); (case aL => have := LMc51.out; omega); intro v243 w52 ho hb hg hat; rw [← Ny242.out] at ho; have n0_ := Aside0.mk (hb); have n1_ := Aside0.mk (ho); clear HB; clear HO_7; have HB := n0_; have HO244 := n1_; clear n0_ n1_; clear ho hb hg hat))
                  go_ret
                  exact ⟨_, by first | rfl | (simp [errW_none, errW_some] <;> rfl) | (simp [*, errW_none, errW_some] <;> rfl), by (with_reducible repeat (first | apply Kd.R_alloc | apply Kd.R_drewN | apply Kd.R_drew)); exact HO244.out, by repeat (first | (with_reducible first | exact HB.out | apply below_alloc | apply pw_below_drewN | apply below_drew1) | exact HB.out)⟩
                · rw [if_neg c51] at H
                  exact absurd H (by simp)

/-! ### spec_decimal: function 39 -/
def spec_decimal.l0 : Nat → Int → ByteArray → Option (ByteArray)
  | 0, _, _ => none
  | k + 1, x0, x3 => if x0 > 9 then ((some (([((48 + (Int.tmod x0 10)) % 4294967296) % 256] : List Int) : List Int)).bind fun y285 => (if (strOfNums y285).size + x3.size ≤ 9223372036854775807 then (spec_decimal.l0 k ((Int.tdiv x0 10) % 4294967296) ((strOfNums y285) ++ x3)) else (none))) else ((some (([((48 + x0) % 4294967296) % 256] : List Int) : List Int)).bind fun y288 => (if (strOfNums y288).size + x3.size ≤ 9223372036854775807 then (some ((strOfNums y288) ++ x3)) else (none)))
def spec_decimal.f (k : Nat) (a0 : Int) : Option (ByteArray) := spec_decimal.l0 k a0 (⟨#[]⟩ : ByteArray)
theorem spec_decimal.mono_l : ∀ k, (∀ y0 y1, LeO (spec_decimal.l0 k y0 y1) (spec_decimal.l0 (k + 1) y0 y1))
  | 0 => fun _ _ r h => by simp [spec_decimal.l0] at h
  | k + 1 => by
    have ih0 := spec_decimal.mono_l k
    · intro y0 y1
      unfold spec_decimal.l0
      repeat' first
      | (with_reducible exact ih0 _ _)
      | (with_reducible exact LeO.refl _)
      | (with_reducible exact LeO.none _)
      | (with_reducible refine LeO.ite ?_ ?_)
      | (with_reducible refine LeO.bind ?_ (fun _ => ?_))
      | exact ih0 _ _
      | exact LeO.none _
      | refine LeO.ite ?_ ?_
      | refine LeO.bind ?_ (fun _ => ?_)
theorem spec_decimal.mono : ∀ a0 k, LeO (spec_decimal.f k a0) (spec_decimal.f (k + 1) a0) := by
  intro a0 k
  have ih0 := spec_decimal.mono_l k
  unfold spec_decimal.f
  repeat' first
      | (with_reducible exact ih0 _ _)
      | (with_reducible exact LeO.refl _)
      | (with_reducible exact LeO.none _)
      | (with_reducible refine LeO.ite ?_ ?_)
      | (with_reducible refine LeO.bind ?_ (fun _ => ?_))
      | exact ih0 _ _
      | exact LeO.none _
      | refine LeO.ite ?_ ?_
      | refine LeO.bind ?_ (fun _ => ?_)
set_option maxHeartbeats 8000000 in
set_option maxRecDepth 100000 in
theorem spec_decimal.calls (k : Nat) (a0 : Int) (r : ByteArray) (w : World) (h : spec_decimal.f k a0 = some r) :
    Calls Tryd.prog 39 #[.int .u32 a0] w fun e w' => e = .returned (.string r) ∧ Below w.heap.size w w' := by
  have HB := Aside0.mk (Below.refl w.heap.size w)
  have H : (spec_decimal.l0 k a0 (⟨#[]⟩ : ByteArray)) = some r := h
  clear h
  have H' := Aside0.mk H
  clear H
  go_enter Tryd.func39, Tryd.ntmps39
  go_wp2
  go_loopg [0, 3] k (fun kq v0 v3 w' => ∃ (x0_1 : Int) (x3_1 : ByteArray), v0 = .int .u32 x0_1 ∧ v3 = .string x3_1 ∧ Aside0 (spec_decimal.l0 kq x0_1 x3_1 = some r) ∧ Aside0 (kq ≤ k) ∧ Aside0 (Below w.heap.size w w'))
  case atStart => exact ⟨(a0), ((⟨#[]⟩ : ByteArray)), (by first | rfl | (simp; done) | (simp [*]; done)), (by first | rfl | (simp; done) | (simp [*]; done)), H', ⟨Nat.le_refl _⟩, ⟨by repeat (first | (with_reducible first | exact HB.out | apply below_alloc | apply pw_below_drewN | apply below_drew1) | exact HB.out)⟩⟩
  case round =>
    clear H'
    obtain ⟨x0_1, x3_1, rfl, rfl, HA, HK1, HB⟩ := hrel
    cases gk with
    | zero => exact absurd HA.out (by simp [spec_decimal.l0])
    | succ k1 =>
      have H := HA.out
      clear HA
      simp only [spec_decimal.l0] at H
      by_cases c2 : x0_1 > 9
      · rw [if_pos c2] at H
        have c2b0 : decide (9 < x0_1) = true := decide_eq_true c2
        clear c2
        obtain ⟨y285, hy285⟩ : ∃ y_ : List Int, y_ = (([((48 + (Int.tmod x0_1 10)) % 4294967296) % 256] : List Int)) := ⟨_, rfl⟩
        replace H : (if (strOfNums y285).size + x3_1.size ≤ 9223372036854775807 then (spec_decimal.l0 k1 ((Int.tdiv x0_1 10) % 4294967296) ((strOfNums y285) ++ x3_1)) else (none)) = some r := by first | (rw [hy285]; with_reducible exact H) | (have H2_ := (Option.bind_some _ _).symm.trans H; rw [hy285]; with_reducible exact H2_) | (have H2_ := (Option.bind_some _ _).symm.trans H; with_reducible exact H2_) | with_reducible exact H | (rw [hy285]; exact H) | exact H
        have Ny285 := Aside0.mk hy285
        clear hy285
        by_cases c3 : (strOfNums y285).size + x3_1.size ≤ 9223372036854775807
        · rw [if_pos c3] at H
          have c3b0 := eq_true c3
          have c3b1 : decide ((strOfNums y285).size + x3_1.size ≤ 9223372036854775807) = true := decide_eq_true c3
          try have c3b2 : (9223372036854775807 < (strOfNums y285).size + x3_1.size) = False := eq_false (Nat.not_lt.2 c3)
          have H' := Aside0.mk H
          clear H
          go_wp2_with (first | ((with_reducible refine gate_dst (N := 10) rfl ?_); refine Kd.R_lit (Kd.int .u8) _ 5 ?hg (N := 10) ?hd (xs := ([((48 + (Int.tmod x0_1 10)) % 4294967296) % 256] : List Int)) (inner := [.int .u8 (((48 + (Int.tmod x0_1 10)) % 4294967296) % 256)]) (ok := fun _ => True) (okp := fun _ => True) ?hr ?hp (fun _ hk => hk) trivial (Below.refl _ _) (Nat.le_refl _) (by simp) ?_; (case hd => rfl); (case hg => rfl); (case hr => first | (go_simp; done) | (go_simp; rfl)); (case hp => exact (Reps.one (show Kd.M (Kd.int .u8) _ _ _ (((48 + (Int.tmod x0_1 10)) % 4294967296) % 256) [.int .u8 (((48 + (Int.tmod x0_1 10)) % 4294967296) % 256)] from rfl) (Reps.none _ _))); intro v286 w4 ho5 hb hg_ hnew_; clear hg_ hnew_; (first | rw [← Ny285.out] at ho5 | (simp only [Int.reduceToNat] at ho5; rw [← Ny285.out] at ho5)); have n0_ := Aside0.mk (Kd.R_lower ho5 (below_size (by repeat (first | (with_reducible first | exact HB.out | apply below_alloc | apply pw_below_drewN | apply below_drew1) | exact HB.out)))); have n1_ := Aside0.mk (below_step (by repeat (first | (with_reducible first | exact HB.out | apply below_alloc | apply pw_below_drewN | apply below_drew1) | exact HB.out)) hb); clear HB; have HO287 := n0_; have HB := n1_; clear n0_ n1_; clear hb ho5; have hcv6 := own_string (P := Tryd.prog) Tryd.underlying94 Tryd.underlying5 Tryd.underlying9 (Kd.own_of_R HO287.out)))
          go_roundg k1
          case measure => have := HK1.out; omega
          case rel => exact ⟨((Int.tdiv x0_1 10) % 4294967296), ((strOfNums y285) ++ x3_1), (by first | rfl | (simp; done) | (simp [*]; done)), (by first | rfl | (simp; done) | (simp [*]; done)), H', ⟨by have := HK1.out; omega⟩, ⟨by repeat (first | (with_reducible first | exact HB.out | apply below_alloc | apply pw_below_drewN | apply below_drew1) | exact HB.out)⟩⟩
        · rw [if_neg c3] at H
          exact absurd H (by simp)
      · rw [if_neg c2] at H
        have c2b0 : decide (9 < x0_1) = false := decide_eq_false c2
        clear c2
        obtain ⟨y288, hy288⟩ : ∃ y_ : List Int, y_ = (([((48 + x0_1) % 4294967296) % 256] : List Int)) := ⟨_, rfl⟩
        replace H : (if (strOfNums y288).size + x3_1.size ≤ 9223372036854775807 then (some ((strOfNums y288) ++ x3_1)) else (none)) = some r := by first | (rw [hy288]; with_reducible exact H) | (have H2_ := (Option.bind_some _ _).symm.trans H; rw [hy288]; with_reducible exact H2_) | (have H2_ := (Option.bind_some _ _).symm.trans H; with_reducible exact H2_) | with_reducible exact H | (rw [hy288]; exact H) | exact H
        have Ny288 := Aside0.mk hy288
        clear hy288
        by_cases c7 : (strOfNums y288).size + x3_1.size ≤ 9223372036854775807
        · rw [if_pos c7] at H
          have c7b0 := eq_true c7
          have c7b1 : decide ((strOfNums y288).size + x3_1.size ≤ 9223372036854775807) = true := decide_eq_true c7
          try have c7b2 : (9223372036854775807 < (strOfNums y288).size + x3_1.size) = False := eq_false (Nat.not_lt.2 c7)
          obtain rfl := Option.some.inj H
          go_wp2_with (first | ((with_reducible refine gate_dst (N := 19) rfl ?_); refine Kd.R_lit (Kd.int .u8) _ 5 ?hg (N := 19) ?hd (xs := ([((48 + x0_1) % 4294967296) % 256] : List Int)) (inner := [.int .u8 (((48 + x0_1) % 4294967296) % 256)]) (ok := fun _ => True) (okp := fun _ => True) ?hr ?hp (fun _ hk => hk) trivial (Below.refl _ _) (Nat.le_refl _) (by simp) ?_; (case hd => rfl); (case hg => rfl); (case hr => first | (go_simp; done) | (go_simp; rfl)); (case hp => exact (Reps.one (show Kd.M (Kd.int .u8) _ _ _ (((48 + x0_1) % 4294967296) % 256) [.int .u8 (((48 + x0_1) % 4294967296) % 256)] from rfl) (Reps.none _ _))); intro v289 w8 ho9 hb hg_ hnew_; clear hg_ hnew_; (first | rw [← Ny288.out] at ho9 | (simp only [Int.reduceToNat] at ho9; rw [← Ny288.out] at ho9)); have n0_ := Aside0.mk (Kd.R_lower ho9 (below_size (by repeat (first | (with_reducible first | exact HB.out | apply below_alloc | apply pw_below_drewN | apply below_drew1) | exact HB.out)))); have n1_ := Aside0.mk (below_step (by repeat (first | (with_reducible first | exact HB.out | apply below_alloc | apply pw_below_drewN | apply below_drew1) | exact HB.out)) hb); clear HB; have HO290 := n0_; have HB := n1_; clear n0_ n1_; clear hb ho9; have hcv10 := own_string (P := Tryd.prog) Tryd.underlying94 Tryd.underlying5 Tryd.underlying9 (Kd.own_of_R HO290.out)))
          go_ret
          exact ⟨by first | rfl | (simp [errW_none, errW_some] <;> rfl) | (simp [*, errW_none, errW_some] <;> rfl), by repeat (first | (with_reducible first | exact HB.out | apply below_alloc | apply pw_below_drewN | apply below_drew1) | exact HB.out)⟩
        · rw [if_neg c7] at H
          exact absurd H (by simp)

/-! ### spec_Number: function 30 -/
def spec_Number.f (k : Nat) (a0 : Int) : Option (ByteArray) := (spec_decimal.f k ((a0) % 4294967296)).bind fun t291 => (some t291)
theorem spec_Number.mono : ∀ a0 k, LeO (spec_Number.f k a0) (spec_Number.f (k + 1) a0) := by
  intro a0 k
  unfold spec_Number.f
  repeat' first
      | (with_reducible exact spec_decimal.mono _ _)
      | (with_reducible exact LeO.refl _)
      | (with_reducible exact LeO.none _)
      | (with_reducible refine LeO.ite ?_ ?_)
      | (with_reducible refine LeO.bind ?_ (fun _ => ?_))
      | exact spec_decimal.mono _ _
      | exact LeO.none _
      | refine LeO.ite ?_ ?_
      | refine LeO.bind ?_ (fun _ => ?_)
set_option maxHeartbeats 8000000 in
set_option maxRecDepth 100000 in
theorem spec_Number.calls (k : Nat) (a0 : Int) (r : ByteArray) (w : World) (h : spec_Number.f k a0 = some r) :
    Calls Tryd.prog 30 #[.int .i64 a0] w fun e w' => e = .returned (.string r) ∧ Below w.heap.size w w' := by
  have HB := Aside0.mk (Below.refl w.heap.size w)
  have H : ((spec_decimal.f k ((a0) % 4294967296)).bind fun t291 => (some t291)) = some r := h
  clear h
  replace H := Option.bind_eq_some_iff.mp H
  obtain ⟨t291, A20, H⟩ := H
  replace H : (some t291) = some r := H
  have A2 := Aside0.mk A20
  clear A20
  obtain rfl := Option.some.inj H
  go_enter Tryd.func30, Tryd.ntmps30
  go_wp2_with (first | ((with_reducible refine gate_callee (f := 39) rfl ?_); refine goesL_ (some 5) rfl rfl Tryd.func39 (by kernel_rfl) rfl #[.int .u32 ((a0) % 4294967296)] rfl (by (try simp only [List.map_toArray, List.map_cons, List.map_nil]); first | done | rfl | (simp only [List.length_drop, List.length_take]; rfl)) ?_; (with_reducible refine (spec_decimal.calls k ((a0) % 4294967296) t291 _ A2.out).mono ?_); rintro e w3 ⟨rfl, hb⟩; refine ⟨_, rfl, ?_⟩; have n0_ := Aside0.mk (below_step (by repeat (first | (with_reducible first | exact HB.out | apply below_alloc | apply pw_below_drewN | apply below_drew1) | exact HB.out)) hb); clear HB; have HB := n0_; clear n0_; (try clear hb); (try clear hb2); (try clear hk); (try clear hi)))
  go_ret
  exact ⟨by first | rfl | (simp [errW_none, errW_some] <;> rfl) | (simp [*, errW_none, errW_some] <;> rfl), by repeat (first | (with_reducible first | exact HB.out | apply below_alloc | apply pw_below_drewN | apply below_drew1) | exact HB.out)⟩

-- NOT PRINTED: function 16 (laws_parted9)

-- NOT PRINTED: function 5 (laws_FnSplitn)


end Go.Proofs.YtjaeihbfkmflkaaDoor.PFnSplitn
