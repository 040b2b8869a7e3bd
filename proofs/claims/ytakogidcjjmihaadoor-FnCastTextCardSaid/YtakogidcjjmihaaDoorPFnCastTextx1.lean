-- PRINTED BY print.sh 35421559b90ae4d0a3588c463048766b98c2df88dd9212a6774a882060cdf62d: not written by this session
import Derived.Test.YtakogidcjjmihaaDoorPFnCastTextx0
namespace Go.Proofs.YtakogidcjjmihaaDoor.PFnCastText
open Go.RowKit Go.Proofs.YtakogidcjjmihaaDoorW.PrintWords Go.Proofs.YtakogidcjjmihaaDoorW.PrintLast Go.Proofs.YtakogidcjjmihaaDoorW.PrintMore
attribute [local go_sem] max2_int min2_int max_two min_two max_three min_three max_four min_four   -- for this text's walks alone
set_option linter.unusedVariables false
set_option linter.unusedSimpArgs false

/-! ### laws_base7: function 4 -/
def laws_base7.l0 : Nat → Int → Int → ByteArray → Option (ByteArray)
  | 0, _, _, _ => none
  | k + 1, x0, x1, x5 => if x0 > 0 then (if x1 = 0 then (none) else (if 0 ≤ (Int.tmod x0 x1) then (if (Int.tmod x0 x1) ≤ (IntKind.u64.wrap ((Int.tmod x0 x1) + 1)) then (if (IntKind.u64.wrap ((Int.tmod x0 x1) + 1)) ≤ 16 then (if ((⟨#[48, 49, 50, 51, 52, 53, 54, 55, 56, 57, 97, 98, 99, 100, 101, 102]⟩ : ByteArray).extract ((Int.tmod x0 x1) : Int).toNat ((IntKind.u64.wrap ((Int.tmod x0 x1) + 1)) : Int).toNat).size + x5.size ≤ 9223372036854775807 then (laws_base7.l0 k (IntKind.u64.wrap (Int.tdiv x0 x1)) x1 (((⟨#[48, 49, 50, 51, 52, 53, 54, 55, 56, 57, 97, 98, 99, 100, 101, 102]⟩ : ByteArray).extract ((Int.tmod x0 x1) : Int).toNat ((IntKind.u64.wrap ((Int.tmod x0 x1) + 1)) : Int).toNat) ++ x5)) else (none)) else (none)) else (none)) else (none))) else (if x5.toList = ([] : List UInt8) then (if x1 = 0 then (none) else (if 0 ≤ (Int.tmod x0 x1) then (if (Int.tmod x0 x1) ≤ (IntKind.u64.wrap ((Int.tmod x0 x1) + 1)) then (if (IntKind.u64.wrap ((Int.tmod x0 x1) + 1)) ≤ 16 then (if ((⟨#[48, 49, 50, 51, 52, 53, 54, 55, 56, 57, 97, 98, 99, 100, 101, 102]⟩ : ByteArray).extract ((Int.tmod x0 x1) : Int).toNat ((IntKind.u64.wrap ((Int.tmod x0 x1) + 1)) : Int).toNat).size + x5.size ≤ 9223372036854775807 then (laws_base7.l0 k (IntKind.u64.wrap (Int.tdiv x0 x1)) x1 (((⟨#[48, 49, 50, 51, 52, 53, 54, 55, 56, 57, 97, 98, 99, 100, 101, 102]⟩ : ByteArray).extract ((Int.tmod x0 x1) : Int).toNat ((IntKind.u64.wrap ((Int.tmod x0 x1) + 1)) : Int).toNat) ++ x5)) else (none)) else (none)) else (none)) else (none))) else (some x5))
def laws_base7.f (k : Nat) (a0 : Int) (a1 : Int) : Option (ByteArray) := laws_base7.l0 k a0 a1 (⟨#[]⟩ : ByteArray)
theorem laws_base7.mono_l : ∀ k, (∀ y0 y1 y2, LeO (laws_base7.l0 k y0 y1 y2) (laws_base7.l0 (k + 1) y0 y1 y2))
  | 0 => fun _ _ _ r h => by simp [laws_base7.l0] at h
  | k + 1 => by
    have ih0 := laws_base7.mono_l k
    · intro y0 y1 y2
      unfold laws_base7.l0
      repeat' first
      | (with_reducible exact ih0 _ _ _)
      | (with_reducible exact LeO.refl _)
      | (with_reducible exact LeO.none _)
      | (with_reducible refine LeO.ite ?_ ?_)
      | (with_reducible refine LeO.bind ?_ (fun _ => ?_))
      | exact ih0 _ _ _
      | exact LeO.none _
      | refine LeO.ite ?_ ?_
      | refine LeO.bind ?_ (fun _ => ?_)
theorem laws_base7.mono : ∀ a0 a1 k, LeO (laws_base7.f k a0 a1) (laws_base7.f (k + 1) a0 a1) := by
  intro a0 a1 k
  have ih0 := laws_base7.mono_l k
  unfold laws_base7.f
  repeat' first
      | (with_reducible exact ih0 _ _ _)
      | (with_reducible exact LeO.refl _)
      | (with_reducible exact LeO.none _)
      | (with_reducible refine LeO.ite ?_ ?_)
      | (with_reducible refine LeO.bind ?_ (fun _ => ?_))
      | exact ih0 _ _ _
      | exact LeO.none _
      | refine LeO.ite ?_ ?_
      | refine LeO.bind ?_ (fun _ => ?_)
set_option maxHeartbeats 8000000 in
set_option maxRecDepth 100000 in
theorem laws_base7.calls (k : Nat) (a0 : Int) (a1 : Int) (r : ByteArray) (w : World) (h : laws_base7.f k a0 a1 = some r) :
    Calls Tryd.prog 4 #[.int .u64 a0, .int .u64 a1] w fun e w' => e = .returned (.string r) ∧ Drawn0 w w' := by
  have H : (laws_base7.l0 k a0 a1 (⟨#[]⟩ : ByteArray)) = some r := h
  clear h
  have H' := Aside0.mk H
  clear H
  go_enter Tryd.func4, Tryd.ntmps4
  go_wp2
  repeat (go_quiet (fail); try go_wp2)
  go_loopg [0, 5] k (fun kq v0 v5 w' => ∃ (x0_1 : Int) (x5_1 : ByteArray), v0 = .int .u64 x0_1 ∧ v5 = .string x5_1 ∧ Aside0 (laws_base7.l0 kq x0_1 a1 x5_1 = some r) ∧ Aside0 (kq ≤ k) ∧ Drawn0 w w')
  case atStart => exact ⟨(a0), ((⟨#[]⟩ : ByteArray)), (by first | rfl | (simp; done) | (simp [*]; done)), (by first | rfl | (simp; done) | (simp [*]; done)), H', ⟨Nat.le_refl _⟩, by repeat (first | exact Drawn0.refl _ | apply Drawn0.step)⟩
  case round =>
    clear H'
    try clear p2
    obtain ⟨x0_1, x5_1, rfl, rfl, HA, HK1, ⟨m1, rfl⟩⟩ := hrel
    cases gk with
    | zero => exact absurd HA.out (by simp [laws_base7.l0])
    | succ k1 =>
      have H := HA.out
      clear HA
      simp only [laws_base7.l0] at H
      by_cases c3 : x0_1 > 0
      · rw [if_pos c3] at H
        have c3b0 : decide (0 < x0_1) = true := decide_eq_true c3
        clear c3
        by_cases c4 : a1 = 0
        · rw [if_pos c4] at H
          exact absurd H (by simp)
        · rw [if_neg c4] at H
          have c4b0 : (a1 == 0) = false := beq_eq_false_iff_ne.mpr c4
          have c4b1 : (a1 != 0) = true := bne_iff_ne.mpr c4
          obtain ⟨ji5, hji5⟩ : ∃ j_ : Int, (Int.tmod x0_1 a1) = j_ := ⟨_, rfl⟩
          replace H : (if 0 ≤ (ji5) then (if (ji5) ≤ (IntKind.u64.wrap ((ji5) + 1)) then (if (IntKind.u64.wrap ((ji5) + 1)) ≤ 16 then (if ((⟨#[48, 49, 50, 51, 52, 53, 54, 55, 56, 57, 97, 98, 99, 100, 101, 102]⟩ : ByteArray).extract ((ji5) : Int).toNat ((IntKind.u64.wrap ((ji5) + 1)) : Int).toNat).size + x5_1.size ≤ 9223372036854775807 then (laws_base7.l0 k1 (IntKind.u64.wrap (Int.tdiv x0_1 a1)) a1 (((⟨#[48, 49, 50, 51, 52, 53, 54, 55, 56, 57, 97, 98, 99, 100, 101, 102]⟩ : ByteArray).extract ((ji5) : Int).toNat ((IntKind.u64.wrap ((ji5) + 1)) : Int).toNat) ++ x5_1)) else (none)) else (none)) else (none)) else (none)) = some r := by first | (rw [hji5] at H; exact H) | (simp only [hji5] at H ⊢; exact H)
          by_cases c6 : 0 ≤ (ji5)
          · rw [if_pos c6] at H
            have c6b0 := eq_true c6
            have c6b1 : decide (0 ≤ (ji5)) = true := decide_eq_true c6
            clear c6
            by_cases c7 : (ji5) ≤ (IntKind.u64.wrap ((ji5) + 1))
            · rw [if_pos c7] at H
              have c7b0 := eq_true c7
              have c7b1 : decide ((ji5) ≤ (IntKind.u64.wrap ((ji5) + 1))) = true := decide_eq_true c7
              by_cases c8 : (IntKind.u64.wrap ((ji5) + 1)) ≤ 16
              · rw [if_pos c8] at H
                have c8b0 := eq_true c8
                have c8b1 : decide ((IntKind.u64.wrap ((ji5) + 1)) ≤ 16) = true := decide_eq_true c8
                by_cases c9 : ((⟨#[48, 49, 50, 51, 52, 53, 54, 55, 56, 57, 97, 98, 99, 100, 101, 102]⟩ : ByteArray).extract ((ji5) : Int).toNat ((IntKind.u64.wrap ((ji5) + 1)) : Int).toNat).size + x5_1.size ≤ 9223372036854775807
                · rw [if_pos c9] at H
                  have c9b0 := eq_true c9
                  have c9b1 : decide (((⟨#[48, 49, 50, 51, 52, 53, 54, 55, 56, 57, 97, 98, 99, 100, 101, 102]⟩ : ByteArray).extract ((ji5) : Int).toNat ((IntKind.u64.wrap ((ji5) + 1)) : Int).toNat).size + x5_1.size ≤ 9223372036854775807) = true := decide_eq_true c9
                  try have c9b2 : (9223372036854775807 < ((⟨#[48, 49, 50, 51, 52, 53, 54, 55, 56, 57, 97, 98, 99, 100, 101, 102]⟩ : ByteArray).extract ((ji5) : Int).toNat ((IntKind.u64.wrap ((ji5) + 1)) : Int).toNat).size + x5_1.size) = False := eq_false (Nat.not_lt.2 c9)
                  have H' := Aside0.mk H
                  clear H
                  go_wp2
                  repeat (go_quiet (fail); try go_wp2)
                  go_roundg k1
                  case measure => have := HK1.out; omega
                  case rel => exact ⟨(IntKind.u64.wrap (Int.tdiv x0_1 a1)), (((⟨#[48, 49, 50, 51, 52, 53, 54, 55, 56, 57, 97, 98, 99, 100, 101, 102]⟩ : ByteArray).extract ((ji5) : Int).toNat ((IntKind.u64.wrap ((ji5) + 1)) : Int).toNat) ++ x5_1), (by first | rfl | (simp; done) | (simp [*]; done)), (by first | rfl | (simp; done) | (simp only [← hji5] <;> (first | rfl | simp)) | (simp [*]; done)), H', ⟨by have := HK1.out; omega⟩, by repeat (first | exact Drawn0.refl _ | apply Drawn0.step)⟩
                · rw [if_neg c9] at H
                  exact absurd H (by simp)
              · rw [if_neg c8] at H
                exact absurd H (by simp)
            · rw [if_neg c7] at H
              exact absurd H (by simp)
          · rw [if_neg c6] at H
            exact absurd H (by simp)
      · rw [if_neg c3] at H
        have c3b0 : decide (0 < x0_1) = false := decide_eq_false c3
        clear c3
        by_cases c10 : x5_1.toList = ([] : List UInt8)
        · rw [if_pos c10] at H
          have c10b0 : (x5_1.toList == ([] : List UInt8)) = true := beq_iff_eq.mpr c10
          have c10b1 : (x5_1.toList != ([] : List UInt8)) = false := bne_eq_false_iff_eq.mpr c10
          clear c10
          by_cases c11 : a1 = 0
          · rw [if_pos c11] at H
            exact absurd H (by simp)
          · rw [if_neg c11] at H
            have c11b0 : (a1 == 0) = false := beq_eq_false_iff_ne.mpr c11
            have c11b1 : (a1 != 0) = true := bne_iff_ne.mpr c11
            obtain ⟨ji12, hji12⟩ : ∃ j_ : Int, (Int.tmod x0_1 a1) = j_ := ⟨_, rfl⟩
            replace H : (if 0 ≤ (ji12) then (if (ji12) ≤ (IntKind.u64.wrap ((ji12) + 1)) then (if (IntKind.u64.wrap ((ji12) + 1)) ≤ 16 then (if ((⟨#[48, 49, 50, 51, 52, 53, 54, 55, 56, 57, 97, 98, 99, 100, 101, 102]⟩ : ByteArray).extract ((ji12) : Int).toNat ((IntKind.u64.wrap ((ji12) + 1)) : Int).toNat).size + x5_1.size ≤ 9223372036854775807 then (laws_base7.l0 k1 (IntKind.u64.wrap (Int.tdiv x0_1 a1)) a1 (((⟨#[48, 49, 50, 51, 52, 53, 54, 55, 56, 57, 97, 98, 99, 100, 101, 102]⟩ : ByteArray).extract ((ji12) : Int).toNat ((IntKind.u64.wrap ((ji12) + 1)) : Int).toNat) ++ x5_1)) else (none)) else (none)) else (none)) else (none)) = some r := by first | (rw [hji12] at H; exact H) | (simp only [hji12] at H ⊢; exact H)
            by_cases c13 : 0 ≤ (ji12)
            · rw [if_pos c13] at H
              have c13b0 := eq_true c13
              have c13b1 : decide (0 ≤ (ji12)) = true := decide_eq_true c13
              clear c13
              by_cases c14 : (ji12) ≤ (IntKind.u64.wrap ((ji12) + 1))
              · rw [if_pos c14] at H
                have c14b0 := eq_true c14
                have c14b1 : decide ((ji12) ≤ (IntKind.u64.wrap ((ji12) + 1))) = true := decide_eq_true c14
                by_cases c15 : (IntKind.u64.wrap ((ji12) + 1)) ≤ 16
                · rw [if_pos c15] at H
                  have c15b0 := eq_true c15
                  have c15b1 : decide ((IntKind.u64.wrap ((ji12) + 1)) ≤ 16) = true := decide_eq_true c15
                  by_cases c16 : ((⟨#[48, 49, 50, 51, 52, 53, 54, 55, 56, 57, 97, 98, 99, 100, 101, 102]⟩ : ByteArray).extract ((ji12) : Int).toNat ((IntKind.u64.wrap ((ji12) + 1)) : Int).toNat).size + x5_1.size ≤ 9223372036854775807
                  · rw [if_pos c16] at H
                    have c16b0 := eq_true c16
                    have c16b1 : decide (((⟨#[48, 49, 50, 51, 52, 53, 54, 55, 56, 57, 97, 98, 99, 100, 101, 102]⟩ : ByteArray).extract ((ji12) : Int).toNat ((IntKind.u64.wrap ((ji12) + 1)) : Int).toNat).size + x5_1.size ≤ 9223372036854775807) = true := decide_eq_true c16
                    try have c16b2 : (9223372036854775807 < ((⟨#[48, 49, 50, 51, 52, 53, 54, 55, 56, 57, 97, 98, 99, 100, 101, 102]⟩ : ByteArray).extract ((ji12) : Int).toNat ((IntKind.u64.wrap ((ji12) + 1)) : Int).toNat).size + x5_1.size) = False := eq_false (Nat.not_lt.2 c16)
                    have H' := Aside0.mk H
                    clear H
                    go_wp2
                    repeat (go_quiet (fail); try go_wp2)
                    go_roundg k1
                    case measure => have := HK1.out; omega
                    case rel => exact ⟨(IntKind.u64.wrap (Int.tdiv x0_1 a1)), (((⟨#[48, 49, 50, 51, 52, 53, 54, 55, 56, 57, 97, 98, 99, 100, 101, 102]⟩ : ByteArray).extract ((ji12) : Int).toNat ((IntKind.u64.wrap ((ji12) + 1)) : Int).toNat) ++ x5_1), (by first | rfl | (simp; done) | (simp [*]; done)), (by first | rfl | (simp; done) | (simp only [← hji12] <;> (first | rfl | simp)) | (simp [*]; done)), H', ⟨by have := HK1.out; omega⟩, by repeat (first | exact Drawn0.refl _ | apply Drawn0.step)⟩
                  · rw [if_neg c16] at H
                    exact absurd H (by simp)
                · rw [if_neg c15] at H
                  exact absurd H (by simp)
              · rw [if_neg c14] at H
                exact absurd H (by simp)
            · rw [if_neg c13] at H
              exact absurd H (by simp)
        · rw [if_neg c10] at H
          have c10b0 : (x5_1.toList == ([] : List UInt8)) = false := beq_eq_false_iff_ne.mpr c10
          have c10b1 : (x5_1.toList != ([] : List UInt8)) = true := bne_iff_ne.mpr c10
          obtain rfl := Option.some.inj H
          go_wp2
          repeat (go_quiet (fail); try go_wp2)
          go_ret
          exact ⟨by first | rfl | (simp; done) | (simp [*]; done), by repeat (first | exact Drawn0.refl _ | apply Drawn0.step)⟩

-- NOT PRINTED: function 10 (impl_goList)

-- NOT PRINTED: function 11 (impl_goDict)

-- NOT PRINTED: function 7 (impl_goOf)

-- NOT PRINTED: function 22 (cast_toNumber_int)

-- NOT PRINTED: function 23 (errors_New)

-- NOT PRINTED: function 18 (cast_toNumberE_int)

/-! ### cast_zzIndex: function 36 -/
def cast_zzIndex.l0 : Nat → ByteArray → ByteArray → Int → Option (Int)
  | 0, _, _, _ => none
  | k + 1, x0, x1, x5 => if (wrap64 (x5 + (x1.size : Int))) ≤ (x0.size : Int) then (if 0 ≤ x5 then (if x5 ≤ (wrap64 (x5 + (x1.size : Int))) then (if (x0.extract (x5 : Int).toNat ((wrap64 (x5 + (x1.size : Int))) : Int).toNat).toList = x1.toList then (some x5) else (cast_zzIndex.l0 k x0 x1 (wrap64 (x5 + 1)))) else (none)) else (none)) else (some (-1))
def cast_zzIndex.f (k : Nat) (a0 : ByteArray) (a1 : ByteArray) : Option (Int) := cast_zzIndex.l0 k a0 a1 0
theorem cast_zzIndex.mono_l : ∀ k, (∀ y0 y1 y2, LeO (cast_zzIndex.l0 k y0 y1 y2) (cast_zzIndex.l0 (k + 1) y0 y1 y2))
  | 0 => fun _ _ _ r h => by simp [cast_zzIndex.l0] at h
  | k + 1 => by
    have ih0 := cast_zzIndex.mono_l k
    · intro y0 y1 y2
      unfold cast_zzIndex.l0
      repeat' first
      | (with_reducible exact ih0 _ _ _)
      | (with_reducible exact LeO.refl _)
      | (with_reducible exact LeO.none _)
      | (with_reducible refine LeO.ite ?_ ?_)
      | (with_reducible refine LeO.bind ?_ (fun _ => ?_))
      | exact ih0 _ _ _
      | exact LeO.none _
      | refine LeO.ite ?_ ?_
      | refine LeO.bind ?_ (fun _ => ?_)
theorem cast_zzIndex.mono : ∀ a0 a1 k, LeO (cast_zzIndex.f k a0 a1) (cast_zzIndex.f (k + 1) a0 a1) := by
  intro a0 a1 k
  have ih0 := cast_zzIndex.mono_l k
  unfold cast_zzIndex.f
  repeat' first
      | (with_reducible exact ih0 _ _ _)
      | (with_reducible exact LeO.refl _)
      | (with_reducible exact LeO.none _)
      | (with_reducible refine LeO.ite ?_ ?_)
      | (with_reducible refine LeO.bind ?_ (fun _ => ?_))
      | exact ih0 _ _ _
      | exact LeO.none _
      | refine LeO.ite ?_ ?_
      | refine LeO.bind ?_ (fun _ => ?_)
set_option maxHeartbeats 8000000 in
set_option maxRecDepth 100000 in
theorem cast_zzIndex.calls (k : Nat) (a0 : ByteArray) (a1 : ByteArray) (r : Int) (w : World) (h : cast_zzIndex.f k a0 a1 = some r) :
    Calls Tryd.prog 36 #[.string a0, .string a1] w fun e w' => e = .returned (.int .i64 r) ∧ Drawn0 w w' := by
  have H : (cast_zzIndex.l0 k a0 a1 0) = some r := h
  clear h
  have H' := Aside0.mk H
  clear H
  go_enter Tryd.func36, Tryd.ntmps36
  go_wp2
  go_loopg [5] k (fun kq v5 w' => ∃ (x5_1 : Int), v5 = .int .i64 x5_1 ∧ Aside0 (cast_zzIndex.l0 kq a0 a1 x5_1 = some r) ∧ Aside0 (kq ≤ k) ∧ Drawn0 w w')
  case atStart => exact ⟨(0), (by first | rfl | (simp; done) | (simp [*]; done)), H', ⟨Nat.le_refl _⟩, by repeat (first | exact Drawn0.refl _ | apply Drawn0.step)⟩
  case round =>
    clear H'
    try clear p2
    obtain ⟨x5_1, rfl, HA, HK1, ⟨m1, rfl⟩⟩ := hrel
    cases gk with
    | zero => exact absurd HA.out (by simp [cast_zzIndex.l0])
    | succ k1 =>
      have H := HA.out
      clear HA
      simp only [cast_zzIndex.l0] at H
      by_cases c3 : (wrap64 (x5_1 + (a1.size : Int))) ≤ (a0.size : Int)
      · rw [if_pos c3] at H
        have c3b0 : decide ((wrap64 (x5_1 + (a1.size : Int))) ≤ (a0.size : Int)) = true := decide_eq_true c3
        clear c3
        by_cases c4 : 0 ≤ x5_1
        · rw [if_pos c4] at H
          have c4b0 := eq_true c4
          have c4b1 : decide (0 ≤ x5_1) = true := decide_eq_true c4
          clear c4
          by_cases c5 : x5_1 ≤ (wrap64 (x5_1 + (a1.size : Int)))
          · rw [if_pos c5] at H
            have c5b0 := eq_true c5
            have c5b1 : decide (x5_1 ≤ (wrap64 (x5_1 + (a1.size : Int)))) = true := decide_eq_true c5
            have c6b0 := eq_true (of_decide_eq_true (by first | (with_reducible assumption) | assumption) : (wrap64 (x5_1 + (a1.size : Int))) ≤ (a0.size : Int))
            by_cases c7 : (a0.extract (x5_1 : Int).toNat ((wrap64 (x5_1 + (a1.size : Int))) : Int).toNat).toList = a1.toList
            · rw [if_pos c7] at H
              have c7b0 : ((a0.extract (x5_1 : Int).toNat ((wrap64 (x5_1 + (a1.size : Int))) : Int).toNat).toList == a1.toList) = true := beq_iff_eq.mpr c7
              have c7b1 : ((a0.extract (x5_1 : Int).toNat ((wrap64 (x5_1 + (a1.size : Int))) : Int).toNat).toList != a1.toList) = false := bne_eq_false_iff_eq.mpr c7
              clear c7
              obtain rfl := Option.some.inj H
              go_wp2
              go_ret
              exact ⟨by first | rfl | (simp; done) | (simp [*]; done), by repeat (first | exact Drawn0.refl _ | apply Drawn0.step)⟩
            · rw [if_neg c7] at H
              have c7b0 : ((a0.extract (x5_1 : Int).toNat ((wrap64 (x5_1 + (a1.size : Int))) : Int).toNat).toList == a1.toList) = false := beq_eq_false_iff_ne.mpr c7
              have c7b1 : ((a0.extract (x5_1 : Int).toNat ((wrap64 (x5_1 + (a1.size : Int))) : Int).toNat).toList != a1.toList) = true := bne_iff_ne.mpr c7
              have H' := Aside0.mk H
              clear H
              go_wp2
              go_roundg k1
              case measure => have := HK1.out; omega
              case rel => exact ⟨(wrap64 (x5_1 + 1)), (by first | rfl | (simp; done) | (simp [*]; done)), H', ⟨by have := HK1.out; omega⟩, by repeat (first | exact Drawn0.refl _ | apply Drawn0.step)⟩
          · rw [if_neg c5] at H
            exact absurd H (by simp)
        · rw [if_neg c4] at H
          exact absurd H (by simp)
      · rw [if_neg c3] at H
        have c3b0 : decide ((wrap64 (x5_1 + (a1.size : Int))) ≤ (a0.size : Int)) = false := decide_eq_false c3
        clear c3
        obtain rfl := Option.some.inj H
        go_wp2
        go_ret
        exact ⟨by first | rfl | (simp; done) | (simp [*]; done), by repeat (first | exact Drawn0.refl _ | apply Drawn0.step)⟩

/-! ### cast_zzContains: function 29 -/
def cast_zzContains.f (k : Nat) (a0 : ByteArray) (a1 : ByteArray) : Option (Bool) := (cast_zzIndex.f k a0 a1).bind fun t135 => (some (decide (t135 ≥ 0)))
theorem cast_zzContains.mono : ∀ a0 a1 k, LeO (cast_zzContains.f k a0 a1) (cast_zzContains.f (k + 1) a0 a1) := by
  intro a0 a1 k
  unfold cast_zzContains.f
  repeat' first
      | (with_reducible exact cast_zzIndex.mono _ _ _)
      | (with_reducible exact LeO.refl _)
      | (with_reducible exact LeO.none _)
      | (with_reducible refine LeO.ite ?_ ?_)
      | (with_reducible refine LeO.bind ?_ (fun _ => ?_))
      | exact cast_zzIndex.mono _ _ _
      | exact LeO.none _
      | refine LeO.ite ?_ ?_
      | refine LeO.bind ?_ (fun _ => ?_)
set_option maxHeartbeats 8000000 in
set_option maxRecDepth 100000 in
theorem cast_zzContains.calls (k : Nat) (a0 : ByteArray) (a1 : ByteArray) (r : Bool) (w : World) (h : cast_zzContains.f k a0 a1 = some r) :
    Calls Tryd.prog 29 #[.string a0, .string a1] w fun e w' => e = .returned (.bool r) ∧ Drawn0 w w' := by
  have H : ((cast_zzIndex.f k a0 a1).bind fun t135 => (some (decide (t135 ≥ 0)))) = some r := h
  clear h
  replace H := Option.bind_eq_some_iff.mp H
  obtain ⟨t135, A30, H⟩ := H
  replace H : (some (decide (t135 ≥ 0))) = some r := H
  have A3 := Aside0.mk A30
  clear A30
  obtain rfl := Option.some.inj H
  go_enter Tryd.func29, Tryd.ntmps29
  go_wp2_with (first | ((with_reducible refine gate_callee (f := 36) rfl ?_); refine goesL_ (some 7) rfl rfl Tryd.func36 (by kernel_rfl) rfl #[.string a0, .string a1] rfl (by (try simp only [List.map_toArray, List.map_cons, List.map_nil]); first | done | rfl | (simp only [List.length_drop, List.length_take]; rfl)) ?_; (with_reducible refine (cast_zzIndex.calls k a0 a1 t135 _ A3.out).mono ?_); rintro e w' ⟨rfl, ⟨nd, rfl⟩⟩; refine ⟨_, rfl, ?_⟩))
  go_ret
  exact ⟨by first | rfl | (simp; done) | (simp [*]; done), by repeat (first | exact Drawn0.refl _ | apply Drawn0.step)⟩


end Go.Proofs.YtakogidcjjmihaaDoor.PFnCastText
