-- PRINTED BY print.sh 35421559b90ae4d0a3588c463048766b98c2df88dd9212a6774a882060cdf62d: not written by this session
import Derived.Test.YtoaalpkeepjhmaaPFnBase64x0
namespace Go.Proofs.Ytoaalpkeepjhmaa.PFnBase64
open Go.RowKit Go.Proofs.YtoaalpkeepjhmaaW.PrintWords Go.Proofs.YtoaalpkeepjhmaaW.PrintLast Go.Proofs.YtoaalpkeepjhmaaW.PrintMore
attribute [local go_sem] max2_int min2_int max_two min_two max_three min_three max_four min_four   -- for this text's walks alone
set_option linter.unusedVariables false
set_option linter.unusedSimpArgs false

-- NOT PRINTED: function 30 (base64_NewEncoding)

-- NOT PRINTED: function 24 (sprig_zzBase64)

-- NOT PRINTED: function 31 (base64_Encoding_EncodedLen)

-- NOT PRINTED: function 32 (base64_Encoding_Encode)

-- NOT PRINTED: function 25 (base64_Encoding_EncodeToString)

-- NOT PRINTED: function 19 (sprig_base64encode)

-- NOT PRINTED: function 13 (sprig_B64Enc)

-- NOT PRINTED: function 5 (impl_B64Enc)

/-! ### spec_encoded: function 14 -/
mutual
def spec_encoded.l0 : Nat → ByteArray → ByteArray → Int → Int → ByteArray → Int → Int → Int → Option (ByteArray)
  | 0, _, _, _, _, _, _, _, _ => none
  | k + 1, x0, x1, x2, x3, x9, x10, x11, x12 => if x12 < (x0.size : Int) then (if 0 ≤ x12 then (spec_encoded.l1 k x0 x1 x2 x3 x9 (Go.bits .or .i64 (wrap64 (x10 * 256)) (wrap64 (bt x0 x12))) (wrap64 (x11 + 8)) x12) else (none)) else (if x11 > 0 then (if 0 ≤ (wrap64 (x2 - x11)) then (if 0 ≤ (shl .i64 x10 (wrap64 (x2 - x11))) then (if (shl .i64 x10 (wrap64 (x2 - x11))) ≤ (wrap64 ((shl .i64 x10 (wrap64 (x2 - x11))) + 1)) then (if (wrap64 ((shl .i64 x10 (wrap64 (x2 - x11))) + 1)) ≤ (x1.size : Int) then (if x9.size + (x1.extract ((shl .i64 x10 (wrap64 (x2 - x11))) : Int).toNat ((wrap64 ((shl .i64 x10 (wrap64 (x2 - x11))) + 1)) : Int).toNat).size ≤ 9223372036854775807 then (spec_encoded.j2 k x3 (x9 ++ (x1.extract ((shl .i64 x10 (wrap64 (x2 - x11))) : Int).toNat ((wrap64 ((shl .i64 x10 (wrap64 (x2 - x11))) + 1)) : Int).toNat))) else (none)) else (none)) else (none)) else (none)) else (none)) else (spec_encoded.j2 k x3 x9))
def spec_encoded.l1 : Nat → ByteArray → ByteArray → Int → Int → ByteArray → Int → Int → Int → Option (ByteArray)
  | 0, _, _, _, _, _, _, _, _ => none
  | k + 1, x0, x1, x2, x3, x9, x10, x11, x12 => if x11 ≥ x2 then (if 0 ≤ (wrap64 (x11 - x2)) then (if 0 ≤ (shr .i64 x10 (wrap64 (x11 - x2))) then (if (shr .i64 x10 (wrap64 (x11 - x2))) ≤ (wrap64 ((shr .i64 x10 (wrap64 (x11 - x2))) + 1)) then (if (wrap64 ((shr .i64 x10 (wrap64 (x11 - x2))) + 1)) ≤ (x1.size : Int) then (if x9.size + (x1.extract ((shr .i64 x10 (wrap64 (x11 - x2))) : Int).toNat ((wrap64 ((shr .i64 x10 (wrap64 (x11 - x2))) + 1)) : Int).toNat).size ≤ 9223372036854775807 then (spec_encoded.l1 k x0 x1 x2 x3 (x9 ++ (x1.extract ((shr .i64 x10 (wrap64 (x11 - x2))) : Int).toNat ((wrap64 ((shr .i64 x10 (wrap64 (x11 - x2))) + 1)) : Int).toNat)) (Go.bits .and .i64 x10 (wrap64 ((shl .i64 1 (wrap64 (x11 - x2))) - 1))) (wrap64 (x11 - x2)) x12) else (none)) else (none)) else (none)) else (none)) else (none)) else (spec_encoded.l0 k x0 x1 x2 x3 x9 x10 x11 (wrap64 (x12 + 1)))
def spec_encoded.j2 : Nat → Int → ByteArray → Option (ByteArray)
  | 0, _, _ => none
  | k + 1, x3, x9 => spec_encoded.l2 k x3 x9
def spec_encoded.l2 : Nat → Int → ByteArray → Option (ByteArray)
  | 0, _, _ => none
  | k + 1, x3, x9 => if x3 = 0 then (none) else (if ((x9.size : Int) % x3) = 0 then (some x9) else (if x9.size + 1 ≤ 9223372036854775807 then (spec_encoded.l2 k x3 (x9 ++ (⟨#[61]⟩ : ByteArray))) else (none)))
end
def spec_encoded.f (k : Nat) (a0 : ByteArray) (a1 : ByteArray) (a2 : Int) (a3 : Int) : Option (ByteArray) := spec_encoded.l0 k a0 a1 a2 a3 (⟨#[]⟩ : ByteArray) 0 0 0
theorem spec_encoded.mono_l : ∀ k, (∀ y0 y1 y2 y3 y4 y5 y6 y7, LeO (spec_encoded.l0 k y0 y1 y2 y3 y4 y5 y6 y7) (spec_encoded.l0 (k + 1) y0 y1 y2 y3 y4 y5 y6 y7)) ∧ (∀ y0 y1 y2 y3 y4 y5 y6 y7, LeO (spec_encoded.l1 k y0 y1 y2 y3 y4 y5 y6 y7) (spec_encoded.l1 (k + 1) y0 y1 y2 y3 y4 y5 y6 y7)) ∧ (∀ y0 y1, LeO (spec_encoded.j2 k y0 y1) (spec_encoded.j2 (k + 1) y0 y1)) ∧ (∀ y0 y1, LeO (spec_encoded.l2 k y0 y1) (spec_encoded.l2 (k + 1) y0 y1))
  | 0 => ⟨fun _ _ _ _ _ _ _ _ r h => by simp [spec_encoded.l0] at h, fun _ _ _ _ _ _ _ _ r h => by simp [spec_encoded.l1] at h, fun _ _ r h => by simp [spec_encoded.j2] at h, fun _ _ r h => by simp [spec_encoded.l2] at h⟩
  | k + 1 => by
    obtain ⟨ih0, ih1, ih2, ih3⟩ := spec_encoded.mono_l k
    refine ⟨?_, ?_, ?_, ?_⟩
    · intro y0 y1 y2 y3 y4 y5 y6 y7
      unfold spec_encoded.l0
      repeat' first
      | (with_reducible exact ih0 _ _ _ _ _ _ _ _)
      | (with_reducible exact ih1 _ _ _ _ _ _ _ _)
      | (with_reducible exact ih2 _ _)
      | (with_reducible exact ih3 _ _)
      | (with_reducible exact LeO.refl _)
      | (with_reducible exact LeO.none _)
      | (with_reducible refine LeO.ite ?_ ?_)
      | (with_reducible refine LeO.bind ?_ (fun _ => ?_))
      | exact ih0 _ _ _ _ _ _ _ _
      | exact ih1 _ _ _ _ _ _ _ _
      | exact ih2 _ _
      | exact ih3 _ _
      | exact LeO.none _
      | refine LeO.ite ?_ ?_
      | refine LeO.bind ?_ (fun _ => ?_)
    · intro y0 y1 y2 y3 y4 y5 y6 y7
      unfold spec_encoded.l1
      repeat' first
      | (with_reducible exact ih0 _ _ _ _ _ _ _ _)
      | (with_reducible exact ih1 _ _ _ _ _ _ _ _)
      | (with_reducible exact ih2 _ _)
      | (with_reducible exact ih3 _ _)
      | (with_reducible exact LeO.refl _)
      | (with_reducible exact LeO.none _)
      | (with_reducible refine LeO.ite ?_ ?_)
      | (with_reducible refine LeO.bind ?_ (fun _ => ?_))
      | exact ih0 _ _ _ _ _ _ _ _
      | exact ih1 _ _ _ _ _ _ _ _
      | exact ih2 _ _
      | exact ih3 _ _
      | exact LeO.none _
      | refine LeO.ite ?_ ?_
      | refine LeO.bind ?_ (fun _ => ?_)
    · intro y0 y1
      unfold spec_encoded.j2
      repeat' first
      | (with_reducible exact ih0 _ _ _ _ _ _ _ _)
      | (with_reducible exact ih1 _ _ _ _ _ _ _ _)
      | (with_reducible exact ih2 _ _)
      | (with_reducible exact ih3 _ _)
      | (with_reducible exact LeO.refl _)
      | (with_reducible exact LeO.none _)
      | (with_reducible refine LeO.ite ?_ ?_)
      | (with_reducible refine LeO.bind ?_ (fun _ => ?_))
      | exact ih0 _ _ _ _ _ _ _ _
      | exact ih1 _ _ _ _ _ _ _ _
      | exact ih2 _ _
      | exact ih3 _ _
      | exact LeO.none _
      | refine LeO.ite ?_ ?_
      | refine LeO.bind ?_ (fun _ => ?_)
    · intro y0 y1
      unfold spec_encoded.l2
      repeat' first
      | (with_reducible exact ih0 _ _ _ _ _ _ _ _)
      | (with_reducible exact ih1 _ _ _ _ _ _ _ _)
      | (with_reducible exact ih2 _ _)
      | (with_reducible exact ih3 _ _)
      | (with_reducible exact LeO.refl _)
      | (with_reducible exact LeO.none _)
      | (with_reducible refine LeO.ite ?_ ?_)
      | (with_reducible refine LeO.bind ?_ (fun _ => ?_))
      | exact ih0 _ _ _ _ _ _ _ _
      | exact ih1 _ _ _ _ _ _ _ _
      | exact ih2 _ _
      | exact ih3 _ _
      | exact LeO.none _
      | refine LeO.ite ?_ ?_
      | refine LeO.bind ?_ (fun _ => ?_)
theorem spec_encoded.mono : ∀ a0 a1 a2 a3 k, LeO (spec_encoded.f k a0 a1 a2 a3) (spec_encoded.f (k + 1) a0 a1 a2 a3) := by
  intro a0 a1 a2 a3 k
  obtain ⟨ih0, ih1, ih2, ih3⟩ := spec_encoded.mono_l k
  unfold spec_encoded.f
  repeat' first
      | (with_reducible exact ih0 _ _ _ _ _ _ _ _)
      | (with_reducible exact ih1 _ _ _ _ _ _ _ _)
      | (with_reducible exact ih2 _ _)
      | (with_reducible exact ih3 _ _)
      | (with_reducible exact LeO.refl _)
      | (with_reducible exact LeO.none _)
      | (with_reducible refine LeO.ite ?_ ?_)
      | (with_reducible refine LeO.bind ?_ (fun _ => ?_))
      | exact ih0 _ _ _ _ _ _ _ _
      | exact ih1 _ _ _ _ _ _ _ _
      | exact ih2 _ _
      | exact ih3 _ _
      | exact LeO.none _
      | refine LeO.ite ?_ ?_
      | refine LeO.bind ?_ (fun _ => ?_)
set_option maxHeartbeats 8000000 in
set_option maxRecDepth 100000 in
theorem spec_encoded.calls (k : Nat) (a0 : ByteArray) (a1 : ByteArray) (a2 : Int) (a3 : Int) (r : ByteArray) (w : World) (h : spec_encoded.f k a0 a1 a2 a3 = some r) :
    Calls Try.prog 14 #[.string a0, .string a1, .int .i64 a2, .int .i64 a3] w fun e w' => e = .returned (.string r) ∧ Drawn0 w w' := by
  have H : (spec_encoded.l0 k a0 a1 a2 a3 (⟨#[]⟩ : ByteArray) 0 0 0) = some r := h
  clear h
  have H' := Aside0.mk H
  clear H
  go_enter Try.func14, Try.ntmps14
  go_wp2
  go_loopg [9, 10, 11, 12] k (fun kq v9 v10 v11 v12 w' => ∃ (x9_1 : ByteArray) (x10_1 : Int) (x11_1 : Int) (x12_1 : Int), v9 = .string x9_1 ∧ v10 = .int .i64 x10_1 ∧ v11 = .int .i64 x11_1 ∧ v12 = .int .i64 x12_1 ∧ Aside0 (spec_encoded.l0 kq a0 a1 a2 a3 x9_1 x10_1 x11_1 x12_1 = some r) ∧ Aside0 (kq ≤ k) ∧ Drawn0 w w')
  case atStart => exact ⟨((⟨#[]⟩ : ByteArray)), (0), (0), (0), (by first | rfl | (simp; done) | (simp [*]; done)), (by first | rfl | (simp; done) | (simp [*]; done)), (by first | rfl | (simp; done) | (simp [*]; done)), (by first | rfl | (simp; done) | (simp [*]; done)), H', ⟨Nat.le_refl _⟩, by repeat (first | exact Drawn0.refl _ | apply Drawn0.step)⟩
  case round =>
    clear H'
    try clear c1
    try clear p2
    obtain ⟨x9_1, x10_1, x11_1, x12_1, rfl, rfl, rfl, rfl, HA, HK1, ⟨m1, rfl⟩⟩ := hrel
    cases gk with
    | zero => exact absurd HA.out (by simp [spec_encoded.l0])
    | succ k1 =>
      have H := HA.out
      clear HA
      simp only [spec_encoded.l0] at H
      by_cases c5 : x12_1 < (a0.size : Int)
      · rw [if_pos c5] at H
        have c5b0 : decide (x12_1 < (a0.size : Int)) = true := decide_eq_true c5
        clear c5
        by_cases c6 : 0 ≤ x12_1
        · rw [if_pos c6] at H
          have c6b0 : decide (0 ≤ x12_1) = true := decide_eq_true c6
          clear c6
          have H' := Aside0.mk H
          clear H
          have p7 : 0 ≤ (x12_1 : Int) := of_decide_eq_true (by first | (with_reducible assumption) | assumption)
          have q7 : x12_1 < (a0.size : Int) := of_decide_eq_true (by first | (with_reducible assumption) | assumption)
          have hx7 := bt_at a0 x12_1
          replace p7 := eq_true p7
          replace q7 := eq_true q7
          go_wp2
          go_loopg [9, 10, 11] k1 (fun kq v9 v10 v11 w' => ∃ (x9_2 : ByteArray) (x10_2 : Int) (x11_2 : Int), v9 = .string x9_2 ∧ v10 = .int .i64 x10_2 ∧ v11 = .int .i64 x11_2 ∧ Aside0 (spec_encoded.l1 kq a0 a1 a2 a3 x9_2 x10_2 x11_2 x12_1 = some r) ∧ Aside0 (kq ≤ k1) ∧ Drawn0 w w')
          case atStart => exact ⟨(x9_1), (Go.bits .or .i64 (wrap64 (x10_1 * 256)) (wrap64 (bt a0 x12_1))), (wrap64 (x11_1 + 8)), (by first | rfl | (simp; done) | (simp [*]; done)), (by first | rfl | (simp; done) | (simp [*]; done)), (by first | rfl | (simp; done) | (simp [*]; done)), H', ⟨Nat.le_refl _⟩, by repeat (first | exact Drawn0.refl _ | apply Drawn0.step)⟩
          case round =>
            clear H'
            try clear c1
            try clear p2
            try clear c5
            try clear c5b0
            try clear c6
            try clear c6b0
            try clear p6
            try clear p7
            try clear q7
            try clear hx7
            try clear p2
            try clear p7
            try clear q7
            obtain ⟨x9_2, x10_2, x11_2, rfl, rfl, rfl, HA, HK2, ⟨m2, rfl⟩⟩ := hrel
            cases gk with
            | zero => exact absurd HA.out (by simp [spec_encoded.l1])
            | succ k2 =>
              have H := HA.out
              clear HA
              simp only [spec_encoded.l1] at H
              by_cases c8 : x11_2 ≥ a2
              · rw [if_pos c8] at H
                have c8b0 : decide (a2 ≤ x11_2) = true := decide_eq_true c8
                clear c8
                obtain ⟨ji9, hji9⟩ : ∃ j_ : Int, (wrap64 (x11_2 - a2)) = j_ := ⟨_, rfl⟩
                replace H : (if 0 ≤ (ji9) then (if 0 ≤ (shr .i64 x10_2 (ji9)) then (if (shr .i64 x10_2 (ji9)) ≤ (wrap64 ((shr .i64 x10_2 (ji9)) + 1)) then (if (wrap64 ((shr .i64 x10_2 (ji9)) + 1)) ≤ (a1.size : Int) then (if x9_2.size + (a1.extract ((shr .i64 x10_2 (ji9)) : Int).toNat ((wrap64 ((shr .i64 x10_2 (ji9)) + 1)) : Int).toNat).size ≤ 9223372036854775807 then (spec_encoded.l1 k2 a0 a1 a2 a3 (x9_2 ++ (a1.extract ((shr .i64 x10_2 (ji9)) : Int).toNat ((wrap64 ((shr .i64 x10_2 (ji9)) + 1)) : Int).toNat)) (Go.bits .and .i64 x10_2 (wrap64 ((shl .i64 1 (ji9)) - 1))) ji9 x12_1) else (none)) else (none)) else (none)) else (none)) else (none)) = some r := by first | (rw [hji9] at H; exact H) | (simp only [hji9] at H ⊢; exact H)
                have hji9w : (IntKind.i64.wrap (x11_2 - a2)) = ji9 := (i64_w _).trans hji9
                by_cases c10 : 0 ≤ (ji9)
                · rw [if_pos c10] at H
                  have c10b0 := eq_true c10
                  have c10b1 : decide (0 ≤ (ji9)) = true := decide_eq_true c10
                  clear c10
                  obtain ⟨ji11, hji11⟩ : ∃ j_ : Int, (shr .i64 x10_2 (ji9)) = j_ := ⟨_, rfl⟩
                  replace H : (if 0 ≤ (ji11) then (if (ji11) ≤ (wrap64 ((ji11) + 1)) then (if (wrap64 ((ji11) + 1)) ≤ (a1.size : Int) then (if x9_2.size + (a1.extract ((ji11) : Int).toNat ((wrap64 ((ji11) + 1)) : Int).toNat).size ≤ 9223372036854775807 then (spec_encoded.l1 k2 a0 a1 a2 a3 (x9_2 ++ (a1.extract ((ji11) : Int).toNat ((wrap64 ((ji11) + 1)) : Int).toNat)) (Go.bits .and .i64 x10_2 (wrap64 ((shl .i64 1 (ji9)) - 1))) ji9 x12_1) else (none)) else (none)) else (none)) else (none)) = some r := by first | (rw [hji11] at H; exact H) | (simp only [hji11] at H ⊢; exact H)
                  have hji11_ : (x10_2 / 2 ^ min (ji9).toNat 64) = ji11 := hji11
                  have hji11z : (ji9) ≤ 64 → (x10_2 / 2 ^ (ji9).toNat) = ji11 := shr_small hji11
                  by_cases c12 : 0 ≤ (ji11)
                  · rw [if_pos c12] at H
                    have c12b0 := eq_true c12
                    have c12b1 : decide (0 ≤ (ji11)) = true := decide_eq_true c12
                    clear c12
                    by_cases c13 : (ji11) ≤ (wrap64 ((ji11) + 1))
                    · rw [if_pos c13] at H
                      have c13b0 := eq_true c13
                      have c13b1 : decide ((ji11) ≤ (wrap64 ((ji11) + 1))) = true := decide_eq_true c13
                      by_cases c14 : (wrap64 ((ji11) + 1)) ≤ (a1.size : Int)
                      · rw [if_pos c14] at H
                        have c14b0 := eq_true c14
                        have c14b1 : decide ((wrap64 ((ji11) + 1)) ≤ (a1.size : Int)) = true := decide_eq_true c14
                        by_cases c15 : x9_2.size + (a1.extract ((ji11) : Int).toNat ((wrap64 ((ji11) + 1)) : Int).toNat).size ≤ 9223372036854775807
                        · rw [if_pos c15] at H
                          have c15b0 := eq_true c15
                          have c15b1 : decide (x9_2.size + (a1.extract ((ji11) : Int).toNat ((wrap64 ((ji11) + 1)) : Int).toNat).size ≤ 9223372036854775807) = true := decide_eq_true c15
                          try have c15b2 : (9223372036854775807 < x9_2.size + (a1.extract ((ji11) : Int).toNat ((wrap64 ((ji11) + 1)) : Int).toNat).size) = False := eq_false (Nat.not_lt.2 c15)
                          have c16b0 := eq_true (of_decide_eq_true (by first | (with_reducible assumption) | assumption) : 0 ≤ (ji9))
                          obtain ⟨ji17, hji17⟩ : ∃ j_ : Int, (shl .i64 1 (ji9)) = j_ := ⟨_, rfl⟩
                          replace H : (spec_encoded.l1 k2 a0 a1 a2 a3 (x9_2 ++ (a1.extract ((ji11) : Int).toNat ((wrap64 ((ji11) + 1)) : Int).toNat)) (Go.bits .and .i64 x10_2 (wrap64 ((ji17) - 1))) ji9 x12_1) = some r := by first | (rw [hji17] at H; exact H) | (simp only [hji17] at H ⊢; exact H)
                          have hji17_ : (IntKind.i64.wrap (1 * 2 ^ min (ji9).toNat 64)) = ji17 := hji17
                          have hji17z : (ji9) ≤ 64 → (IntKind.i64.wrap (1 * 2 ^ (ji9).toNat)) = ji17 := shl_small hji17
                          have hji17u : (IntKind.i64.wrap (2 ^ min (ji9).toNat 64)) = ji17 := by have h_ := hji17_; rw [Int.one_mul] at h_; exact h_
                          have hji17v : (ji9) ≤ 64 → (IntKind.i64.wrap (2 ^ (ji9).toNat)) = ji17 := fun hle_ => by have h_ := hji17z hle_; rw [Int.one_mul] at h_; exact h_
                          have hji17y : (wrap64 (1 * 2 ^ min (ji9).toNat 64)) = ji17 := (i64_w _).symm.trans hji17_
                          have hji17x : (ji9) ≤ 64 → (wrap64 (1 * 2 ^ (ji9).toNat)) = ji17 := fun h_ => (i64_w _).symm.trans (hji17z h_)
                          have H' := Aside0.mk H
                          clear H
                          go_wp2
                          go_roundg k2
                          case measure => have := HK1.out; have := HK2.out; omega
                          case rel => exact ⟨(x9_2 ++ (a1.extract ((ji11) : Int).toNat ((wrap64 ((ji11) + 1)) : Int).toNat)), (Go.bits .and .i64 x10_2 (wrap64 ((ji17) - 1))), (ji9), (by first | rfl | (simp; done) | (simp only [← hji11] <;> (first | rfl | simp)) | (simp [*]; done)), (by first | rfl | (simp; done) | (simp only [← hji17] <;> (first | rfl | simp)) | (simp [*]; done)), (by first | rfl | (simp; done) | (simp only [← hji9] <;> (first | rfl | simp)) | (simp [*]; done)), H', ⟨by have := HK1.out; have := HK2.out; omega⟩, by repeat (first | exact Drawn0.refl _ | apply Drawn0.step)⟩
                        · rw [if_neg c15] at H
                          exact absurd H (by simp)
                      · rw [if_neg c14] at H
                        exact absurd H (by simp)
                    · rw [if_neg c13] at H
                      exact absurd H (by simp)
                  · rw [if_neg c12] at H
                    exact absurd H (by simp)
                · rw [if_neg c10] at H
                  exact absurd H (by simp)
              · rw [if_neg c8] at H
                have c8b0 : decide (a2 ≤ x11_2) = false := decide_eq_false c8
                clear c8
                have H' := Aside0.mk H
                clear H
                go_wp2
                go_roundg k2
                case measure => have := HK1.out; have := HK2.out; omega
                case rel => exact ⟨(x9_2), (x10_2), (x11_2), (wrap64 (x12_1 + 1)), (by first | rfl | (simp; done) | (simp [*]; done)), (by first | rfl | (simp; done) | (simp [*]; done)), (by first | rfl | (simp; done) | (simp [*]; done)), (by first | rfl | (simp; done) | (simp [*]; done)), H', ⟨by have := HK1.out; have := HK2.out; omega⟩, by repeat (first | exact Drawn0.refl _ | apply Drawn0.step)⟩
        · rw [if_neg c6] at H
          exact absurd H (by simp)
      · rw [if_neg c5] at H
        have c5b0 : decide (x12_1 < (a0.size : Int)) = false := decide_eq_false c5
        clear c5
        have HC18 := Aside0.mk H
        clear H
        go_upto_if 52 with (fail)
        go_cut [9] (fun v9 wc => ∃ (kq : Nat) (x9_17 : ByteArray), v9 = .string x9_17 ∧ Aside0 (spec_encoded.j2 kq a3 x9_17 = some r) ∧ Aside0 (kq ≤ k1) ∧ Drawn0 w wc)
        case first =>
          have H := HC18.out
          clear HC18
          by_cases c19 : x11_1 > 0
          · rw [if_pos c19] at H
            have c19b0 : decide (0 < x11_1) = true := decide_eq_true c19
            clear c19
            (first | rw [c19b0] | (simp only [i64_w, i32_w]; rw [c19b0]) | skip)
            obtain ⟨ji20, hji20⟩ : ∃ j_ : Int, (wrap64 (a2 - x11_1)) = j_ := ⟨_, rfl⟩
            replace H : (if 0 ≤ (ji20) then (if 0 ≤ (shl .i64 x10_1 (ji20)) then (if (shl .i64 x10_1 (ji20)) ≤ (wrap64 ((shl .i64 x10_1 (ji20)) + 1)) then (if (wrap64 ((shl .i64 x10_1 (ji20)) + 1)) ≤ (a1.size : Int) then (if x9_1.size + (a1.extract ((shl .i64 x10_1 (ji20)) : Int).toNat ((wrap64 ((shl .i64 x10_1 (ji20)) + 1)) : Int).toNat).size ≤ 9223372036854775807 then (spec_encoded.j2 k1 a3 (x9_1 ++ (a1.extract ((shl .i64 x10_1 (ji20)) : Int).toNat ((wrap64 ((shl .i64 x10_1 (ji20)) + 1)) : Int).toNat))) else (none)) else (none)) else (none)) else (none)) else (none)) = some r := by first | (rw [hji20] at H; exact H) | (simp only [hji20] at H ⊢; exact H)
            have hji20w : (IntKind.i64.wrap (a2 - x11_1)) = ji20 := (i64_w _).trans hji20
            by_cases c21 : 0 ≤ (ji20)
            · rw [if_pos c21] at H
              have c21b0 := eq_true c21
              have c21b1 : decide (0 ≤ (ji20)) = true := decide_eq_true c21
              clear c21
              obtain ⟨ji22, hji22⟩ : ∃ j_ : Int, (shl .i64 x10_1 (ji20)) = j_ := ⟨_, rfl⟩
              replace H : (if 0 ≤ (ji22) then (if (ji22) ≤ (wrap64 ((ji22) + 1)) then (if (wrap64 ((ji22) + 1)) ≤ (a1.size : Int) then (if x9_1.size + (a1.extract ((ji22) : Int).toNat ((wrap64 ((ji22) + 1)) : Int).toNat).size ≤ 9223372036854775807 then (spec_encoded.j2 k1 a3 (x9_1 ++ (a1.extract ((ji22) : Int).toNat ((wrap64 ((ji22) + 1)) : Int).toNat))) else (none)) else (none)) else (none)) else (none)) = some r := by first | (rw [hji22] at H; exact H) | (simp only [hji22] at H ⊢; exact H)
              have hji22_ : (IntKind.i64.wrap (x10_1 * 2 ^ min (ji20).toNat 64)) = ji22 := hji22
              have hji22z : (ji20) ≤ 64 → (IntKind.i64.wrap (x10_1 * 2 ^ (ji20).toNat)) = ji22 := shl_small hji22
              have hji22y : (wrap64 (x10_1 * 2 ^ min (ji20).toNat 64)) = ji22 := (i64_w _).symm.trans hji22_
              have hji22x : (ji20) ≤ 64 → (wrap64 (x10_1 * 2 ^ (ji20).toNat)) = ji22 := fun h_ => (i64_w _).symm.trans (hji22z h_)
              by_cases c23 : 0 ≤ (ji22)
              · rw [if_pos c23] at H
                have c23b0 := eq_true c23
                have c23b1 : decide (0 ≤ (ji22)) = true := decide_eq_true c23
                clear c23
                by_cases c24 : (ji22) ≤ (wrap64 ((ji22) + 1))
                · rw [if_pos c24] at H
                  have c24b0 := eq_true c24
                  have c24b1 : decide ((ji22) ≤ (wrap64 ((ji22) + 1))) = true := decide_eq_true c24
                  by_cases c25 : (wrap64 ((ji22) + 1)) ≤ (a1.size : Int)
                  · rw [if_pos c25] at H
                    have c25b0 := eq_true c25
                    have c25b1 : decide ((wrap64 ((ji22) + 1)) ≤ (a1.size : Int)) = true := decide_eq_true c25
                    by_cases c26 : x9_1.size + (a1.extract ((ji22) : Int).toNat ((wrap64 ((ji22) + 1)) : Int).toNat).size ≤ 9223372036854775807
                    · rw [if_pos c26] at H
                      have c26b0 := eq_true c26
                      have c26b1 : decide (x9_1.size + (a1.extract ((ji22) : Int).toNat ((wrap64 ((ji22) + 1)) : Int).toNat).size ≤ 9223372036854775807) = true := decide_eq_true c26
                      try have c26b2 : (9223372036854775807 < x9_1.size + (a1.extract ((ji22) : Int).toNat ((wrap64 ((ji22) + 1)) : Int).toNat).size) = False := eq_false (Nat.not_lt.2 c26)
                      have H' := Aside0.mk H
                      clear H
                      go_wp2
                      go_meet
                      case rel => exact ⟨_, (x9_1 ++ (a1.extract ((ji22) : Int).toNat ((wrap64 ((ji22) + 1)) : Int).toNat)), (by first | rfl | (simp; done) | (simp only [← hji22] <;> (first | rfl | simp)) | (simp [*]; done)), H', ⟨by have := HK1.out; first | omega | exact Nat.le_refl _⟩, by repeat (first | exact Drawn0.refl _ | apply Drawn0.step)⟩
                    · rw [if_neg c26] at H
                      exact absurd H (by simp)
                  · rw [if_neg c25] at H
                    exact absurd H (by simp)
                · rw [if_neg c24] at H
                  exact absurd H (by simp)
              · rw [if_neg c23] at H
                exact absurd H (by simp)
            · rw [if_neg c21] at H
              exact absurd H (by simp)
          · rw [if_neg c19] at H
            have c19b0 : decide (0 < x11_1) = false := decide_eq_false c19
            clear c19
            (first | rw [c19b0] | (simp only [i64_w, i32_w]; rw [c19b0]) | skip)
            have H' := Aside0.mk H
            clear H
            go_wp2
            go_meet
            case rel => exact ⟨_, (x9_1), (by first | rfl | (simp; done) | (simp [*]; done)), H', ⟨by have := HK1.out; first | omega | exact Nat.le_refl _⟩, by repeat (first | exact Drawn0.refl _ | apply Drawn0.step)⟩
        case rest =>
          clear HC18
          try clear c1
          try clear c2
          try clear p2
          try clear c5
          try clear c5b0
          try clear c6
          try clear c6b0
          try clear p6
          try clear p7
          try clear q7
          try clear hx7
          try clear c8
          try clear c8b0
          try clear c10
          try clear c10b0
          try clear c10b1
          try clear c12
          try clear c12b0
          try clear c12b1
          try clear c13
          try clear c13b0
          try clear c13b1
          try clear c14
          try clear c14b0
          try clear c14b1
          try clear c15
          try clear c15b0
          try clear c15b1
          try clear c15b2
          try clear c16
          try clear c16b0
          try clear c19
          try clear c19b0
          try clear c21
          try clear c21b0
          try clear c21b1
          try clear c23
          try clear c23b0
          try clear c23b1
          try clear c24
          try clear c24b0
          try clear c24b1
          try clear c25
          try clear c25b0
          try clear c25b1
          try clear c26
          try clear c26b0
          try clear c26b1
          try clear c26b2
          try clear p2
          try clear p6
          try clear p7
          try clear q7
          obtain ⟨kq, x9_17, rfl, HA, HJ17, ⟨mc17, rfl⟩⟩ := hcut
          cases kq with
          | zero => exact absurd HA.out (by simp [spec_encoded.j2])
          | succ kj17 =>
            have H := HA.out
            clear HA
            simp only [spec_encoded.j2] at H
            have H' := Aside0.mk H
            clear H
            go_wp2
            go_loopg [9] kj17 (fun kq v9 w' => ∃ (x9_3 : ByteArray), v9 = .string x9_3 ∧ Aside0 (spec_encoded.l2 kq a3 x9_3 = some r) ∧ Aside0 (kq ≤ kj17) ∧ Drawn0 w w')
            case atStart => exact ⟨(x9_17), (by first | rfl | (simp; done) | (simp [*]; done)), H', ⟨Nat.le_refl _⟩, by repeat (first | exact Drawn0.refl _ | apply Drawn0.step)⟩
            case round =>
              clear H'
              try clear c1
              try clear c2
              try clear p2
              try clear c5
              try clear c5b0
              try clear c6
              try clear c6b0
              try clear p6
              try clear p7
              try clear q7
              try clear hx7
              try clear c8
              try clear c8b0
              try clear c10
              try clear c10b0
              try clear c10b1
              try clear c12
              try clear c12b0
              try clear c12b1
              try clear c13
              try clear c13b0
              try clear c13b1
              try clear c14
              try clear c14b0
              try clear c14b1
              try clear c15
              try clear c15b0
              try clear c15b1
              try clear c15b2
              try clear c16
              try clear c16b0
              try clear c17
              try clear c19
              try clear c19b0
              try clear c21
              try clear c21b0
              try clear c21b1
              try clear c23
              try clear c23b0
              try clear c23b1
              try clear c24
              try clear c24b0
              try clear c24b1
              try clear c25
              try clear c25b0
              try clear c25b1
              try clear c26
              try clear c26b0
              try clear c26b1
              try clear c26b2
              try clear p2
              try clear p6
              try clear p7
              try clear q7
              obtain ⟨x9_3, rfl, HA, HK3, ⟨m3, rfl⟩⟩ := hrel
              cases gk with
              | zero => exact absurd HA.out (by simp [spec_encoded.l2])
              | succ k3 =>
                have H := HA.out
                clear HA
                simp only [spec_encoded.l2] at H
                by_cases c27 : a3 = 0
                · rw [if_pos c27] at H
                  exact absurd H (by simp)
                · rw [if_neg c27] at H
                  have c27b0 : (a3 == 0) = false := beq_eq_false_iff_ne.mpr c27
                  have c27b1 : (a3 != 0) = true := bne_iff_ne.mpr c27
                  by_cases c28 : ((x9_3.size : Int) % a3) = 0
                  · rw [if_pos c28] at H
                    have c28b0 : (((x9_3.size : Int) % a3) == 0) = true := beq_iff_eq.mpr c28
                    have c28b1 : (((x9_3.size : Int) % a3) != 0) = false := bne_eq_false_iff_eq.mpr c28
                    clear c28
                    obtain rfl := Option.some.inj H
                    go_wp2
                    go_ret
                    exact ⟨by first | rfl | (simp; done) | (simp [*]; done), by repeat (first | exact Drawn0.refl _ | apply Drawn0.step)⟩
                  · rw [if_neg c28] at H
                    have c28b0 : (((x9_3.size : Int) % a3) == 0) = false := beq_eq_false_iff_ne.mpr c28
                    have c28b1 : (((x9_3.size : Int) % a3) != 0) = true := bne_iff_ne.mpr c28
                    by_cases c29 : x9_3.size + 1 ≤ 9223372036854775807
                    · rw [if_pos c29] at H
                      have c29b0 := eq_true c29
                      have c29b1 : decide (x9_3.size + 1 ≤ 9223372036854775807) = true := decide_eq_true c29
                      try have c29b2 : (9223372036854775807 < x9_3.size + 1) = False := eq_false (Nat.not_lt.2 c29)
                      have H' := Aside0.mk H
                      clear H
                      go_wp2
                      go_roundg k3
                      case measure => have := HK1.out; have := HJ17.out; have := HK3.out; omega
                      case rel => exact ⟨(x9_3 ++ (⟨#[61]⟩ : ByteArray)), (by first | rfl | (simp; done) | (simp [*]; done)), H', ⟨by have := HK1.out; have := HJ17.out; have := HK3.out; omega⟩, by repeat (first | exact Drawn0.refl _ | apply Drawn0.step)⟩
                    · rw [if_neg c29] at H
                      exact absurd H (by simp)

/-! ### spec_Base64: function 6 -/
def spec_Base64.f (k : Nat) (a0 : ByteArray) : Option (ByteArray) := (spec_encoded.f k a0 (⟨#[65, 66, 67, 68, 69, 70, 71, 72, 73, 74, 75, 76, 77, 78, 79, 80, 81, 82, 83, 84, 85, 86, 87, 88, 89, 90, 97, 98, 99, 100, 101, 102, 103, 104, 105, 106, 107, 108, 109, 110, 111, 112, 113, 114, 115, 116, 117, 118, 119, 120, 121, 122, 48, 49, 50, 51, 52, 53, 54, 55, 56, 57, 43, 47]⟩ : ByteArray) 6 4).bind fun t101 => (some t101)
theorem spec_Base64.mono : ∀ a0 k, LeO (spec_Base64.f k a0) (spec_Base64.f (k + 1) a0) := by
  intro a0 k
  unfold spec_Base64.f
  repeat' first
      | (with_reducible exact spec_encoded.mono _ _ _ _ _)
      | (with_reducible exact LeO.refl _)
      | (with_reducible exact LeO.none _)
      | (with_reducible refine LeO.ite ?_ ?_)
      | (with_reducible refine LeO.bind ?_ (fun _ => ?_))
      | exact spec_encoded.mono _ _ _ _ _
      | exact LeO.none _
      | refine LeO.ite ?_ ?_
      | refine LeO.bind ?_ (fun _ => ?_)
set_option maxHeartbeats 8000000 in
set_option maxRecDepth 100000 in
theorem spec_Base64.calls (k : Nat) (a0 : ByteArray) (r : ByteArray) (w : World) (h : spec_Base64.f k a0 = some r) :
    Calls Try.prog 6 #[.string a0] w fun e w' => e = .returned (.string r) ∧ Drawn0 w w' := by
  have H : ((spec_encoded.f k a0 (⟨#[65, 66, 67, 68, 69, 70, 71, 72, 73, 74, 75, 76, 77, 78, 79, 80, 81, 82, 83, 84, 85, 86, 87, 88, 89, 90, 97, 98, 99, 100, 101, 102, 103, 104, 105, 106, 107, 108, 109, 110, 111, 112, 113, 114, 115, 116, 117, 118, 119, 120, 121, 122, 48, 49, 50, 51, 52, 53, 54, 55, 56, 57, 43, 47]⟩ : ByteArray) 6 4).bind fun t101 => (some t101)) = some r := h
  clear h
  replace H := Option.bind_eq_some_iff.mp H
  obtain ⟨t101, A20, H⟩ := H
  replace H : (some t101) = some r := H
  have A2 := Aside0.mk A20
  clear A20
  obtain rfl := Option.some.inj H
  go_enter Try.func6, Try.ntmps6
  go_wp2_with (first | ((with_reducible refine gate_callee (f := 14) rfl ?_); refine goesL_ (some 4) rfl rfl Try.func14 (by kernel_rfl) rfl #[.string a0, .string (⟨#[65, 66, 67, 68, 69, 70, 71, 72, 73, 74, 75, 76, 77, 78, 79, 80, 81, 82, 83, 84, 85, 86, 87, 88, 89, 90, 97, 98, 99, 100, 101, 102, 103, 104, 105, 106, 107, 108, 109, 110, 111, 112, 113, 114, 115, 116, 117, 118, 119, 120, 121, 122, 48, 49, 50, 51, 52, 53, 54, 55, 56, 57, 43, 47]⟩ : ByteArray), .int .i64 6, .int .i64 4] rfl (by (try simp only [List.map_toArray, List.map_cons, List.map_nil]); first | done | rfl | (simp only [List.length_drop, List.length_take]; rfl)) ?_; (with_reducible refine (spec_encoded.calls k a0 (⟨#[65, 66, 67, 68, 69, 70, 71, 72, 73, 74, 75, 76, 77, 78, 79, 80, 81, 82, 83, 84, 85, 86, 87, 88, 89, 90, 97, 98, 99, 100, 101, 102, 103, 104, 105, 106, 107, 108, 109, 110, 111, 112, 113, 114, 115, 116, 117, 118, 119, 120, 121, 122, 48, 49, 50, 51, 52, 53, 54, 55, 56, 57, 43, 47]⟩ : ByteArray) 6 4 t101 _ A2.out).mono ?_); rintro e w' ⟨rfl, ⟨nd, rfl⟩⟩; refine ⟨_, rfl, ?_⟩))
  go_ret
  exact ⟨by first | rfl | (simp; done) | (simp [*]; done), by repeat (first | exact Drawn0.refl _ | apply Drawn0.step)⟩

/-! ### base64_decodedLen: function 38 -/
def base64_decodedLen.f (a0 : Int) (a1 : Int) : Option (Int) := if a1 = (-1) then (some (wrap64 ((wrap64 ((wrap64 (Int.tdiv a0 4)) * 3)) + (wrap64 (Int.tdiv (wrap64 ((Int.tmod a0 4) * 6)) 8))))) else (some (wrap64 ((wrap64 (Int.tdiv a0 4)) * 3)))
set_option maxHeartbeats 8000000 in
set_option maxRecDepth 100000 in
theorem base64_decodedLen.calls (a0 : Int) (a1 : Int) (r : Int) (w : World) (h : base64_decodedLen.f a0 a1 = some r) :
    Calls Try.prog 38 #[.int .i64 a0, .int .i32 a1] w fun e w' => e = .returned (.int .i64 r) ∧ Drawn0 w w' := by
  have H : (if a1 = (-1) then (some (wrap64 ((wrap64 ((wrap64 (Int.tdiv a0 4)) * 3)) + (wrap64 (Int.tdiv (wrap64 ((Int.tmod a0 4) * 6)) 8))))) else (some (wrap64 ((wrap64 (Int.tdiv a0 4)) * 3)))) = some r := h
  clear h
  by_cases c3 : a1 = (-1)
  · rw [if_pos c3] at H
    have c3b0 : (a1 == (-1)) = true := beq_iff_eq.mpr c3
    have c3b1 : (a1 != (-1)) = false := bne_eq_false_iff_eq.mpr c3
    clear c3
    obtain rfl := Option.some.inj H
    go_enter Try.func38, Try.ntmps38
    go_wp2
    go_ret
    exact ⟨by first | rfl | (simp; done) | (simp [*]; done), by repeat (first | exact Drawn0.refl _ | apply Drawn0.step)⟩
  · rw [if_neg c3] at H
    have c3b0 : (a1 == (-1)) = false := beq_eq_false_iff_ne.mpr c3
    have c3b1 : (a1 != (-1)) = true := bne_iff_ne.mpr c3
    obtain rfl := Option.some.inj H
    go_enter Try.func38, Try.ntmps38
    go_wp2
    go_ret
    exact ⟨by first | rfl | (simp; done) | (simp [*]; done), by repeat (first | exact Drawn0.refl _ | apply Drawn0.step)⟩

-- NOT PRINTED: function 33 (base64_Encoding_DecodedLen)

/-! ### base64_assemble64: function 39 -/
def base64_assemble64.f (a0 : Int) (a1 : Int) (a2 : Int) (a3 : Int) (a4 : Int) (a5 : Int) (a6 : Int) (a7 : Int) : Option (Int × Bool) := if (Go.bits .or .u8 (Go.bits .or .u8 (Go.bits .or .u8 (Go.bits .or .u8 (Go.bits .or .u8 (Go.bits .or .u8 (Go.bits .or .u8 a0 a1) a2) a3) a4) a5) a6) a7) = 255 then (some (0, false)) else (some (Go.bits .or .u64 (Go.bits .or .u64 (Go.bits .or .u64 (Go.bits .or .u64 (Go.bits .or .u64 (Go.bits .or .u64 (Go.bits .or .u64 (IntKind.u64.wrap ((IntKind.u64.wrap (a0)) * 288230376151711744)) (IntKind.u64.wrap ((IntKind.u64.wrap (a1)) * 4503599627370496))) (IntKind.u64.wrap ((IntKind.u64.wrap (a2)) * 70368744177664))) (IntKind.u64.wrap ((IntKind.u64.wrap (a3)) * 1099511627776))) (IntKind.u64.wrap ((IntKind.u64.wrap (a4)) * 17179869184))) (IntKind.u64.wrap ((IntKind.u64.wrap (a5)) * 268435456))) (IntKind.u64.wrap ((IntKind.u64.wrap (a6)) * 4194304))) (IntKind.u64.wrap ((IntKind.u64.wrap (a7)) * 65536)), true))
set_option maxHeartbeats 8000000 in
set_option maxRecDepth 100000 in
theorem base64_assemble64.calls (a0 : Int) (a1 : Int) (a2 : Int) (a3 : Int) (a4 : Int) (a5 : Int) (a6 : Int) (a7 : Int) (r1 : Int) (r2 : Bool) (w : World) (h : base64_assemble64.f a0 a1 a2 a3 a4 a5 a6 a7 = some (r1, r2)) :
    Calls Try.prog 39 #[.int .u8 a0, .int .u8 a1, .int .u8 a2, .int .u8 a3, .int .u8 a4, .int .u8 a5, .int .u8 a6, .int .u8 a7] w fun e w' => e = .returned (.tuple #[.int .u64 r1, .bool r2]) ∧ Drawn0 w w' := by
  have H : (if (Go.bits .or .u8 (Go.bits .or .u8 (Go.bits .or .u8 (Go.bits .or .u8 (Go.bits .or .u8 (Go.bits .or .u8 (Go.bits .or .u8 a0 a1) a2) a3) a4) a5) a6) a7) = 255 then (some (0, false)) else (some (Go.bits .or .u64 (Go.bits .or .u64 (Go.bits .or .u64 (Go.bits .or .u64 (Go.bits .or .u64 (Go.bits .or .u64 (Go.bits .or .u64 (IntKind.u64.wrap ((IntKind.u64.wrap (a0)) * 288230376151711744)) (IntKind.u64.wrap ((IntKind.u64.wrap (a1)) * 4503599627370496))) (IntKind.u64.wrap ((IntKind.u64.wrap (a2)) * 70368744177664))) (IntKind.u64.wrap ((IntKind.u64.wrap (a3)) * 1099511627776))) (IntKind.u64.wrap ((IntKind.u64.wrap (a4)) * 17179869184))) (IntKind.u64.wrap ((IntKind.u64.wrap (a5)) * 268435456))) (IntKind.u64.wrap ((IntKind.u64.wrap (a6)) * 4194304))) (IntKind.u64.wrap ((IntKind.u64.wrap (a7)) * 65536)), true))) = some (r1, r2) := h
  clear h
  by_cases c9 : (Go.bits .or .u8 (Go.bits .or .u8 (Go.bits .or .u8 (Go.bits .or .u8 (Go.bits .or .u8 (Go.bits .or .u8 (Go.bits .or .u8 a0 a1) a2) a3) a4) a5) a6) a7) = 255
  · rw [if_pos c9] at H
    have c9b0 : ((Go.bits .or .u8 (Go.bits .or .u8 (Go.bits .or .u8 (Go.bits .or .u8 (Go.bits .or .u8 (Go.bits .or .u8 (Go.bits .or .u8 a0 a1) a2) a3) a4) a5) a6) a7) == 255) = true := beq_iff_eq.mpr c9
    have c9b1 : ((Go.bits .or .u8 (Go.bits .or .u8 (Go.bits .or .u8 (Go.bits .or .u8 (Go.bits .or .u8 (Go.bits .or .u8 (Go.bits .or .u8 a0 a1) a2) a3) a4) a5) a6) a7) != 255) = false := bne_eq_false_iff_eq.mpr c9
    clear c9
    simp only [Option.some.injEq, Prod.mk.injEq] at H
    obtain ⟨rfl, rfl⟩ := H
    go_enter Try.func39, Try.ntmps39
    go_wp2
    go_ret2
    exact ⟨by first | rfl | (simp; done) | (simp [*]; done), by repeat (first | exact Drawn0.refl _ | apply Drawn0.step)⟩
  · rw [if_neg c9] at H
    have c9b0 : ((Go.bits .or .u8 (Go.bits .or .u8 (Go.bits .or .u8 (Go.bits .or .u8 (Go.bits .or .u8 (Go.bits .or .u8 (Go.bits .or .u8 a0 a1) a2) a3) a4) a5) a6) a7) == 255) = false := beq_eq_false_iff_ne.mpr c9
    have c9b1 : ((Go.bits .or .u8 (Go.bits .or .u8 (Go.bits .or .u8 (Go.bits .or .u8 (Go.bits .or .u8 (Go.bits .or .u8 (Go.bits .or .u8 a0 a1) a2) a3) a4) a5) a6) a7) != 255) = true := bne_iff_ne.mpr c9
    simp only [Option.some.injEq, Prod.mk.injEq] at H
    obtain ⟨rfl, rfl⟩ := H
    go_enter Try.func39, Try.ntmps39
    go_wp2
    go_ret2
    exact ⟨by first | rfl | (simp; done) | (simp [*]; done), by repeat (first | exact Drawn0.refl _ | apply Drawn0.step)⟩

/-! ### byteorder_BEPutUint64: function 40 -/
def byteorder_BEPutUint64.f (l0 : List Int) (a1 : Int) : Option (List Int) := if 7 < (l0.length : Int) then (if 0 < (l0.length : Int) then (if 1 < (l0.length : Int) then (if 2 < (l0.length : Int) then (if 3 < (l0.length : Int) then (if 4 < (l0.length : Int) then (if 5 < (l0.length : Int) then (if 6 < (l0.length : Int) then (some ((((((((l0.set (0 : Int).toNat ((a1 / 72057594037927936) % 256)).set (1 : Int).toNat ((a1 / 281474976710656) % 256)).set (2 : Int).toNat ((a1 / 1099511627776) % 256)).set (3 : Int).toNat ((a1 / 4294967296) % 256)).set (4 : Int).toNat ((a1 / 16777216) % 256)).set (5 : Int).toNat ((a1 / 65536) % 256)).set (6 : Int).toNat ((a1 / 256) % 256)).set (7 : Int).toNat ((a1) % 256))) else (none)) else (none)) else (none)) else (none)) else (none)) else (none)) else (none)) else (none)
set_option maxHeartbeats 8000000 in
set_option maxRecDepth 100000 in
theorem byteorder_BEPutUint64.calls (P0_ : Nat → Prop) (u9000_ : Value) (l0 : List Int) (a1 : Int) (r : List Int) (w0 w : World) (hB : Below w0.heap.size w0 w) (ho0 : Kd.R (Kd.int .u8) 5 w w0.heap.size P0_ u9000_ l0) (h : byteorder_BEPutUint64.f l0 a1 = some r) :
    Calls Try.prog 40 #[u9000_, .int .u64 a1] w fun e w' => e = .returned (.tuple #[]) ∧ Kd.R (Kd.int .u8) 5 w' w0.heap.size (fun k_ => (P0_ k_ ∨ w.heap.size ≤ k_)) u9000_ r ∧ Below w0.heap.size w0 w' ∧ Kept w w' (fun k_ => P0_ k_) := by
  have HO0 := Aside0.mk (show Kd.R (Kd.int .u8) 5 w w0.heap.size (fun k_ => (P0_ k_ ∨ w.heap.size ≤ k_)) u9000_ l0 from Kd.R_mono ho0 (fun k_ hk => (.inl hk)))
  have HK := Aside0.mk (Kept.refl w (fun k_ => P0_ k_))
  have HW0 := Aside0.mk hB.size
  have HB := Aside0.mk hB
  clear hB
  have H : (if 7 < (l0.length : Int) then (if 0 < (l0.length : Int) then (if 1 < (l0.length : Int) then (if 2 < (l0.length : Int) then (if 3 < (l0.length : Int) then (if 4 < (l0.length : Int) then (if 5 < (l0.length : Int) then (if 6 < (l0.length : Int) then (some ((((((((l0.set (0 : Int).toNat ((a1 / 72057594037927936) % 256)).set (1 : Int).toNat ((a1 / 281474976710656) % 256)).set (2 : Int).toNat ((a1 / 1099511627776) % 256)).set (3 : Int).toNat ((a1 / 4294967296) % 256)).set (4 : Int).toNat ((a1 / 16777216) % 256)).set (5 : Int).toNat ((a1 / 65536) % 256)).set (6 : Int).toNat ((a1 / 256) % 256)).set (7 : Int).toNat ((a1) % 256))) else (none)) else (none)) else (none)) else (none)) else (none)) else (none)) else (none)) else (none)) = some r := h
  clear h
  by_cases c3 : 7 < (l0.length : Int)
  · rw [if_pos c3] at H
    have c3b0 : decide (7 < (l0.length : Int)) = true := decide_eq_true c3
    have c3b1 : decide (7 < l0.length) = true := decide_eq_true (by omega)
    clear c3
    by_cases c4 : 0 < (l0.length : Int)
    · rw [if_pos c4] at H
      have c4b0 : decide (0 < (l0.length : Int)) = true := decide_eq_true c4
      have c4b1 : decide (0 < l0.length) = true := decide_eq_true (by omega)
      clear c4
      obtain ⟨y103, hy103⟩ : ∃ y_ : List Int, y_ = (l0.set (0 : Int).toNat ((a1 / 72057594037927936) % 256)) := ⟨_, rfl⟩
      replace H : (if 1 < (l0.length : Int) then (if 2 < (l0.length : Int) then (if 3 < (l0.length : Int) then (if 4 < (l0.length : Int) then (if 5 < (l0.length : Int) then (if 6 < (l0.length : Int) then (some (((((((y103.set (1 : Int).toNat ((a1 / 281474976710656) % 256)).set (2 : Int).toNat ((a1 / 1099511627776) % 256)).set (3 : Int).toNat ((a1 / 4294967296) % 256)).set (4 : Int).toNat ((a1 / 16777216) % 256)).set (5 : Int).toNat ((a1 / 65536) % 256)).set (6 : Int).toNat ((a1 / 256) % 256)).set (7 : Int).toNat ((a1) % 256))) else (none)) else (none)) else (none)) else (none)) else (none)) else (none)) = some r := by first | (rw [hy103]; with_reducible exact H) | (have H2_ := (Option.bind_some _ _).symm.trans H; rw [hy103]; with_reducible exact H2_) | (have H2_ := (Option.bind_some _ _).symm.trans H; with_reducible exact H2_) | with_reducible exact H | (rw [hy103]; exact H) | exact H
      have Ny103 := Aside0.mk hy103
      clear hy103
      by_cases c6 : 1 < (l0.length : Int)
      · rw [if_pos c6] at H
        have c6b0 : decide (1 < (l0.length : Int)) = true := decide_eq_true c6
        have c6b1 : decide (1 < l0.length) = true := decide_eq_true (by omega)
        clear c6
        obtain ⟨y104, hy104⟩ : ∃ y_ : List Int, y_ = (y103.set (1 : Int).toNat ((a1 / 281474976710656) % 256)) := ⟨_, rfl⟩
        replace H : (if 2 < (l0.length : Int) then (if 3 < (l0.length : Int) then (if 4 < (l0.length : Int) then (if 5 < (l0.length : Int) then (if 6 < (l0.length : Int) then (some ((((((y104.set (2 : Int).toNat ((a1 / 1099511627776) % 256)).set (3 : Int).toNat ((a1 / 4294967296) % 256)).set (4 : Int).toNat ((a1 / 16777216) % 256)).set (5 : Int).toNat ((a1 / 65536) % 256)).set (6 : Int).toNat ((a1 / 256) % 256)).set (7 : Int).toNat ((a1) % 256))) else (none)) else (none)) else (none)) else (none)) else (none)) = some r := by first | (rw [hy104]; with_reducible exact H) | (have H2_ := (Option.bind_some _ _).symm.trans H; rw [hy104]; with_reducible exact H2_) | (have H2_ := (Option.bind_some _ _).symm.trans H; with_reducible exact H2_) | with_reducible exact H | (rw [hy104]; exact H) | exact H
        have Ny104 := Aside0.mk hy104
        clear hy104
        by_cases c8 : 2 < (l0.length : Int)
        · rw [if_pos c8] at H
          have c8b0 : decide (2 < (l0.length : Int)) = true := decide_eq_true c8
          have c8b1 : decide (2 < l0.length) = true := decide_eq_true (by omega)
          clear c8
          obtain ⟨y105, hy105⟩ : ∃ y_ : List Int, y_ = (y104.set (2 : Int).toNat ((a1 / 1099511627776) % 256)) := ⟨_, rfl⟩
          replace H : (if 3 < (l0.length : Int) then (if 4 < (l0.length : Int) then (if 5 < (l0.length : Int) then (if 6 < (l0.length : Int) then (some (((((y105.set (3 : Int).toNat ((a1 / 4294967296) % 256)).set (4 : Int).toNat ((a1 / 16777216) % 256)).set (5 : Int).toNat ((a1 / 65536) % 256)).set (6 : Int).toNat ((a1 / 256) % 256)).set (7 : Int).toNat ((a1) % 256))) else (none)) else (none)) else (none)) else (none)) = some r := by first | (rw [hy105]; with_reducible exact H) | (have H2_ := (Option.bind_some _ _).symm.trans H; rw [hy105]; with_reducible exact H2_) | (have H2_ := (Option.bind_some _ _).symm.trans H; with_reducible exact H2_) | with_reducible exact H | (rw [hy105]; exact H) | exact H
          have Ny105 := Aside0.mk hy105
          clear hy105
          by_cases c10 : 3 < (l0.length : Int)
          · rw [if_pos c10] at H
            have c10b0 : decide (3 < (l0.length : Int)) = true := decide_eq_true c10
            have c10b1 : decide (3 < l0.length) = true := decide_eq_true (by omega)
            clear c10
            obtain ⟨y106, hy106⟩ : ∃ y_ : List Int, y_ = (y105.set (3 : Int).toNat ((a1 / 4294967296) % 256)) := ⟨_, rfl⟩
            replace H : (if 4 < (l0.length : Int) then (if 5 < (l0.length : Int) then (if 6 < (l0.length : Int) then (some ((((y106.set (4 : Int).toNat ((a1 / 16777216) % 256)).set (5 : Int).toNat ((a1 / 65536) % 256)).set (6 : Int).toNat ((a1 / 256) % 256)).set (7 : Int).toNat ((a1) % 256))) else (none)) else (none)) else (none)) = some r := by first | (rw [hy106]; with_reducible exact H) | (have H2_ := (Option.bind_some _ _).symm.trans H; rw [hy106]; with_reducible exact H2_) | (have H2_ := (Option.bind_some _ _).symm.trans H; with_reducible exact H2_) | with_reducible exact H | (rw [hy106]; exact H) | exact H
            have Ny106 := Aside0.mk hy106
            clear hy106
            by_cases c12 : 4 < (l0.length : Int)
            · rw [if_pos c12] at H
              have c12b0 : decide (4 < (l0.length : Int)) = true := decide_eq_true c12
              have c12b1 : decide (4 < l0.length) = true := decide_eq_true (by omega)
              clear c12
              obtain ⟨y107, hy107⟩ : ∃ y_ : List Int, y_ = (y106.set (4 : Int).toNat ((a1 / 16777216) % 256)) := ⟨_, rfl⟩
              replace H : (if 5 < (l0.length : Int) then (if 6 < (l0.length : Int) then (some (((y107.set (5 : Int).toNat ((a1 / 65536) % 256)).set (6 : Int).toNat ((a1 / 256) % 256)).set (7 : Int).toNat ((a1) % 256))) else (none)) else (none)) = some r := by first | (rw [hy107]; with_reducible exact H) | (have H2_ := (Option.bind_some _ _).symm.trans H; rw [hy107]; with_reducible exact H2_) | (have H2_ := (Option.bind_some _ _).symm.trans H; with_reducible exact H2_) | with_reducible exact H | (rw [hy107]; exact H) | exact H
              have Ny107 := Aside0.mk hy107
              clear hy107
              by_cases c14 : 5 < (l0.length : Int)
              · rw [if_pos c14] at H
                have c14b0 : decide (5 < (l0.length : Int)) = true := decide_eq_true c14
                have c14b1 : decide (5 < l0.length) = true := decide_eq_true (by omega)
                clear c14
                obtain ⟨y108, hy108⟩ : ∃ y_ : List Int, y_ = (y107.set (5 : Int).toNat ((a1 / 65536) % 256)) := ⟨_, rfl⟩
                replace H : (if 6 < (l0.length : Int) then (some ((y108.set (6 : Int).toNat ((a1 / 256) % 256)).set (7 : Int).toNat ((a1) % 256))) else (none)) = some r := by first | (rw [hy108]; with_reducible exact H) | (have H2_ := (Option.bind_some _ _).symm.trans H; rw [hy108]; with_reducible exact H2_) | (have H2_ := (Option.bind_some _ _).symm.trans H; with_reducible exact H2_) | with_reducible exact H | (rw [hy108]; exact H) | exact H
                have Ny108 := Aside0.mk hy108
                clear hy108
                by_cases c16 : 6 < (l0.length : Int)
                · rw [if_pos c16] at H
                  have c16b0 : decide (6 < (l0.length : Int)) = true := decide_eq_true c16
                  have c16b1 : decide (6 < l0.length) = true := decide_eq_true (by omega)
                  clear c16
                  obtain ⟨y109, hy109⟩ : ∃ y_ : List Int, y_ = (y108.set (6 : Int).toNat ((a1 / 256) % 256)) := ⟨_, rfl⟩
                  replace H : (some (y109.set (7 : Int).toNat ((a1) % 256))) = some r := by first | (rw [hy109]; with_reducible exact H) | (have H2_ := (Option.bind_some _ _).symm.trans H; rw [hy109]; with_reducible exact H2_) | (have H2_ := (Option.bind_some _ _).symm.trans H; with_reducible exact H2_) | with_reducible exact H | (rw [hy109]; exact H) | exact H
                  have Ny109 := Aside0.mk hy109
                  clear hy109
                  obtain ⟨y110, hy110⟩ : ∃ y_ : List Int, y_ = (y109.set (7 : Int).toNat ((a1) % 256)) := ⟨_, rfl⟩
                  replace H : (some y110) = some r := by first | (rw [hy110]; with_reducible exact H) | (have H2_ := (Option.bind_some _ _).symm.trans H; rw [hy110]; with_reducible exact H2_) | (have H2_ := (Option.bind_some _ _).symm.trans H; with_reducible exact H2_) | with_reducible exact H | (rw [hy110]; exact H) | exact H
                  have Ny110 := Aside0.mk hy110
                  clear hy110
                  obtain rfl := Option.some.inj H
                  obtain ⟨Ao19, co19, eo19⟩ := Kd.R_slice HO0.out
                  subst eo19
                  have p102 : 0 ≤ (7 : Int) := (by omega)
                  have q102 : 7 < (l0.length : Int) := of_decide_eq_true (by first | (with_reducible assumption) | assumption)
                  obtain ⟨ad102, e102, hx102_0⟩ := Kd.at_int (Kd.R_reads' HO0.out).2.2 7 p102 q102
                  cases e102
                  (try simp only [show (7 : Int).toNat = 7 from rfl, Nat.reduceMul, Nat.reduceEqDiff, Go.Addr.add, ↓reduceIte] at hx102_0)
                  have qi102 : (7 < l0.length) = True := eq_true (by omega)
                  (try rw [show ((7 : Int)).toNat = 7 from rfl] at hx102_0)
                  replace p102 := eq_true p102
                  replace q102 := eq_true q102
                  have p5 : 0 ≤ (0 : Int) := (by omega)
                  have q5 : (0 : Int) < ((l0.length : Int) : Int) := of_decide_eq_true (by first | (with_reducible assumption) | assumption)
                  have qi5 : (0 < l0.length) = True := eq_true (by omega)
                  obtain ⟨go5, co5, eo5, gb5, gl5, cl5, HG5⟩ := Kd.R_form HO0.out (by omega)
                  (first | cases eo5 | (injection eo5 with ea_ en_ ec_; (first | subst ea_ | (injection ea_ with ea_; subst ea_)); subst ec_; clear en_))
                  have GB5 := Aside0.mk gb5
                  have GG5 := Aside0.mk HG5
                  clear gb5 gl5 HG5
                  have HMgo5 := Aside0.mk (show (P0_ go5 ∨ w.heap.size ≤ go5) from (HO0.out.1 _ rfl))
                  (first | simp only [add_plain] at hx102_0 | skip)
                  obtain ⟨hx5_0, hf5_0⟩ := Kd.R_celln 0 HO0.out (0 : Int) p5 q5
                  (try rw [show ((0 : Int)).toNat = 0 from rfl] at hx5_0)
                  (try simp only [Nat.reduceMul, Nat.zero_mul, Nat.zero_add, Nat.reduceAdd] at hx5_0)
                  (try rw [show ((0 : Int)).toNat = 0 from rfl] at hf5_0)
                  (try simp only [Nat.reduceMul, Nat.zero_mul, Nat.zero_add, Nat.reduceAdd] at hf5_0)
                  replace p5 := eq_true p5
                  replace q5 := eq_true q5
                  have HP20 := Kd.R_putg HO0.out (0 : Int) ((a1 / 72057594037927936) % 256)
                  go_enter Try.func40, Try.ntmps40
                  go_wp2_with (first | ((with_reducible refine gate_store (t := 5) (p := 11) rfl ?_); refine store_event (t := 5) (p := 11) (v := ?vo_w21) (w1 := (w.setCell ⟨go5, (0 : Int).toNat, none⟩ (.int .u8 ((a1 / 72057594037927936) % 256)))) ?hg ?ho ?hn ?hr ?_; (case ho => rfl); (case hg => rfl); (case hn => rfl); (case hr => first | (go_simp; done) | (go_simp; rfl)); intro w21 hw; have hg : w.grownBy w21 (some go5) := (by rw [hw]; exact HP20.2); have hp_ : Kd.R (Kd.int .u8) 5 w21 w0.heap.size (fun k_ => (P0_ k_ ∨ w.heap.size ≤ k_)) (.slice (some ⟨go5, 0, none⟩) l0.length co19) y103 := (by rw [hw, Ny103.out]; exact HP20.1); clear HP20; have n0_ := Aside0.mk (hp_); have n1_ := Aside0.mk ((by rw [hw]; exact below_set (HB.out) GB5.out : Below w0.heap.size w0 w21)); have n2_ := Aside0.mk (Kept.of_grown (S := (fun k_ => P0_ k_)) hg (by repeat (first | (with_reducible first | exact HK.out | apply Kept.alloc | apply Kept.drewN | apply Kept.drew) | exact HK.out)) (fun k_ e_ => (HO0.out.1 k_ e_))); clear HO0; clear HB; clear HK; have HO0 := n0_; have HB := n1_; have HK := n2_; clear n0_ n1_ n2_; clear hg hw hp_; have p7 : 0 ≤ (1 : Int) := (by omega); have q7 : (1 : Int) < ((l0.length : Int) : Int) := of_decide_eq_true (by first | (with_reducible assumption) | assumption); have qi7 : (1 < l0.length) = True := eq_true (by omega); obtain ⟨hx7_0, hf7_0⟩ := Kd.R_celln 0 HO0.out (1 : Int) p7 q7; (try rw [show ((1 : Int)).toNat = 1 from rfl] at hx7_0); (try simp only [Nat.reduceMul, Nat.zero_mul, Nat.zero_add, Nat.reduceAdd] at hx7_0); (try rw [show ((1 : Int)).toNat = 1 from rfl] at hf7_0); (try simp only [Nat.reduceMul, Nat.zero_mul, Nat.zero_add, Nat.reduceAdd] at hf7_0); replace p7 := eq_true p7; replace q7 := eq_true q7; obtain ⟨hy22_, hz22_⟩ := Kd.R_celln 0 HO0.out (1 : Int) (by omega) (of_decide_eq_true (by first | (with_reducible assumption) | assumption)); (try simp only [Int.reduceToNat, Int.toNat_zero, Int.toNat_ofNat, Nat.reduceMul, Nat.zero_mul, Nat.zero_add] at hy22_ hz22_); (try rw [show ((1 : Int)).toNat = 1 from rfl] at hy22_); (try rw [show ((1 : Int)).toNat = 1 from rfl] at hz22_); have HP22 := Kd.R_putg HO0.out (1 : Int) ((a1 / 281474976710656) % 256)) | ((with_reducible refine gate_store (t := 5) (p := 16) rfl ?_); refine store_event (t := 5) (p := 16) (v := ?vo_w23) (w1 := (w21.setCell ⟨go5, (1 : Int).toNat, none⟩ (.int .u8 ((a1 / 281474976710656) % 256)))) ?hg ?ho ?hn ?hr ?_; (case ho => rfl); (case hg => rfl); (case hn => rfl); (case hr => first | (go_simp; done) | (go_simp; rfl)); intro w23 hw; have hg : w21.grownBy w23 (some go5) := (by rw [hw]; exact HP22.2); have hp_ : Kd.R (Kd.int .u8) 5 w23 w0.heap.size (fun k_ => (P0_ k_ ∨ w.heap.size ≤ k_)) (.slice (some ⟨go5, 0, none⟩) l0.length co19) y104 := (by rw [hw, Ny104.out]; exact HP22.1); clear HP22; have n0_ := Aside0.mk (hp_); have n1_ := Aside0.mk ((by rw [hw]; exact below_set (HB.out) GB5.out : Below w0.heap.size w0 w23)); have n2_ := Aside0.mk (Kept.of_grown (S := (fun k_ => P0_ k_)) hg (by repeat (first | (with_reducible first | exact HK.out | apply Kept.alloc | apply Kept.drewN | apply Kept.drew) | exact HK.out)) (fun k_ e_ => (HO0.out.1 k_ e_))); clear HO0; clear HB; clear HK; have HO0 := n0_; have HB := n1_; have HK := n2_; clear n0_ n1_ n2_; clear hg hw hp_; have p9 : 0 ≤ (2 : Int) := (by omega); have q9 : (2 : Int) < ((l0.length : Int) : Int) := of_decide_eq_true (by first | (with_reducible assumption) | assumption); have qi9 : (2 < l0.length) = True := eq_true (by omega); obtain ⟨hx9_0, hf9_0⟩ := Kd.R_celln 0 HO0.out (2 : Int) p9 q9; (try rw [show ((2 : Int)).toNat = 2 from rfl] at hx9_0); (try simp only [Nat.reduceMul, Nat.zero_mul, Nat.zero_add, Nat.reduceAdd] at hx9_0); (try rw [show ((2 : Int)).toNat = 2 from rfl] at hf9_0); (try simp only [Nat.reduceMul, Nat.zero_mul, Nat.zero_add, Nat.reduceAdd] at hf9_0); replace p9 := eq_true p9; replace q9 := eq_true q9; obtain ⟨hy24_, hz24_⟩ := Kd.R_celln 0 HO0.out (2 : Int) (by omega) (of_decide_eq_true (by first | (with_reducible assumption) | assumption)); (try simp only [Int.reduceToNat, Int.toNat_zero, Int.toNat_ofNat, Nat.reduceMul, Nat.zero_mul, Nat.zero_add] at hy24_ hz24_); (try rw [show ((2 : Int)).toNat = 2 from rfl] at hy24_); (try rw [show ((2 : Int)).toNat = 2 from rfl] at hz24_); have HP24 := Kd.R_putg HO0.out (2 : Int) ((a1 / 1099511627776) % 256)) | ((with_reducible refine gate_store (t := 5) (p := 21) rfl ?_); refine store_event (t := 5) (p := 21) (v := ?vo_w25) (w1 := (w23.setCell ⟨go5, (2 : Int).toNat, none⟩ (.int .u8 ((a1 / 1099511627776) % 256)))) ?hg ?ho ?hn ?hr ?_; (case ho => rfl); (case hg => rfl); (case hn => rfl); (case hr => first | (go_simp; done) | (go_simp; rfl)); intro w25 hw; have hg : w23.grownBy w25 (some go5) := (by rw [hw]; exact HP24.2); have hp_ : Kd.R (Kd.int .u8) 5 w25 w0.heap.size (fun k_ => (P0_ k_ ∨ w.heap.size ≤ k_)) (.slice (some ⟨go5, 0, none⟩) l0.length co19) y105 := (by rw [hw, Ny105.out]; exact HP24.1); clear HP24; have n0_ := Aside0.mk (hp_); have n1_ := Aside0.mk ((by rw [hw]; exact below_set (HB.out) GB5.out : Below w0.heap.size w0 w25)); have n2_ := Aside0.mk (Kept.of_grown (S := (fun k_ => P0_ k_)) hg (by repeat (first | (with_reducible first | exact HK.out | apply Kept.alloc | apply Kept.drewN | apply Kept.drew) | exact HK.out)) (fun k_ e_ => (HO0.out.1 k_ e_))); clear HO0; clear HB; clear HK; have HO0 := n0_; have HB := n1_; have HK := n2_; clear n0_ n1_ n2_; clear hg hw hp_; have p11 : 0 ≤ (3 : Int) := (by omega); have q11 : (3 : Int) < ((l0.length : Int) : Int) := of_decide_eq_true (by first | (with_reducible assumption) | assumption); have qi11 : (3 < l0.length) = True := eq_true (by omega); obtain ⟨hx11_0, hf11_0⟩ := Kd.R_celln 0 HO0.out (3 : Int) p11 q11; (try rw [show ((3 : Int)).toNat = 3 from rfl] at hx11_0); (try simp only [Nat.reduceMul, Nat.zero_mul, Nat.zero_add, Nat.reduceAdd] at hx11_0); (try rw [show ((3 : Int)).toNat = 3 from rfl] at hf11_0); (try simp only [Nat.reduceMul, Nat.zero_mul, Nat.zero_add, Nat.reduceAdd] at hf11_0); replace p11 := eq_true p11; replace q11 := eq_true q11; obtain ⟨hy26_, hz26_⟩ := Kd.R_celln 0 HO0.out (3 : Int) (by omega) (of_decide_eq_true (by first | (with_reducible assumption) | assumption)); (try simp only [Int.reduceToNat, Int.toNat_zero, Int.toNat_ofNat, Nat.reduceMul, Nat.zero_mul, Nat.zero_add] at hy26_ hz26_); (try rw [show ((3 : Int)).toNat = 3 from rfl] at hy26_); (try rw [show ((3 : Int)).toNat = 3 from rfl] at hz26_); have HP26 := Kd.R_putg HO0.out (3 : Int) ((a1 / 4294967296) % 256)) | ((with_reducible refine gate_store (t := 5) (p := 26) rfl ?_); refine store_event (t := 5) (p := 26) (v := ?vo_w27) (w1 := (w25.setCell ⟨go5, (3 : Int).toNat, none⟩ (.int .u8 ((a1 / 4294967296) % 256)))) ?hg ?ho ?hn ?hr ?_; (case ho => rfl); (case hg => rfl); (case hn => rfl); (case hr => first | (go_simp; done) | (go_simp; rfl)); intro w27 hw; have hg : w25.grownBy w27 (some go5) := (by rw [hw]; exact HP26.2); have hp_ : Kd.R (Kd.int .u8) 5 w27 w0.heap.size (fun k_ => (P0_ k_ ∨ w.heap.size ≤ k_)) (.slice (some ⟨go5, 0, none⟩) l0.length co19) y106 := (by rw [hw, Ny106.out]; exact HP26.1); clear HP26; have n0_ := Aside0.mk (hp_); have n1_ := Aside0.mk ((by rw [hw]; exact below_set (HB.out) GB5.out : Below w0.heap.size w0 w27)); have n2_ := Aside0.mk (Kept.of_grown (S := (fun k_ => P0_ k_)) hg (by repeat (first | (with_reducible first | exact HK.out | apply Kept.alloc | apply Kept.drewN | apply Kept.drew) | exact HK.out)) (fun k_ e_ => (HO0.out.1 k_ e_))); clear HO0; clear HB; clear HK; have HO0 := n0_; have HB := n1_; have HK := n2_; clear n0_ n1_ n2_; clear hg hw hp_; have p13 : 0 ≤ (4 : Int) := (by omega); have q13 : (4 : Int) < ((l0.length : Int) : Int) := of_decide_eq_true (by first | (with_reducible assumption) | assumption); have qi13 : (4 < l0.length) = True := eq_true (by omega); obtain ⟨hx13_0, hf13_0⟩ := Kd.R_celln 0 HO0.out (4 : Int) p13 q13; (try rw [show ((4 : Int)).toNat = 4 from rfl] at hx13_0); (try simp only [Nat.reduceMul, Nat.zero_mul, Nat.zero_add, Nat.reduceAdd] at hx13_0); (try rw [show ((4 : Int)).toNat = 4 from rfl] at hf13_0); (try simp only [Nat.reduceMul, Nat.zero_mul, Nat.zero_add, Nat.reduceAdd] at hf13_0); replace p13 := eq_true p13; replace q13 := eq_true q13; obtain ⟨hy28_, hz28_⟩ := Kd.R_celln 0 HO0.out (4 : Int) (by omega) (of_decide_eq_true (by first | (with_reducible assumption) | assumption)); (try simp only [Int.reduceToNat, Int.toNat_zero, Int.toNat_ofNat, Nat.reduceMul, Nat.zero_mul, Nat.zero_add] at hy28_ hz28_); (try rw [show ((4 : Int)).toNat = 4 from rfl] at hy28_); (try rw [show ((4 : Int)).toNat = 4 from rfl] at hz28_); have HP28 := Kd.R_putg HO0.out (4 : Int) ((a1 / 16777216) % 256)) | ((with_reducible refine gate_store (t := 5) (p := 31) rfl ?_); refine store_event (t := 5) (p := 31) (v := ?vo_w29) (w1 := (w27.setCell ⟨go5, (4 : Int).toNat, none⟩ (.int .u8 ((a1 / 16777216) % 256)))) ?hg ?ho ?hn ?hr ?_; (case ho => rfl); (case hg => rfl); (case hn => rfl); (case hr => first | (go_simp; done) | (go_simp; rfl)); intro w29 hw; have hg : w27.grownBy w29 (some go5) := (by rw [hw]; exact HP28.2); have hp_ : Kd.R (Kd.int .u8) 5 w29 w0.heap.size (fun k_ => (P0_ k_ ∨ w.heap.size ≤ k_)) (.slice (some ⟨go5, 0, none⟩) l0.length co19) y107 := (by rw [hw, Ny107.out]; exact HP28.1); clear HP28; have n0_ := Aside0.mk (hp_); have n1_ := Aside0.mk ((by rw [hw]; exact below_set (HB.out) GB5.out : Below w0.heap.size w0 w29)); have n2_ := Aside0.mk (Kept.of_grown (S := (fun k_ => P0_ k_)) hg (by repeat (first | (with_reducible first | exact HK.out | apply Kept.alloc | apply Kept.drewN | apply Kept.drew) | exact HK.out)) (fun k_ e_ => (HO0.out.1 k_ e_))); clear HO0; clear HB; clear HK; have HO0 := n0_; have HB := n1_; have HK := n2_; clear n0_ n1_ n2_; clear hg hw hp_; have p15 : 0 ≤ (5 : Int) := (by omega); have q15 : (5 : Int) < ((l0.length : Int) : Int) := of_decide_eq_true (by first | (with_reducible assumption) | assumption); have qi15 : (5 < l0.length) = True := eq_true (by omega); obtain ⟨hx15_0, hf15_0⟩ := Kd.R_celln 0 HO0.out (5 : Int) p15 q15; (try rw [show ((5 : Int)).toNat = 5 from rfl] at hx15_0); (try simp only [Nat.reduceMul, Nat.zero_mul, Nat.zero_add, Nat.reduceAdd] at hx15_0); (try rw [show ((5 : Int)).toNat = 5 from rfl] at hf15_0); (try simp only [Nat.reduceMul, Nat.zero_mul, Nat.zero_add, Nat.reduceAdd] at hf15_0); replace p15 := eq_true p15; replace q15 := eq_true q15; obtain ⟨hy30_, hz30_⟩ := Kd.R_celln 0 HO0.out (5 : Int) (by omega) (of_decide_eq_true (by first | (with_reducible assumption) | assumption)); (try simp only [Int.reduceToNat, Int.toNat_zero, Int.toNat_ofNat, Nat.reduceMul, Nat.zero_mul, Nat.zero_add] at hy30_ hz30_); (try rw [show ((5 : Int)).toNat = 5 from rfl] at hy30_); (try rw [show ((5 : Int)).toNat = 5 from rfl] at hz30_); have HP30 := Kd.R_putg HO0.out (5 : Int) ((a1 / 65536) % 256)) | ((with_reducible refine gate_store (t := 5) (p := 36) rfl ?_); refine store_event (t := 5) (p := 36) (v := ?vo_w31) (w1 := (w29.setCell ⟨go5, (5 : Int).toNat, none⟩ (.int .u8 ((a1 / 65536) % 256)))) ?hg ?ho ?hn ?hr ?_; (case ho => rfl); (case hg => rfl); (case hn => rfl); (case hr => first | (go_simp; done) | (go_simp; rfl)); intro w31 hw; have hg : w29.grownBy w31 (some go5) := (by rw [hw]; exact HP30.2); have hp_ : Kd.R (Kd.int .u8) 5 w31 w0.heap.size (fun k_ => (P0_ k_ ∨ w.heap.size ≤ k_)) (.slice (some ⟨go5, 0, none⟩) l0.length co19) y108 := (by rw [hw, Ny108.out]; exact HP30.1); clear HP30; have n0_ := Aside0.mk (hp_); have n1_ := Aside0.mk ((by rw [hw]; exact below_set (HB.out) GB5.out : Below w0.heap.size w0 w31)); have n2_ := Aside0.mk (Kept.of_grown (S := (fun k_ => P0_ k_)) hg (by repeat (first | (with_reducible first | exact HK.out | apply Kept.alloc | apply Kept.drewN | apply Kept.drew) | exact HK.out)) (fun k_ e_ => (HO0.out.1 k_ e_))); clear HO0; clear HB; clear HK; have HO0 := n0_; have HB := n1_; have HK := n2_; clear n0_ n1_ n2_; clear hg hw hp_; have p17 : 0 ≤ (6 : Int) := (by omega); have q17 : (6 : Int) < ((l0.length : Int) : Int) := of_decide_eq_true (by first | (with_reducible assumption) | assumption); have qi17 : (6 < l0.length) = True := eq_true (by omega); obtain ⟨hx17_0, hf17_0⟩ := Kd.R_celln 0 HO0.out (6 : Int) p17 q17; (try rw [show ((6 : Int)).toNat = 6 from rfl] at hx17_0); (try simp only [Nat.reduceMul, Nat.zero_mul, Nat.zero_add, Nat.reduceAdd] at hx17_0); (try rw [show ((6 : Int)).toNat = 6 from rfl] at hf17_0); (try simp only [Nat.reduceMul, Nat.zero_mul, Nat.zero_add, Nat.reduceAdd] at hf17_0); replace p17 := eq_true p17; replace q17 := eq_true q17; obtain ⟨hy32_, hz32_⟩ := Kd.R_celln 0 HO0.out (6 : Int) (by omega) (of_decide_eq_true (by first | (with_reducible assumption) | assumption)); (try simp only [Int.reduceToNat, Int.toNat_zero, Int.toNat_ofNat, Nat.reduceMul, Nat.zero_mul, Nat.zero_add] at hy32_ hz32_); (try rw [show ((6 : Int)).toNat = 6 from rfl] at hy32_); (try rw [show ((6 : Int)).toNat = 6 from rfl] at hz32_); have HP32 := Kd.R_putg HO0.out (6 : Int) ((a1 / 256) % 256)) | ((with_reducible refine gate_store (t := 5) (p := 41) rfl ?_); refine store_event (t := 5) (p := 41) (v := ?vo_w33) (w1 := (w31.setCell ⟨go5, (6 : Int).toNat, none⟩ (.int .u8 ((a1 / 256) % 256)))) ?hg ?ho ?hn ?hr ?_; (case ho => rfl); (case hg => rfl); (case hn => rfl); (case hr => first | (go_simp; done) | (go_simp; rfl)); intro w33 hw; have hg : w31.grownBy w33 (some go5) := (by rw [hw]; exact HP32.2); have hp_ : Kd.R (Kd.int .u8) 5 w33 w0.heap.size (fun k_ => (P0_ k_ ∨ w.heap.size ≤ k_)) (.slice (some ⟨go5, 0, none⟩) l0.length co19) y109 := (by rw [hw, Ny109.out]; exact HP32.1); clear HP32; have n0_ := Aside0.mk (hp_); have n1_ := Aside0.mk ((by rw [hw]; exact below_set (HB.out) GB5.out : Below w0.heap.size w0 w33)); have n2_ := Aside0.mk (Kept.of_grown (S := (fun k_ => P0_ k_)) hg (by repeat (first | (with_reducible first | exact HK.out | apply Kept.alloc | apply Kept.drewN | apply Kept.drew) | exact HK.out)) (fun k_ e_ => (HO0.out.1 k_ e_))); clear HO0; clear HB; clear HK; have HO0 := n0_; have HB := n1_; have HK := n2_; clear n0_ n1_ n2_; clear hg hw hp_; have p18 : 0 ≤ (7 : Int) := (by omega); have q18 : (7 : Int) < ((l0.length : Int) : Int) := of_decide_eq_true (by first | (with_reducible assumption) | assumption); have qi18 : (7 < l0.length) = True := eq_true (by omega); obtain ⟨hx18_0, hf18_0⟩ := Kd.R_celln 0 HO0.out (7 : Int) p18 q18; (try rw [show ((7 : Int)).toNat = 7 from rfl] at hx18_0); (try simp only [Nat.reduceMul, Nat.zero_mul, Nat.zero_add, Nat.reduceAdd] at hx18_0); (try rw [show ((7 : Int)).toNat = 7 from rfl] at hf18_0); (try simp only [Nat.reduceMul, Nat.zero_mul, Nat.zero_add, Nat.reduceAdd] at hf18_0); replace p18 := eq_true p18; replace q18 := eq_true q18; obtain ⟨hy34_, hz34_⟩ := Kd.R_celln 0 HO0.out (7 : Int) (by omega) (of_decide_eq_true (by first | (with_reducible assumption) | assumption)); (try simp only [Int.reduceToNat, Int.toNat_zero, Int.toNat_ofNat, Nat.reduceMul, Nat.zero_mul, Nat.zero_add] at hy34_ hz34_); (try rw [show ((7 : Int)).toNat = 7 from rfl] at hy34_); (try rw [show ((7 : Int)).toNat = 7 from rfl] at hz34_); have HP34 := Kd.R_putg HO0.out (7 : Int) ((a1) % 256)) | ((with_reducible refine gate_store (t := 5) (p := 45) rfl ?_); refine store_event (t := 5) (p := 45) (v := ?vo_w35) (w1 := (w33.setCell ⟨go5, (7 : Int).toNat, none⟩ (.int .u8 ((a1) % 256)))) ?hg ?ho ?hn ?hr ?_; (case ho => rfl); (case hg => rfl); (case hn => rfl); (case hr => first | (go_simp; done) | (go_simp; rfl)); intro w35 hw; have hg : w33.grownBy w35 (some go5) := (by rw [hw]; exact HP34.2); have hp_ : Kd.R (Kd.int .u8) 5 w35 w0.heap.size (fun k_ => (P0_ k_ ∨ w.heap.size ≤ k_)) (.slice (some ⟨go5, 0, none⟩) l0.length co19) y110 := (by rw [hw, Ny110.out]; exact HP34.1); clear HP34; have n0_ := Aside0.mk (hp_); have n1_ := Aside0.mk ((by rw [hw]; exact below_set (HB.out) GB5.out : Below w0.heap.size w0 w35)); have n2_ := Aside0.mk (Kept.of_grown (S := (fun k_ => P0_ k_)) hg (by repeat (first | (with_reducible first | exact HK.out | apply Kept.alloc | apply Kept.drewN | apply Kept.drew) | exact HK.out)) (fun k_ e_ => (HO0.out.1 k_ e_))); clear HO0; clear HB; clear HK; have HO0 := n0_; have HB := n1_; have HK := n2_; clear n0_ n1_ n2_; clear hg hw hp_))
                  first | go_end0 | ((try simp only [Exit.inBlock, Exit.then]); refine bodyPost_ret (results_none rfl _ _ _) rfl ?_)
                  exact ⟨by first | rfl | (simp [errW_none, errW_some] <;> rfl) | (simp [*, errW_none, errW_some] <;> rfl), by (with_reducible repeat (first | apply Kd.R_alloc | apply Kd.R_drewN | apply Kd.R_drew)); exact HO0.out, by repeat (first | (with_reducible first | exact HB.out | apply below_alloc | apply pw_below_drewN | apply below_drew1) | exact HB.out), by repeat (first | (with_reducible first | exact HK.out | apply Kept.alloc | apply Kept.drewN | apply Kept.drew) | exact HK.out)⟩
                · rw [if_neg c16] at H
                  exact absurd H (by simp)
              · rw [if_neg c14] at H
                exact absurd H (by simp)
            · rw [if_neg c12] at H
              exact absurd H (by simp)
          · rw [if_neg c10] at H
            exact absurd H (by simp)
        · rw [if_neg c8] at H
          exact absurd H (by simp)
      · rw [if_neg c6] at H
        exact absurd H (by simp)
    · rw [if_neg c4] at H
      exact absurd H (by simp)
  · rw [if_neg c3] at H
    exact absurd H (by simp)

-- NOT PRINTED: function 41 (base64_Encoding_decodeQuantum)

/-! ### base64_assemble32: function 42 -/
def base64_assemble32.f (a0 : Int) (a1 : Int) (a2 : Int) (a3 : Int) : Option (Int × Bool) := if (Go.bits .or .u8 (Go.bits .or .u8 (Go.bits .or .u8 a0 a1) a2) a3) = 255 then (some (0, false)) else (some (Go.bits .or .u32 (Go.bits .or .u32 (Go.bits .or .u32 ((((a0) % 4294967296) * 67108864) % 4294967296) ((((a1) % 4294967296) * 1048576) % 4294967296)) ((((a2) % 4294967296) * 16384) % 4294967296)) ((((a3) % 4294967296) * 256) % 4294967296), true))
set_option maxHeartbeats 8000000 in
set_option maxRecDepth 100000 in
theorem base64_assemble32.calls (a0 : Int) (a1 : Int) (a2 : Int) (a3 : Int) (r1 : Int) (r2 : Bool) (w : World) (h : base64_assemble32.f a0 a1 a2 a3 = some (r1, r2)) :
    Calls Try.prog 42 #[.int .u8 a0, .int .u8 a1, .int .u8 a2, .int .u8 a3] w fun e w' => e = .returned (.tuple #[.int .u32 r1, .bool r2]) ∧ Drawn0 w w' := by
  have H : (if (Go.bits .or .u8 (Go.bits .or .u8 (Go.bits .or .u8 a0 a1) a2) a3) = 255 then (some (0, false)) else (some (Go.bits .or .u32 (Go.bits .or .u32 (Go.bits .or .u32 ((((a0) % 4294967296) * 67108864) % 4294967296) ((((a1) % 4294967296) * 1048576) % 4294967296)) ((((a2) % 4294967296) * 16384) % 4294967296)) ((((a3) % 4294967296) * 256) % 4294967296), true))) = some (r1, r2) := h
  clear h
  by_cases c5 : (Go.bits .or .u8 (Go.bits .or .u8 (Go.bits .or .u8 a0 a1) a2) a3) = 255
  · rw [if_pos c5] at H
    have c5b0 : ((Go.bits .or .u8 (Go.bits .or .u8 (Go.bits .or .u8 a0 a1) a2) a3) == 255) = true := beq_iff_eq.mpr c5
    have c5b1 : ((Go.bits .or .u8 (Go.bits .or .u8 (Go.bits .or .u8 a0 a1) a2) a3) != 255) = false := bne_eq_false_iff_eq.mpr c5
    clear c5
    simp only [Option.some.injEq, Prod.mk.injEq] at H
    obtain ⟨rfl, rfl⟩ := H
    go_enter Try.func42, Try.ntmps42
    go_wp2
    go_ret2
    exact ⟨by first | rfl | (simp; done) | (simp [*]; done), by repeat (first | exact Drawn0.refl _ | apply Drawn0.step)⟩
  · rw [if_neg c5] at H
    have c5b0 : ((Go.bits .or .u8 (Go.bits .or .u8 (Go.bits .or .u8 a0 a1) a2) a3) == 255) = false := beq_eq_false_iff_ne.mpr c5
    have c5b1 : ((Go.bits .or .u8 (Go.bits .or .u8 (Go.bits .or .u8 a0 a1) a2) a3) != 255) = true := bne_iff_ne.mpr c5
    simp only [Option.some.injEq, Prod.mk.injEq] at H
    obtain ⟨rfl, rfl⟩ := H
    go_enter Try.func42, Try.ntmps42
    go_wp2
    go_ret2
    exact ⟨by first | rfl | (simp; done) | (simp [*]; done), by repeat (first | exact Drawn0.refl _ | apply Drawn0.step)⟩

/-! ### byteorder_BEPutUint32: function 43 -/
def byteorder_BEPutUint32.f (l0 : List Int) (a1 : Int) : Option (List Int) := if 3 < (l0.length : Int) then (if 0 < (l0.length : Int) then (if 1 < (l0.length : Int) then (if 2 < (l0.length : Int) then (some ((((l0.set (0 : Int).toNat ((a1 / 16777216) % 256)).set (1 : Int).toNat ((a1 / 65536) % 256)).set (2 : Int).toNat ((a1 / 256) % 256)).set (3 : Int).toNat ((a1) % 256))) else (none)) else (none)) else (none)) else (none)
set_option maxHeartbeats 8000000 in
set_option maxRecDepth 100000 in
theorem byteorder_BEPutUint32.calls (P0_ : Nat → Prop) (u9000_ : Value) (l0 : List Int) (a1 : Int) (r : List Int) (w0 w : World) (hB : Below w0.heap.size w0 w) (ho0 : Kd.R (Kd.int .u8) 5 w w0.heap.size P0_ u9000_ l0) (h : byteorder_BEPutUint32.f l0 a1 = some r) :
    Calls Try.prog 43 #[u9000_, .int .u32 a1] w fun e w' => e = .returned (.tuple #[]) ∧ Kd.R (Kd.int .u8) 5 w' w0.heap.size (fun k_ => (P0_ k_ ∨ w.heap.size ≤ k_)) u9000_ r ∧ Below w0.heap.size w0 w' ∧ Kept w w' (fun k_ => P0_ k_) := by
  have HO0 := Aside0.mk (show Kd.R (Kd.int .u8) 5 w w0.heap.size (fun k_ => (P0_ k_ ∨ w.heap.size ≤ k_)) u9000_ l0 from Kd.R_mono ho0 (fun k_ hk => (.inl hk)))
  have HK := Aside0.mk (Kept.refl w (fun k_ => P0_ k_))
  have HW0 := Aside0.mk hB.size
  have HB := Aside0.mk hB
  clear hB
  have H : (if 3 < (l0.length : Int) then (if 0 < (l0.length : Int) then (if 1 < (l0.length : Int) then (if 2 < (l0.length : Int) then (some ((((l0.set (0 : Int).toNat ((a1 / 16777216) % 256)).set (1 : Int).toNat ((a1 / 65536) % 256)).set (2 : Int).toNat ((a1 / 256) % 256)).set (3 : Int).toNat ((a1) % 256))) else (none)) else (none)) else (none)) else (none)) = some r := h
  clear h
  by_cases c3 : 3 < (l0.length : Int)
  · rw [if_pos c3] at H
    have c3b0 : decide (3 < (l0.length : Int)) = true := decide_eq_true c3
    have c3b1 : decide (3 < l0.length) = true := decide_eq_true (by omega)
    clear c3
    by_cases c4 : 0 < (l0.length : Int)
    · rw [if_pos c4] at H
      have c4b0 : decide (0 < (l0.length : Int)) = true := decide_eq_true c4
      have c4b1 : decide (0 < l0.length) = true := decide_eq_true (by omega)
      clear c4
      obtain ⟨y112, hy112⟩ : ∃ y_ : List Int, y_ = (l0.set (0 : Int).toNat ((a1 / 16777216) % 256)) := ⟨_, rfl⟩
      replace H : (if 1 < (l0.length : Int) then (if 2 < (l0.length : Int) then (some (((y112.set (1 : Int).toNat ((a1 / 65536) % 256)).set (2 : Int).toNat ((a1 / 256) % 256)).set (3 : Int).toNat ((a1) % 256))) else (none)) else (none)) = some r := by first | (rw [hy112]; with_reducible exact H) | (have H2_ := (Option.bind_some _ _).symm.trans H; rw [hy112]; with_reducible exact H2_) | (have H2_ := (Option.bind_some _ _).symm.trans H; with_reducible exact H2_) | with_reducible exact H | (rw [hy112]; exact H) | exact H
      have Ny112 := Aside0.mk hy112
      clear hy112
      by_cases c6 : 1 < (l0.length : Int)
      · rw [if_pos c6] at H
        have c6b0 : decide (1 < (l0.length : Int)) = true := decide_eq_true c6
        have c6b1 : decide (1 < l0.length) = true := decide_eq_true (by omega)
        clear c6
        obtain ⟨y113, hy113⟩ : ∃ y_ : List Int, y_ = (y112.set (1 : Int).toNat ((a1 / 65536) % 256)) := ⟨_, rfl⟩
        replace H : (if 2 < (l0.length : Int) then (some ((y113.set (2 : Int).toNat ((a1 / 256) % 256)).set (3 : Int).toNat ((a1) % 256))) else (none)) = some r := by first | (rw [hy113]; with_reducible exact H) | (have H2_ := (Option.bind_some _ _).symm.trans H; rw [hy113]; with_reducible exact H2_) | (have H2_ := (Option.bind_some _ _).symm.trans H; with_reducible exact H2_) | with_reducible exact H | (rw [hy113]; exact H) | exact H
        have Ny113 := Aside0.mk hy113
        clear hy113
        by_cases c8 : 2 < (l0.length : Int)
        · rw [if_pos c8] at H
          have c8b0 : decide (2 < (l0.length : Int)) = true := decide_eq_true c8
          have c8b1 : decide (2 < l0.length) = true := decide_eq_true (by omega)
          clear c8
          obtain ⟨y114, hy114⟩ : ∃ y_ : List Int, y_ = (y113.set (2 : Int).toNat ((a1 / 256) % 256)) := ⟨_, rfl⟩
          replace H : (some (y114.set (3 : Int).toNat ((a1) % 256))) = some r := by first | (rw [hy114]; with_reducible exact H) | (have H2_ := (Option.bind_some _ _).symm.trans H; rw [hy114]; with_reducible exact H2_) | (have H2_ := (Option.bind_some _ _).symm.trans H; with_reducible exact H2_) | with_reducible exact H | (rw [hy114]; exact H) | exact H
          have Ny114 := Aside0.mk hy114
          clear hy114
          obtain ⟨y115, hy115⟩ : ∃ y_ : List Int, y_ = (y114.set (3 : Int).toNat ((a1) % 256)) := ⟨_, rfl⟩
          replace H : (some y115) = some r := by first | (rw [hy115]; with_reducible exact H) | (have H2_ := (Option.bind_some _ _).symm.trans H; rw [hy115]; with_reducible exact H2_) | (have H2_ := (Option.bind_some _ _).symm.trans H; with_reducible exact H2_) | with_reducible exact H | (rw [hy115]; exact H) | exact H
          have Ny115 := Aside0.mk hy115
          clear hy115
          obtain rfl := Option.some.inj H
          obtain ⟨Ao11, co11, eo11⟩ := Kd.R_slice HO0.out
          subst eo11
          have p111 : 0 ≤ (3 : Int) := (by omega)
          have q111 : 3 < (l0.length : Int) := of_decide_eq_true (by first | (with_reducible assumption) | assumption)
          obtain ⟨ad111, e111, hx111_0⟩ := Kd.at_int (Kd.R_reads' HO0.out).2.2 3 p111 q111
          cases e111
          (try simp only [show (3 : Int).toNat = 3 from rfl, Nat.reduceMul, Nat.reduceEqDiff, Go.Addr.add, ↓reduceIte] at hx111_0)
          have qi111 : (3 < l0.length) = True := eq_true (by omega)
          (try rw [show ((3 : Int)).toNat = 3 from rfl] at hx111_0)
          replace p111 := eq_true p111
          replace q111 := eq_true q111
          have p5 : 0 ≤ (0 : Int) := (by omega)
          have q5 : (0 : Int) < ((l0.length : Int) : Int) := of_decide_eq_true (by first | (with_reducible assumption) | assumption)
          have qi5 : (0 < l0.length) = True := eq_true (by omega)
          obtain ⟨go5, co5, eo5, gb5, gl5, cl5, HG5⟩ := Kd.R_form HO0.out (by omega)
          (first | cases eo5 | (injection eo5 with ea_ en_ ec_; (first | subst ea_ | (injection ea_ with ea_; subst ea_)); subst ec_; clear en_))
          have GB5 := Aside0.mk gb5
          have GG5 := Aside0.mk HG5
          clear gb5 gl5 HG5
          have HMgo5 := Aside0.mk (show (P0_ go5 ∨ w.heap.size ≤ go5) from (HO0.out.1 _ rfl))
          (first | simp only [add_plain] at hx111_0 | skip)
          obtain ⟨hx5_0, hf5_0⟩ := Kd.R_celln 0 HO0.out (0 : Int) p5 q5
          (try rw [show ((0 : Int)).toNat = 0 from rfl] at hx5_0)
          (try simp only [Nat.reduceMul, Nat.zero_mul, Nat.zero_add, Nat.reduceAdd] at hx5_0)
          (try rw [show ((0 : Int)).toNat = 0 from rfl] at hf5_0)
          (try simp only [Nat.reduceMul, Nat.zero_mul, Nat.zero_add, Nat.reduceAdd] at hf5_0)
          replace p5 := eq_true p5
          replace q5 := eq_true q5
          have HP12 := Kd.R_putg HO0.out (0 : Int) ((a1 / 16777216) % 256)
          go_enter Try.func43, Try.ntmps43
          go_wp2_with (first | ((with_reducible refine gate_store (t := 5) (p := 11) rfl ?_); refine store_event (t := 5) (p := 11) (v := ?vo_w13) (w1 := (w.setCell ⟨go5, (0 : Int).toNat, none⟩ (.int .u8 ((a1 / 16777216) % 256)))) ?hg ?ho ?hn ?hr ?_; (case ho => rfl); (case hg => rfl); (case hn => rfl); (case hr => first | (go_simp; done) | (go_simp; rfl)); intro w13 hw; have hg : w.grownBy w13 (some go5) := (by rw [hw]; exact HP12.2); have hp_ : Kd.R (Kd.int .u8) 5 w13 w0.heap.size (fun k_ => (P0_ k_ ∨ w.heap.size ≤ k_)) (.slice (some ⟨go5, 0, none⟩) l0.length co11) y112 := (by rw [hw, Ny112.out]; exact HP12.1); clear HP12; have n0_ := Aside0.mk (hp_); have n1_ := Aside0.mk ((by rw [hw]; exact below_set (HB.out) GB5.out : Below w0.heap.size w0 w13)); have n2_ := Aside0.mk (Kept.of_grown (S := (fun k_ => P0_ k_)) hg (by repeat (first | (with_reducible first | exact HK.out | apply Kept.alloc | apply Kept.drewN | apply Kept.drew) | exact HK.out)) (fun k_ e_ => (HO0.out.1 k_ e_))); clear HO0; clear HB; clear HK; have HO0 := n0_; have HB := n1_; have HK := n2_; clear n0_ n1_ n2_; clear hg hw hp_; have p7 : 0 ≤ (1 : Int) := (by omega); have q7 : (1 : Int) < ((l0.length : Int) : Int) := of_decide_eq_true (by first | (with_reducible assumption) | assumption); have qi7 : (1 < l0.length) = True := eq_true (by omega); obtain ⟨hx7_0, hf7_0⟩ := Kd.R_celln 0 HO0.out (1 : Int) p7 q7; (try rw [show ((1 : Int)).toNat = 1 from rfl] at hx7_0); (try simp only [Nat.reduceMul, Nat.zero_mul, Nat.zero_add, Nat.reduceAdd] at hx7_0); (try rw [show ((1 : Int)).toNat = 1 from rfl] at hf7_0); (try simp only [Nat.reduceMul, Nat.zero_mul, Nat.zero_add, Nat.reduceAdd] at hf7_0); replace p7 := eq_true p7; replace q7 := eq_true q7; obtain ⟨hy14_, hz14_⟩ := Kd.R_celln 0 HO0.out (1 : Int) (by omega) (of_decide_eq_true (by first | (with_reducible assumption) | assumption)); (try simp only [Int.reduceToNat, Int.toNat_zero, Int.toNat_ofNat, Nat.reduceMul, Nat.zero_mul, Nat.zero_add] at hy14_ hz14_); (try rw [show ((1 : Int)).toNat = 1 from rfl] at hy14_); (try rw [show ((1 : Int)).toNat = 1 from rfl] at hz14_); have HP14 := Kd.R_putg HO0.out (1 : Int) ((a1 / 65536) % 256)) | ((with_reducible refine gate_store (t := 5) (p := 16) rfl ?_); refine store_event (t := 5) (p := 16) (v := ?vo_w15) (w1 := (w13.setCell ⟨go5, (1 : Int).toNat, none⟩ (.int .u8 ((a1 / 65536) % 256)))) ?hg ?ho ?hn ?hr ?_; (case ho => rfl); (case hg => rfl); (case hn => rfl); (case hr => first | (go_simp; done) | (go_simp; rfl)); intro w15 hw; have hg : w13.grownBy w15 (some go5) := (by rw [hw]; exact HP14.2); have hp_ : Kd.R (Kd.int .u8) 5 w15 w0.heap.size (fun k_ => (P0_ k_ ∨ w.heap.size ≤ k_)) (.slice (some ⟨go5, 0, none⟩) l0.length co11) y113 := (by rw [hw, Ny113.out]; exact HP14.1); clear HP14; have n0_ := Aside0.mk (hp_); have n1_ := Aside0.mk ((by rw [hw]; exact below_set (HB.out) GB5.out : Below w0.heap.size w0 w15)); have n2_ := Aside0.mk (Kept.of_grown (S := (fun k_ => P0_ k_)) hg (by repeat (first | (with_reducible first | exact HK.out | apply Kept.alloc | apply Kept.drewN | apply Kept.drew) | exact HK.out)) (fun k_ e_ => (HO0.out.1 k_ e_))); clear HO0; clear HB; clear HK; have HO0 := n0_; have HB := n1_; have HK := n2_; clear n0_ n1_ n2_; clear hg hw hp_; have p9 : 0 ≤ (2 : Int) := (by omega); have q9 : (2 : Int) < ((l0.length : Int) : Int) := of_decide_eq_true (by first | (with_reducible assumption) | assumption); have qi9 : (2 < l0.length) = True := eq_true (by omega); obtain ⟨hx9_0, hf9_0⟩ := Kd.R_celln 0 HO0.out (2 : Int) p9 q9; (try rw [show ((2 : Int)).toNat = 2 from rfl] at hx9_0); (try simp only [Nat.reduceMul, Nat.zero_mul, Nat.zero_add, Nat.reduceAdd] at hx9_0); (try rw [show ((2 : Int)).toNat = 2 from rfl] at hf9_0); (try simp only [Nat.reduceMul, Nat.zero_mul, Nat.zero_add, Nat.reduceAdd] at hf9_0); replace p9 := eq_true p9; replace q9 := eq_true q9; obtain ⟨hy16_, hz16_⟩ := Kd.R_celln 0 HO0.out (2 : Int) (by omega) (of_decide_eq_true (by first | (with_reducible assumption) | assumption)); (try simp only [Int.reduceToNat, Int.toNat_zero, Int.toNat_ofNat, Nat.reduceMul, Nat.zero_mul, Nat.zero_add] at hy16_ hz16_); (try rw [show ((2 : Int)).toNat = 2 from rfl] at hy16_); (try rw [show ((2 : Int)).toNat = 2 from rfl] at hz16_); have HP16 := Kd.R_putg HO0.out (2 : Int) ((a1 / 256) % 256)) | ((with_reducible refine gate_store (t := 5) (p := 21) rfl ?_); refine store_event (t := 5) (p := 21) (v := ?vo_w17) (w1 := (w15.setCell ⟨go5, (2 : Int).toNat, none⟩ (.int .u8 ((a1 / 256) % 256)))) ?hg ?ho ?hn ?hr ?_; (case ho => rfl); (case hg => rfl); (case hn => rfl); (case hr => first | (go_simp; done) | (go_simp; rfl)); intro w17 hw; have hg : w15.grownBy w17 (some go5) := (by rw [hw]; exact HP16.2); have hp_ : Kd.R (Kd.int .u8) 5 w17 w0.heap.size (fun k_ => (P0_ k_ ∨ w.heap.size ≤ k_)) (.slice (some ⟨go5, 0, none⟩) l0.length co11) y114 := (by rw [hw, Ny114.out]; exact HP16.1); clear HP16; have n0_ := Aside0.mk (hp_); have n1_ := Aside0.mk ((by rw [hw]; exact below_set (HB.out) GB5.out : Below w0.heap.size w0 w17)); have n2_ := Aside0.mk (Kept.of_grown (S := (fun k_ => P0_ k_)) hg (by repeat (first | (with_reducible first | exact HK.out | apply Kept.alloc | apply Kept.drewN | apply Kept.drew) | exact HK.out)) (fun k_ e_ => (HO0.out.1 k_ e_))); clear HO0; clear HB; clear HK; have HO0 := n0_; have HB := n1_; have HK := n2_; clear n0_ n1_ n2_; clear hg hw hp_; have p10 : 0 ≤ (3 : Int) := (by omega); have q10 : (3 : Int) < ((l0.length : Int) : Int) := of_decide_eq_true (by first | (with_reducible assumption) | assumption); have qi10 : (3 < l0.length) = True := eq_true (by omega); obtain ⟨hx10_0, hf10_0⟩ := Kd.R_celln 0 HO0.out (3 : Int) p10 q10; (try rw [show ((3 : Int)).toNat = 3 from rfl] at hx10_0); (try simp only [Nat.reduceMul, Nat.zero_mul, Nat.zero_add, Nat.reduceAdd] at hx10_0); (try rw [show ((3 : Int)).toNat = 3 from rfl] at hf10_0); (try simp only [Nat.reduceMul, Nat.zero_mul, Nat.zero_add, Nat.reduceAdd] at hf10_0); replace p10 := eq_true p10; replace q10 := eq_true q10; obtain ⟨hy18_, hz18_⟩ := Kd.R_celln 0 HO0.out (3 : Int) (by omega) (of_decide_eq_true (by first | (with_reducible assumption) | assumption)); (try simp only [Int.reduceToNat, Int.toNat_zero, Int.toNat_ofNat, Nat.reduceMul, Nat.zero_mul, Nat.zero_add] at hy18_ hz18_); (try rw [show ((3 : Int)).toNat = 3 from rfl] at hy18_); (try rw [show ((3 : Int)).toNat = 3 from rfl] at hz18_); have HP18 := Kd.R_putg HO0.out (3 : Int) ((a1) % 256)) | ((with_reducible refine gate_store (t := 5) (p := 25) rfl ?_); refine store_event (t := 5) (p := 25) (v := ?vo_w19) (w1 := (w17.setCell ⟨go5, (3 : Int).toNat, none⟩ (.int .u8 ((a1) % 256)))) ?hg ?ho ?hn ?hr ?_; (case ho => rfl); (case hg => rfl); (case hn => rfl); (case hr => first | (go_simp; done) | (go_simp; rfl)); intro w19 hw; have hg : w17.grownBy w19 (some go5) := (by rw [hw]; exact HP18.2); have hp_ : Kd.R (Kd.int .u8) 5 w19 w0.heap.size (fun k_ => (P0_ k_ ∨ w.heap.size ≤ k_)) (.slice (some ⟨go5, 0, none⟩) l0.length co11) y115 := (by rw [hw, Ny115.out]; exact HP18.1); clear HP18; have n0_ := Aside0.mk (hp_); have n1_ := Aside0.mk ((by rw [hw]; exact below_set (HB.out) GB5.out : Below w0.heap.size w0 w19)); have n2_ := Aside0.mk (Kept.of_grown (S := (fun k_ => P0_ k_)) hg (by repeat (first | (with_reducible first | exact HK.out | apply Kept.alloc | apply Kept.drewN | apply Kept.drew) | exact HK.out)) (fun k_ e_ => (HO0.out.1 k_ e_))); clear HO0; clear HB; clear HK; have HO0 := n0_; have HB := n1_; have HK := n2_; clear n0_ n1_ n2_; clear hg hw hp_))
          first | go_end0 | ((try simp only [Exit.inBlock, Exit.then]); refine bodyPost_ret (results_none rfl _ _ _) rfl ?_)
          exact ⟨by first | rfl | (simp [errW_none, errW_some] <;> rfl) | (simp [*, errW_none, errW_some] <;> rfl), by (with_reducible repeat (first | apply Kd.R_alloc | apply Kd.R_drewN | apply Kd.R_drew)); exact HO0.out, by repeat (first | (with_reducible first | exact HB.out | apply below_alloc | apply pw_below_drewN | apply below_drew1) | exact HB.out), by repeat (first | (with_reducible first | exact HK.out | apply Kept.alloc | apply Kept.drewN | apply Kept.drew) | exact HK.out)⟩
        · rw [if_neg c8] at H
          exact absurd H (by simp)
      · rw [if_neg c6] at H
        exact absurd H (by simp)
    · rw [if_neg c4] at H
      exact absurd H (by simp)
  · rw [if_neg c3] at H
    exact absurd H (by simp)

-- NOT PRINTED: function 34 (base64_Encoding_Decode)

-- NOT PRINTED: function 26 (base64_Encoding_DecodeString)

-- NOT PRINTED: function 20 (sprig_base64decode)

-- NOT PRINTED: function 15 (sprig_B64Dec)

-- NOT PRINTED: function 7 (impl_B64Dec)

-- NOT PRINTED: function 3 (laws_FnBase64)

end Go.Proofs.Ytoaalpkeepjhmaa.PFnBase64
