/- Semantic versions: spec.Asked. Printed by gen_as.py. -/
import Derived.Test.YtoebognfkigooaaGreatDoorSvC18
namespace Go.Proofs.YtoebognfkigooaaGreatDoor.Sv
open Go.RowKit Go.Proofs.YtoebognfkigooaaGreatDoor.PFnSemverEither Go.Proofs.YtoebognfkigooaaGreatDoorW.PrintWords Go.Proofs.YtoebognfkigooaaGreatDoor.Txt Go.Proofs.YtoebognfkigooaaGreatDoor Go.Proofs.YtoebognfkigooaaGreatDoor.Vals
set_option linter.unusedVariables false
set_option linter.unusedSimpArgs false
set_option maxRecDepth 20000
theorem two_new (w : World) (x y z X Y Z : Int) : ∃ w3, w3 = (w.alloc (.cells #[.int .u64 x, .int .u64 y, .int .u64 z, .string ⟨#[]⟩, .string ⟨#[]⟩] 26)).alloc (.cells #[.int .u64 X, .int .u64 Y, .int .u64 Z, .string ⟨#[]⟩, .string ⟨#[]⟩] 26) ∧ Five w3 w.heap.size x y z ∧ Five w3 (w.heap.size + 1) X Y Z ∧ Below w.heap.size w w3 := by
  refine ⟨_, rfl, ?_, ?_, ((Below.refl _ _).alloc (Nat.le_refl _) _).alloc (by simp) _⟩
  · exact (Below.heap_alloc _ _ _ (by simp)).trans (heap_alloc_new w _)
  · have := heap_alloc_new (w.alloc (.cells #[.int .u64 x, .int .u64 y, .int .u64 z, .string ⟨#[]⟩, .string ⟨#[]⟩] 26)) (.cells #[.int .u64 X, .int .u64 Y, .int .u64 Z, .string ⟨#[]⟩, .string ⟨#[]⟩] 26)
    unfold Five
    simpa using this
set_option maxHeartbeats 4000000 in
theorem asked_none (x y z X Y Z r : Int) (HO : Hid (∀ W, Calls Tryz.prog 7 #[.agg #[.int .u64 x, .int .u64 y, .int .u64 z, .string ⟨#[]⟩, .string ⟨#[]⟩], .agg #[.int .u64 X, .int .u64 Y, .int .u64 Z, .string ⟨#[]⟩, .string ⟨#[]⟩]] W fun e w' => e = .returned (.int .i64 r) ∧ Below W.heap.size W w')) (w : World) :
    Calls Tryz.prog 8 #[.string ⟨#[]⟩, .agg #[.int .u64 x, .int .u64 y, .int .u64 z, .string ⟨#[]⟩, .string ⟨#[]⟩], .agg #[.int .u64 X, .int .u64 Y, .int .u64 Z, .string ⟨#[]⟩, .string ⟨#[]⟩]] w fun e w' => e = .returned (.bool (r == 0)) ∧ Below w.heap.size w w' := by
  go_enter Tryz.func8, Tryz.ntmps8
  go_wp2_with fail
  obtain ⟨w3, hw3, q1, q2, hb3⟩ := two_new w x y z X Y Z
  rw [← hw3]
  refine (HO.out _).mono ?_
  rintro e w1 ⟨rfl, hb1⟩
  have HB1 := Lib.hid (hb3.trans (hb1.mono hb3.size))
  obtain ⟨a0, a1, a2, a3, a4⟩ := (q1.below hb1).cells
  obtain ⟨d0, d1, d2, d3, d4⟩ := (q2.below hb1).cells
  clear hw3 q1 q2 hb3 hb1
  go_wp2_with fail
  go_ret
  exact ⟨rfl, HB1.out⟩
set_option maxHeartbeats 4000000 in
theorem asked_eq (x y z X Y Z r : Int) (HO : Hid (∀ W, Calls Tryz.prog 7 #[.agg #[.int .u64 x, .int .u64 y, .int .u64 z, .string ⟨#[]⟩, .string ⟨#[]⟩], .agg #[.int .u64 X, .int .u64 Y, .int .u64 Z, .string ⟨#[]⟩, .string ⟨#[]⟩]] W fun e w' => e = .returned (.int .i64 r) ∧ Below W.heap.size W w')) (w : World) :
    Calls Tryz.prog 8 #[.string ⟨#[61]⟩, .agg #[.int .u64 x, .int .u64 y, .int .u64 z, .string ⟨#[]⟩, .string ⟨#[]⟩], .agg #[.int .u64 X, .int .u64 Y, .int .u64 Z, .string ⟨#[]⟩, .string ⟨#[]⟩]] w fun e w' => e = .returned (.bool (r == 0)) ∧ Below w.heap.size w w' := by
  go_enter Tryz.func8, Tryz.ntmps8
  go_wp2_with fail
  obtain ⟨w3, hw3, q1, q2, hb3⟩ := two_new w x y z X Y Z
  rw [← hw3]
  refine (HO.out _).mono ?_
  rintro e w1 ⟨rfl, hb1⟩
  have HB1 := Lib.hid (hb3.trans (hb1.mono hb3.size))
  obtain ⟨a0, a1, a2, a3, a4⟩ := (q1.below hb1).cells
  obtain ⟨d0, d1, d2, d3, d4⟩ := (q2.below hb1).cells
  clear hw3 q1 q2 hb3 hb1
  go_wp2_with fail
  go_ret
  exact ⟨rfl, HB1.out⟩
set_option maxHeartbeats 4000000 in
theorem asked_ne (x y z X Y Z r : Int) (HO : Hid (∀ W, Calls Tryz.prog 7 #[.agg #[.int .u64 x, .int .u64 y, .int .u64 z, .string ⟨#[]⟩, .string ⟨#[]⟩], .agg #[.int .u64 X, .int .u64 Y, .int .u64 Z, .string ⟨#[]⟩, .string ⟨#[]⟩]] W fun e w' => e = .returned (.int .i64 r) ∧ Below W.heap.size W w')) (w : World) :
    Calls Tryz.prog 8 #[.string ⟨#[33, 61]⟩, .agg #[.int .u64 x, .int .u64 y, .int .u64 z, .string ⟨#[]⟩, .string ⟨#[]⟩], .agg #[.int .u64 X, .int .u64 Y, .int .u64 Z, .string ⟨#[]⟩, .string ⟨#[]⟩]] w fun e w' => e = .returned (.bool (!(r == 0))) ∧ Below w.heap.size w w' := by
  go_enter Tryz.func8, Tryz.ntmps8
  go_wp2_with fail
  obtain ⟨w3, hw3, q1, q2, hb3⟩ := two_new w x y z X Y Z
  rw [← hw3]
  refine (HO.out _).mono ?_
  rintro e w1 ⟨rfl, hb1⟩
  have HB1 := Lib.hid (hb3.trans (hb1.mono hb3.size))
  obtain ⟨a0, a1, a2, a3, a4⟩ := (q1.below hb1).cells
  obtain ⟨d0, d1, d2, d3, d4⟩ := (q2.below hb1).cells
  clear hw3 q1 q2 hb3 hb1
  go_wp2_with fail
  go_ret
  exact ⟨rfl, HB1.out⟩
set_option maxHeartbeats 4000000 in
theorem asked_gt (x y z X Y Z r : Int) (HO : Hid (∀ W, Calls Tryz.prog 7 #[.agg #[.int .u64 x, .int .u64 y, .int .u64 z, .string ⟨#[]⟩, .string ⟨#[]⟩], .agg #[.int .u64 X, .int .u64 Y, .int .u64 Z, .string ⟨#[]⟩, .string ⟨#[]⟩]] W fun e w' => e = .returned (.int .i64 r) ∧ Below W.heap.size W w')) (w : World) :
    Calls Tryz.prog 8 #[.string ⟨#[62]⟩, .agg #[.int .u64 x, .int .u64 y, .int .u64 z, .string ⟨#[]⟩, .string ⟨#[]⟩], .agg #[.int .u64 X, .int .u64 Y, .int .u64 Z, .string ⟨#[]⟩, .string ⟨#[]⟩]] w fun e w' => e = .returned (.bool (decide (0 < r))) ∧ Below w.heap.size w w' := by
  go_enter Tryz.func8, Tryz.ntmps8
  go_wp2_with fail
  obtain ⟨w3, hw3, q1, q2, hb3⟩ := two_new w x y z X Y Z
  rw [← hw3]
  refine (HO.out _).mono ?_
  rintro e w1 ⟨rfl, hb1⟩
  have HB1 := Lib.hid (hb3.trans (hb1.mono hb3.size))
  obtain ⟨a0, a1, a2, a3, a4⟩ := (q1.below hb1).cells
  obtain ⟨d0, d1, d2, d3, d4⟩ := (q2.below hb1).cells
  clear hw3 q1 q2 hb3 hb1
  go_wp2_with fail
  go_ret
  exact ⟨rfl, HB1.out⟩
set_option maxHeartbeats 4000000 in
theorem asked_lt (x y z X Y Z r : Int) (HO : Hid (∀ W, Calls Tryz.prog 7 #[.agg #[.int .u64 x, .int .u64 y, .int .u64 z, .string ⟨#[]⟩, .string ⟨#[]⟩], .agg #[.int .u64 X, .int .u64 Y, .int .u64 Z, .string ⟨#[]⟩, .string ⟨#[]⟩]] W fun e w' => e = .returned (.int .i64 r) ∧ Below W.heap.size W w')) (w : World) :
    Calls Tryz.prog 8 #[.string ⟨#[60]⟩, .agg #[.int .u64 x, .int .u64 y, .int .u64 z, .string ⟨#[]⟩, .string ⟨#[]⟩], .agg #[.int .u64 X, .int .u64 Y, .int .u64 Z, .string ⟨#[]⟩, .string ⟨#[]⟩]] w fun e w' => e = .returned (.bool (decide (r < 0))) ∧ Below w.heap.size w w' := by
  go_enter Tryz.func8, Tryz.ntmps8
  go_wp2_with fail
  obtain ⟨w3, hw3, q1, q2, hb3⟩ := two_new w x y z X Y Z
  rw [← hw3]
  refine (HO.out _).mono ?_
  rintro e w1 ⟨rfl, hb1⟩
  have HB1 := Lib.hid (hb3.trans (hb1.mono hb3.size))
  obtain ⟨a0, a1, a2, a3, a4⟩ := (q1.below hb1).cells
  obtain ⟨d0, d1, d2, d3, d4⟩ := (q2.below hb1).cells
  clear hw3 q1 q2 hb3 hb1
  go_wp2_with fail
  go_ret
  exact ⟨rfl, HB1.out⟩
set_option maxHeartbeats 4000000 in
theorem asked_ge (x y z X Y Z r : Int) (HO : Hid (∀ W, Calls Tryz.prog 7 #[.agg #[.int .u64 x, .int .u64 y, .int .u64 z, .string ⟨#[]⟩, .string ⟨#[]⟩], .agg #[.int .u64 X, .int .u64 Y, .int .u64 Z, .string ⟨#[]⟩, .string ⟨#[]⟩]] W fun e w' => e = .returned (.int .i64 r) ∧ Below W.heap.size W w')) (w : World) :
    Calls Tryz.prog 8 #[.string ⟨#[62, 61]⟩, .agg #[.int .u64 x, .int .u64 y, .int .u64 z, .string ⟨#[]⟩, .string ⟨#[]⟩], .agg #[.int .u64 X, .int .u64 Y, .int .u64 Z, .string ⟨#[]⟩, .string ⟨#[]⟩]] w fun e w' => e = .returned (.bool (decide (0 ≤ r))) ∧ Below w.heap.size w w' := by
  go_enter Tryz.func8, Tryz.ntmps8
  go_wp2_with fail
  obtain ⟨w3, hw3, q1, q2, hb3⟩ := two_new w x y z X Y Z
  rw [← hw3]
  refine (HO.out _).mono ?_
  rintro e w1 ⟨rfl, hb1⟩
  have HB1 := Lib.hid (hb3.trans (hb1.mono hb3.size))
  obtain ⟨a0, a1, a2, a3, a4⟩ := (q1.below hb1).cells
  obtain ⟨d0, d1, d2, d3, d4⟩ := (q2.below hb1).cells
  clear hw3 q1 q2 hb3 hb1
  go_wp2_with fail
  go_ret
  exact ⟨rfl, HB1.out⟩
set_option maxHeartbeats 4000000 in
theorem asked_le (x y z X Y Z r : Int) (HO : Hid (∀ W, Calls Tryz.prog 7 #[.agg #[.int .u64 x, .int .u64 y, .int .u64 z, .string ⟨#[]⟩, .string ⟨#[]⟩], .agg #[.int .u64 X, .int .u64 Y, .int .u64 Z, .string ⟨#[]⟩, .string ⟨#[]⟩]] W fun e w' => e = .returned (.int .i64 r) ∧ Below W.heap.size W w')) (w : World) :
    Calls Tryz.prog 8 #[.string ⟨#[60, 61]⟩, .agg #[.int .u64 x, .int .u64 y, .int .u64 z, .string ⟨#[]⟩, .string ⟨#[]⟩], .agg #[.int .u64 X, .int .u64 Y, .int .u64 Z, .string ⟨#[]⟩, .string ⟨#[]⟩]] w fun e w' => e = .returned (.bool (decide (r ≤ 0))) ∧ Below w.heap.size w w' := by
  go_enter Tryz.func8, Tryz.ntmps8
  go_wp2_with fail
  obtain ⟨w3, hw3, q1, q2, hb3⟩ := two_new w x y z X Y Z
  rw [← hw3]
  refine (HO.out _).mono ?_
  rintro e w1 ⟨rfl, hb1⟩
  have HB1 := Lib.hid (hb3.trans (hb1.mono hb3.size))
  obtain ⟨a0, a1, a2, a3, a4⟩ := (q1.below hb1).cells
  obtain ⟨d0, d1, d2, d3, d4⟩ := (q2.below hb1).cells
  clear hw3 q1 q2 hb3 hb1
  go_wp2_with fail
  go_ret
  exact ⟨rfl, HB1.out⟩
set_option maxHeartbeats 4000000 in
theorem asked_tilde (x y z X Y Z r : Int) (HO : Hid (∀ W, Calls Tryz.prog 7 #[.agg #[.int .u64 x, .int .u64 y, .int .u64 z, .string ⟨#[]⟩, .string ⟨#[]⟩], .agg #[.int .u64 X, .int .u64 Y, .int .u64 Z, .string ⟨#[]⟩, .string ⟨#[]⟩]] W fun e w' => e = .returned (.int .i64 r) ∧ Below W.heap.size W w')) (w : World) :
    Calls Tryz.prog 8 #[.string ⟨#[126]⟩, .agg #[.int .u64 x, .int .u64 y, .int .u64 z, .string ⟨#[]⟩, .string ⟨#[]⟩], .agg #[.int .u64 X, .int .u64 Y, .int .u64 Z, .string ⟨#[]⟩, .string ⟨#[]⟩]] w fun e w' => e = .returned (.bool (decide (0 ≤ r) && (x == X) && (y == Y))) ∧ Below w.heap.size w w' := by
  go_enter Tryz.func8, Tryz.ntmps8
  go_wp2_with fail
  obtain ⟨w3, hw3, q1, q2, hb3⟩ := two_new w x y z X Y Z
  rw [← hw3]
  refine (HO.out _).mono ?_
  rintro e w1 ⟨rfl, hb1⟩
  have HB1 := Lib.hid (hb3.trans (hb1.mono hb3.size))
  obtain ⟨a0, a1, a2, a3, a4⟩ := (q1.below hb1).cells
  obtain ⟨d0, d1, d2, d3, d4⟩ := (q2.below hb1).cells
  clear hw3 q1 q2 hb3 hb1
  cases e1 : decide (0 ≤ r) <;> cases e2 : (x == X) <;> cases e3 : (y == Y)
  all_goals
    go_wp2_with fail
    go_ret
    exact ⟨by simp [*], HB1.out⟩
set_option maxHeartbeats 4000000 in
theorem asked_caret (x y z X Y Z r : Int) (HO : Hid (∀ W, Calls Tryz.prog 7 #[.agg #[.int .u64 x, .int .u64 y, .int .u64 z, .string ⟨#[]⟩, .string ⟨#[]⟩], .agg #[.int .u64 X, .int .u64 Y, .int .u64 Z, .string ⟨#[]⟩, .string ⟨#[]⟩]] W fun e w' => e = .returned (.int .i64 r) ∧ Below W.heap.size W w')) (w : World) :
    Calls Tryz.prog 8 #[.string ⟨#[94]⟩, .agg #[.int .u64 x, .int .u64 y, .int .u64 z, .string ⟨#[]⟩, .string ⟨#[]⟩], .agg #[.int .u64 X, .int .u64 Y, .int .u64 Z, .string ⟨#[]⟩, .string ⟨#[]⟩]] w fun e w' => e = .returned (.bool (if 0 < X then decide (0 ≤ r) && (x == X) else if 0 < Y then decide (0 ≤ r) && (x == 0) && (y == Y) else r == 0)) ∧ Below w.heap.size w w' := by
  go_enter Tryz.func8, Tryz.ntmps8
  go_wp2_with fail
  obtain ⟨w3, hw3, q1, q2, hb3⟩ := two_new w x y z X Y Z
  rw [← hw3]
  refine (HO.out _).mono ?_
  rintro e w1 ⟨rfl, hb1⟩
  have HB1 := Lib.hid (hb3.trans (hb1.mono hb3.size))
  obtain ⟨a0, a1, a2, a3, a4⟩ := (q1.below hb1).cells
  obtain ⟨d0, d1, d2, d3, d4⟩ := (q2.below hb1).cells
  clear hw3 q1 q2 hb3 hb1
  by_cases hX : 0 < X
  · cases e1 : decide (0 ≤ r) <;> cases e2 : (x == X)
    all_goals
      go_wp2_with fail
      go_ret
      exact ⟨by simp [*], HB1.out⟩
  · by_cases hY : 0 < Y
    · cases e1 : decide (0 ≤ r) <;> cases e2 : (x == 0) <;> cases e3 : (y == Y)
      all_goals
        go_wp2_with fail
        go_ret
        exact ⟨by simp [*], HB1.out⟩
    · go_wp2_with fail
      go_ret
      exact ⟨by simp [*], HB1.out⟩
end Go.Proofs.YtoebognfkigooaaGreatDoor.Sv
