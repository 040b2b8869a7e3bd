-- Written by gprint.py (a program of this session, over the kit's print) out of Lean's own print of the program.
import Derived.Test.YtjhpjciemfeafaaDoorPFnSeqUntilx0
namespace Go.Proofs.YtjhpjciemfeafaaDoor.PFnSeqUntil
open Go.Proofs.YtjhpjciemfeafaaDoor.Giv
open Go.RowKit Go.Proofs.YtjhpjciemfeafaaDoorW.PrintWords Go.Proofs.YtjhpjciemfeafaaDoorW.PrintLast Go.Proofs.YtjhpjciemfeafaaDoorW.PrintMore
attribute [local go_sem] max2_int min2_int max_two min_two max_three min_three max_four min_four   -- for this text's walks alone
set_option linter.unusedVariables false
set_option linter.unusedSimpArgs false

/-! ### sprig_untilStep: function 19 -/
mutual
def sprig_untilStep.l0 : Nat → Int → Int → List Int → Int → Option (List Int)
  | 0, _, _, _, _ => none
  | k + 1, x1, x2, x7, x8 => if x8 > x1 then (if x7.length < 17592186044416 then (sprig_untilStep.l0 k x1 x2 (x7 ++ [x8]) (wrap64 (x8 + x2))) else (none)) else (some x7)
def sprig_untilStep.l1 : Nat → Int → Int → List Int → Int → Option (List Int)
  | 0, _, _, _, _ => none
  | k + 1, x1, x2, x7, x9 => if x9 < x1 then (if x7.length < 17592186044416 then (sprig_untilStep.l1 k x1 x2 (x7 ++ [x9]) (wrap64 (x9 + x2))) else (none)) else (some x7)
end
def sprig_untilStep.f (k : Nat) (a0 : Int) (a1 : Int) (a2 : Int) : Option (List Int) := (some (([] : List Int) : List Int)).bind fun y101 => (if a1 < a0 then (if a2 ≥ 0 then (some y101) else (sprig_untilStep.l0 k a1 a2 y101 a0)) else (if a2 ≤ 0 then (some y101) else (sprig_untilStep.l1 k a1 a2 y101 a0)))
theorem sprig_untilStep.mono_l : ∀ k, (∀ y0 y1 y2 y3, LeO (sprig_untilStep.l0 k y0 y1 y2 y3) (sprig_untilStep.l0 (k + 1) y0 y1 y2 y3)) ∧ (∀ y0 y1 y2 y3, LeO (sprig_untilStep.l1 k y0 y1 y2 y3) (sprig_untilStep.l1 (k + 1) y0 y1 y2 y3))
  | 0 => ⟨fun _ _ _ _ r h => by simp [sprig_untilStep.l0] at h, fun _ _ _ _ r h => by simp [sprig_untilStep.l1] at h⟩
  | k + 1 => by
    obtain ⟨ih0, ih1⟩ := sprig_untilStep.mono_l k
    refine ⟨?_, ?_⟩
    · intro y0 y1 y2 y3
      unfold sprig_untilStep.l0
      repeat' first
      | (with_reducible exact ih0 _ _ _ _)
      | (with_reducible exact ih1 _ _ _ _)
      | (with_reducible exact LeO.refl _)
      | (with_reducible exact LeO.none _)
      | (with_reducible refine LeO.ite ?_ ?_)
      | (with_reducible refine LeO.bind ?_ (fun _ => ?_))
      | exact ih0 _ _ _ _
      | exact ih1 _ _ _ _
      | exact LeO.none _
      | refine LeO.ite ?_ ?_
      | refine LeO.bind ?_ (fun _ => ?_)
    · intro y0 y1 y2 y3
      unfold sprig_untilStep.l1
      repeat' first
      | (with_reducible exact ih0 _ _ _ _)
      | (with_reducible exact ih1 _ _ _ _)
      | (with_reducible exact LeO.refl _)
      | (with_reducible exact LeO.none _)
      | (with_reducible refine LeO.ite ?_ ?_)
      | (with_reducible refine LeO.bind ?_ (fun _ => ?_))
      | exact ih0 _ _ _ _
      | exact ih1 _ _ _ _
      | exact LeO.none _
      | refine LeO.ite ?_ ?_
      | refine LeO.bind ?_ (fun _ => ?_)
theorem sprig_untilStep.mono : ∀ a0 a1 a2 k, LeO (sprig_untilStep.f k a0 a1 a2) (sprig_untilStep.f (k + 1) a0 a1 a2) := by
  intro a0 a1 a2 k
  obtain ⟨ih0, ih1⟩ := sprig_untilStep.mono_l k
  unfold sprig_untilStep.f
  repeat' first
      | (with_reducible exact ih0 _ _ _ _)
      | (with_reducible exact ih1 _ _ _ _)
      | (with_reducible exact LeO.refl _)
      | (with_reducible exact LeO.none _)
      | (with_reducible refine LeO.ite ?_ ?_)
      | (with_reducible refine LeO.bind ?_ (fun _ => ?_))
      | exact ih0 _ _ _ _
      | exact ih1 _ _ _ _
      | exact LeO.none _
      | refine LeO.ite ?_ ?_
      | refine LeO.bind ?_ (fun _ => ?_)
set_option maxHeartbeats 8000000 in
set_option maxRecDepth 100000 in
theorem sprig_untilStep.calls (k : Nat) (a0 : Int) (a1 : Int) (a2 : Int) (r : List Int) (w : World) (h : sprig_untilStep.f k a0 a1 a2 = some r) :
    Calls Tryd.prog 19 #[.int .i64 a0, .int .i64 a1, .int .i64 a2] w fun e w' => ∃ v0_ : Value, e = .returned (v0_) ∧ Kd.R (Kd.int .i64) 3 w' w.heap.size (fun _ => True) v0_ r ∧ Below w.heap.size w w' := by
  have HB := Aside0.mk (Below.refl w.heap.size w)
  have H : ((some (([] : List Int) : List Int)).bind fun y101 => (if a1 < a0 then (if a2 ≥ 0 then (some y101) else (sprig_untilStep.l0 k a1 a2 y101 a0)) else (if a2 ≤ 0 then (some y101) else (sprig_untilStep.l1 k a1 a2 y101 a0)))) = some r := h
  clear h
  obtain ⟨y101, hy101⟩ : ∃ y_ : List Int, y_ = (([] : List Int)) := ⟨_, rfl⟩
  replace H : (if a1 < a0 then (if a2 ≥ 0 then (some y101) else (sprig_untilStep.l0 k a1 a2 y101 a0)) else (if a2 ≤ 0 then (some y101) else (sprig_untilStep.l1 k a1 a2 y101 a0))) = some r := by first | (rw [hy101]; with_reducible exact H) | (have H2_ := (Option.bind_some _ _).symm.trans H; rw [hy101]; with_reducible exact H2_) | (have H2_ := (Option.bind_some _ _).symm.trans H; with_reducible exact H2_) | with_reducible exact H | (rw [hy101]; exact H) | exact H
  have Ny101 := Aside0.mk hy101
  clear hy101
  by_cases c4 : a1 < a0
  · rw [if_pos c4] at H
    have c4b0 : decide (a1 < a0) = true := decide_eq_true c4
    clear c4
    by_cases c5 : a2 ≥ 0
    · rw [if_pos c5] at H
      have c5b0 : decide (0 ≤ a2) = true := decide_eq_true c5
      clear c5
      obtain rfl := Option.some.inj H
      go_enter Tryd.func19, Tryd.ntmps19
      go_wp2_with (first | ((with_reducible refine gate_dst (N := 10) rfl ?_); refine Kd.R_lit (Kd.int .i64) _ 3 ?hg (N := 10) ?hd (xs := ([] : List Int)) (inner := []) (ok := fun _ => True) (okp := fun _ => True) ?hr ?hp (fun _ hk => hk) trivial (Below.refl _ _) (Nat.le_refl _) (by simp) ?_; (case hd => rfl); (case hg => rfl); (case hr => first | (go_simp; done) | (go_simp; rfl)); (case hp => exact (Reps.none _ _)); intro v102 w6 ho7 hb hg_ hnew_; clear hg_ hnew_; (first | rw [← Ny101.out] at ho7 | (simp only [Int.reduceToNat] at ho7; rw [← Ny101.out] at ho7)); have n0_ := Aside0.mk (Kd.R_lower ho7 (below_size (by repeat (first | (with_reducible first | exact HB.out | apply below_alloc | apply pw_below_drewN | apply below_drew1) | exact HB.out)))); have n1_ := Aside0.mk (below_step (by repeat (first | (with_reducible first | exact HB.out | apply below_alloc | apply pw_below_drewN | apply below_drew1) | exact HB.out)) hb); clear HB; have HO103 := n0_; have HB := n1_; clear n0_ n1_; clear hb ho7))
      go_ret
      exact ⟨_, by first | rfl | (simp [errW_none, errW_some] <;> rfl) | (simp [*, errW_none, errW_some] <;> rfl), by (with_reducible repeat (first | apply Kd.R_alloc | apply Kd.R_drewN | apply Kd.R_drew)); exact HO103.out, by repeat (first | (with_reducible first | exact HB.out | apply below_alloc | apply pw_below_drewN | apply below_drew1) | exact HB.out)⟩
    · rw [if_neg c5] at H
      have c5b0 : decide (0 ≤ a2) = false := decide_eq_false c5
      clear c5
      have H' := Aside0.mk H
      clear H
      go_enter Tryd.func19, Tryd.ntmps19
      go_wp2_with (first | ((with_reducible refine gate_dst (N := 10) rfl ?_); refine Kd.R_lit (Kd.int .i64) _ 3 ?hg (N := 10) ?hd (xs := ([] : List Int)) (inner := []) (ok := fun _ => True) (okp := fun _ => True) ?hr ?hp (fun _ hk => hk) trivial (Below.refl _ _) (Nat.le_refl _) (by simp) ?_; (case hd => rfl); (case hg => rfl); (case hr => first | (go_simp; done) | (go_simp; rfl)); (case hp => exact (Reps.none _ _)); intro v102 w8 ho9 hb hg_ hnew_; clear hg_ hnew_; (first | rw [← Ny101.out] at ho9 | (simp only [Int.reduceToNat] at ho9; rw [← Ny101.out] at ho9)); have n0_ := Aside0.mk (Kd.R_lower ho9 (below_size (by repeat (first | (with_reducible first | exact HB.out | apply below_alloc | apply pw_below_drewN | apply below_drew1) | exact HB.out)))); have n1_ := Aside0.mk (below_step (by repeat (first | (with_reducible first | exact HB.out | apply below_alloc | apply pw_below_drewN | apply below_drew1) | exact HB.out)) hb); clear HB; have HO103 := n0_; have HB := n1_; clear n0_ n1_; clear hb ho9))
      go_loopg [7, 8] k (fun kq v7 v8 w' => ∃ (x7_1 : List Int) (x8_1 : Int), v8 = .int .i64 x8_1 ∧ Aside0 (sprig_untilStep.l0 kq a1 a2 x7_1 x8_1 = some r) ∧ Aside0 (kq ≤ k) ∧ Aside0 (Kd.R (Kd.int .i64) 3 w' w.heap.size (fun _ => True) v7 x7_1) ∧ Aside0 (Below w.heap.size w w'))
      case atStart => exact ⟨(y101), (a0), (by first | rfl | (simp; done) | (simp [*]; done)), H', ⟨Nat.le_refl _⟩, ⟨by (with_reducible repeat (first | apply Kd.R_alloc | apply Kd.R_drewN | apply Kd.R_drew)); first | exact HO103.out | (have h_ := HO103.out; simp only [Txt.own_map] at h_ ⊢; exact h_)⟩, ⟨by repeat (first | (with_reducible first | exact HB.out | apply below_alloc | apply pw_below_drewN | apply below_drew1) | exact HB.out)⟩⟩
      case round =>
        clear H'
        try clear c1
        try clear p2
        try clear c4
        try clear c4b0
        try clear c5
        try clear c5b0
        obtain ⟨x7_1, x8_1, rfl, HA, HK1, HO_7, HB⟩ := hrel
        cases gk with
        | zero => exact absurd HA.out (by simp [sprig_untilStep.l0])
        | succ k1 =>
          have H := HA.out
          clear HA
          simp only [sprig_untilStep.l0] at H
          by_cases c10 : x8_1 > a1
          · rw [if_pos c10] at H
            have c10b0 : decide (a1 < x8_1) = true := decide_eq_true c10
            clear c10
            by_cases c11 : x7_1.length < 17592186044416
            · rw [if_pos c11] at H
              have LMc11 := Aside0.mk c11
              clear c11
              obtain ⟨y104, hy104⟩ : ∃ y_ : List Int, y_ = (x7_1 ++ [x8_1]) := ⟨_, rfl⟩
              replace H : (sprig_untilStep.l0 k1 a1 a2 y104 (wrap64 (x8_1 + a2))) = some r := by first | (rw [hy104]; with_reducible exact H) | (have H2_ := (Option.bind_some _ _).symm.trans H; rw [hy104]; with_reducible exact H2_) | (have H2_ := (Option.bind_some _ _).symm.trans H; with_reducible exact H2_) | with_reducible exact H | (rw [hy104]; exact H) | exact H
              have Ny104 := Aside0.mk hy104
              clear hy104
              have H' := Aside0.mk H
              clear H
              go_wp2_with (first | ((with_reducible refine gate_builtin (b := .append) (xs := #[.tmp 24, .tmp 26]) rfl ?_); at_builtin; refine Kd.R_append (Kd.int .i64) (w0 := w) w.heap.size rfl (.tmp 24) (.tmp 26) 22 3 (.int .i64 0) 8 rfl Tryd.underlying22 info3 rfl (by decide) (by omega) u7 x7_1 x8_1 [.int .i64 x8_1] (fun _ => True) (fun _ => False) rfl rfl ?aP (fun _ hk => hk.elim) ?aF ?aO ?aB ?aS ?aL ?_; (case aP => exact rfl); (case aB => exact (by repeat (first | (with_reducible first | exact HB.out | apply below_alloc | apply pw_below_drewN | apply below_drew1) | exact HB.out))); (case aF => exact (fun _ _ => trivial)); (case aO => exact (by (with_reducible repeat (first | apply Kd.R_alloc | apply Kd.R_drewN | apply Kd.R_drew)); exact HO_7.out)); (case aS => exact (below_size (by repeat (first | (with_reducible first | exact HB.out | apply below_alloc | apply pw_below_drewN | apply below_drew1) | exact HB.out)))); (case aL => have := LMc11.out; omega); intro v105 w12 ho hb hg hat; rw [← Ny104.out] at ho; have n0_ := Aside0.mk (hb); have n1_ := Aside0.mk (ho); clear HB; clear HO_7; have HB := n0_; have HO106 := n1_; clear n0_ n1_; clear ho hb hg hat))
              go_roundg k1
              case measure => have := HK1.out; omega
              case rel => exact ⟨(y104), (wrap64 (x8_1 + a2)), (by first | rfl | (simp; done) | (simp [*]; done)), H', ⟨by have := HK1.out; omega⟩, ⟨by (with_reducible repeat (first | apply Kd.R_alloc | apply Kd.R_drewN | apply Kd.R_drew)); first | exact HO106.out | (have h_ := HO106.out; simp only [Txt.own_map] at h_ ⊢; exact h_)⟩, ⟨by repeat (first | (with_reducible first | exact HB.out | apply below_alloc | apply pw_below_drewN | apply below_drew1) | exact HB.out)⟩⟩
            · rw [if_neg c11] at H
              exact absurd H (by simp)
          · rw [if_neg c10] at H
            have c10b0 : decide (a1 < x8_1) = false := decide_eq_false c10
            clear c10
            obtain rfl := Option.some.inj H
            go_wp2
            go_ret
            exact ⟨_, by first | rfl | (simp [errW_none, errW_some] <;> rfl) | (simp [*, errW_none, errW_some] <;> rfl), by (with_reducible repeat (first | apply Kd.R_alloc | apply Kd.R_drewN | apply Kd.R_drew)); exact HO_7.out, by repeat (first | (with_reducible first | exact HB.out | apply below_alloc | apply pw_below_drewN | apply below_drew1) | exact HB.out)⟩
  · rw [if_neg c4] at H
    have c4b0 : decide (a1 < a0) = false := decide_eq_false c4
    clear c4
    by_cases c13 : a2 ≤ 0
    · rw [if_pos c13] at H
      have c13b0 : decide (a2 ≤ 0) = true := decide_eq_true c13
      clear c13
      obtain rfl := Option.some.inj H
      go_enter Tryd.func19, Tryd.ntmps19
      go_wp2_with (first | ((with_reducible refine gate_dst (N := 10) rfl ?_); refine Kd.R_lit (Kd.int .i64) _ 3 ?hg (N := 10) ?hd (xs := ([] : List Int)) (inner := []) (ok := fun _ => True) (okp := fun _ => True) ?hr ?hp (fun _ hk => hk) trivial (Below.refl _ _) (Nat.le_refl _) (by simp) ?_; (case hd => rfl); (case hg => rfl); (case hr => first | (go_simp; done) | (go_simp; rfl)); (case hp => exact (Reps.none _ _)); intro v102 w14 ho15 hb hg_ hnew_; clear hg_ hnew_; (first | rw [← Ny101.out] at ho15 | (simp only [Int.reduceToNat] at ho15; rw [← Ny101.out] at ho15)); have n0_ := Aside0.mk (Kd.R_lower ho15 (below_size (by repeat (first | (with_reducible first | exact HB.out | apply below_alloc | apply pw_below_drewN | apply below_drew1) | exact HB.out)))); have n1_ := Aside0.mk (below_step (by repeat (first | (with_reducible first | exact HB.out | apply below_alloc | apply pw_below_drewN | apply below_drew1) | exact HB.out)) hb); clear HB; have HO103 := n0_; have HB := n1_; clear n0_ n1_; clear hb ho15))
      go_ret
      exact ⟨_, by first | rfl | (simp [errW_none, errW_some] <;> rfl) | (simp [*, errW_none, errW_some] <;> rfl), by (with_reducible repeat (first | apply Kd.R_alloc | apply Kd.R_drewN | apply Kd.R_drew)); exact HO103.out, by repeat (first | (with_reducible first | exact HB.out | apply below_alloc | apply pw_below_drewN | apply below_drew1) | exact HB.out)⟩
    · rw [if_neg c13] at H
      have c13b0 : decide (a2 ≤ 0) = false := decide_eq_false c13
      clear c13
      have H' := Aside0.mk H
      clear H
      go_enter Tryd.func19, Tryd.ntmps19
      go_wp2_with (first | ((with_reducible refine gate_dst (N := 10) rfl ?_); refine Kd.R_lit (Kd.int .i64) _ 3 ?hg (N := 10) ?hd (xs := ([] : List Int)) (inner := []) (ok := fun _ => True) (okp := fun _ => True) ?hr ?hp (fun _ hk => hk) trivial (Below.refl _ _) (Nat.le_refl _) (by simp) ?_; (case hd => rfl); (case hg => rfl); (case hr => first | (go_simp; done) | (go_simp; rfl)); (case hp => exact (Reps.none _ _)); intro v102 w16 ho17 hb hg_ hnew_; clear hg_ hnew_; (first | rw [← Ny101.out] at ho17 | (simp only [Int.reduceToNat] at ho17; rw [← Ny101.out] at ho17)); have n0_ := Aside0.mk (Kd.R_lower ho17 (below_size (by repeat (first | (with_reducible first | exact HB.out | apply below_alloc | apply pw_below_drewN | apply below_drew1) | exact HB.out)))); have n1_ := Aside0.mk (below_step (by repeat (first | (with_reducible first | exact HB.out | apply below_alloc | apply pw_below_drewN | apply below_drew1) | exact HB.out)) hb); clear HB; have HO103 := n0_; have HB := n1_; clear n0_ n1_; clear hb ho17))
      go_loopg [7, 9] k (fun kq v7 v9 w' => ∃ (x7_1 : List Int) (x9_1 : Int), v9 = .int .i64 x9_1 ∧ Aside0 (sprig_untilStep.l1 kq a1 a2 x7_1 x9_1 = some r) ∧ Aside0 (kq ≤ k) ∧ Aside0 (Kd.R (Kd.int .i64) 3 w' w.heap.size (fun _ => True) v7 x7_1) ∧ Aside0 (Below w.heap.size w w'))
      case atStart => exact ⟨(y101), (a0), (by first | rfl | (simp; done) | (simp [*]; done)), H', ⟨Nat.le_refl _⟩, ⟨by (with_reducible repeat (first | apply Kd.R_alloc | apply Kd.R_drewN | apply Kd.R_drew)); first | exact HO103.out | (have h_ := HO103.out; simp only [Txt.own_map] at h_ ⊢; exact h_)⟩, ⟨by repeat (first | (with_reducible first | exact HB.out | apply below_alloc | apply pw_below_drewN | apply below_drew1) | exact HB.out)⟩⟩
      case round =>
        clear H'
        try clear c1
        try clear p2
        try clear c4
        try clear c4b0
        try clear c5
        try clear c5b0
        try clear p6
        try clear c10
        try clear c10b0
        try clear c11
        try clear c13
        try clear c13b0
        try clear p2
        obtain ⟨x7_1, x9_1, rfl, HA, HK1, HO_7, HB⟩ := hrel
        cases gk with
        | zero => exact absurd HA.out (by simp [sprig_untilStep.l1])
        | succ k1 =>
          have H := HA.out
          clear HA
          simp only [sprig_untilStep.l1] at H
          by_cases c18 : x9_1 < a1
          · rw [if_pos c18] at H
            have c18b0 : decide (x9_1 < a1) = true := decide_eq_true c18
            clear c18
            by_cases c19 : x7_1.length < 17592186044416
            · rw [if_pos c19] at H
              have LMc19 := Aside0.mk c19
              clear c19
              obtain ⟨y107, hy107⟩ : ∃ y_ : List Int, y_ = (x7_1 ++ [x9_1]) := ⟨_, rfl⟩
              replace H : (sprig_untilStep.l1 k1 a1 a2 y107 (wrap64 (x9_1 + a2))) = some r := by first | (rw [hy107]; with_reducible exact H) | (have H2_ := (Option.bind_some _ _).symm.trans H; rw [hy107]; with_reducible exact H2_) | (have H2_ := (Option.bind_some _ _).symm.trans H; with_reducible exact H2_) | with_reducible exact H | (rw [hy107]; exact H) | exact H
              have Ny107 := Aside0.mk hy107
              clear hy107
              have H' := Aside0.mk H
              clear H
              go_wp2_with (first | ((with_reducible refine gate_builtin (b := .append) (xs := #[.tmp 39, .tmp 41]) rfl ?_); at_builtin; refine Kd.R_append (Kd.int .i64) (w0 := w) w.heap.size rfl (.tmp 39) (.tmp 41) 22 3 (.int .i64 0) 8 rfl Tryd.underlying22 info3 rfl (by decide) (by omega) u7 x7_1 x9_1 [.int .i64 x9_1] (fun _ => True) (fun _ => False) rfl rfl ?aP (fun _ hk => hk.elim) ?aF ?aO ?aB ?aS ?aL ?_; (case aP => exact rfl); (case aB => exact (by repeat (first | (with_reducible first | exact HB.out | apply below_alloc | apply pw_below_drewN | apply below_drew1) | exact HB.out))); (case aF => exact (fun _ _ => trivial)); (case aO => exact (by (with_reducible repeat (first | apply Kd.R_alloc | apply Kd.R_drewN | apply Kd.R_drew)); exact HO_7.out)); (case aS => exact (below_size (by repeat (first | (with_reducible first | exact HB.out | apply below_alloc | apply pw_below_drewN | apply below_drew1) | exact HB.out)))); (case aL => have := LMc19.out; omega); intro v108 w20 ho hb hg hat; rw [← Ny107.out] at ho; have n0_ := Aside0.mk (hb); have n1_ := Aside0.mk (ho); clear HB; clear HO_7; have HB := n0_; have HO109 := n1_; clear n0_ n1_; clear ho hb hg hat))
              go_roundg k1
              case measure => have := HK1.out; omega
              case rel => exact ⟨(y107), (wrap64 (x9_1 + a2)), (by first | rfl | (simp; done) | (simp [*]; done)), H', ⟨by have := HK1.out; omega⟩, ⟨by (with_reducible repeat (first | apply Kd.R_alloc | apply Kd.R_drewN | apply Kd.R_drew)); first | exact HO109.out | (have h_ := HO109.out; simp only [Txt.own_map] at h_ ⊢; exact h_)⟩, ⟨by repeat (first | (with_reducible first | exact HB.out | apply below_alloc | apply pw_below_drewN | apply below_drew1) | exact HB.out)⟩⟩
            · rw [if_neg c19] at H
              exact absurd H (by simp)
          · rw [if_neg c18] at H
            have c18b0 : decide (x9_1 < a1) = false := decide_eq_false c18
            clear c18
            obtain rfl := Option.some.inj H
            go_wp2
            go_ret
            exact ⟨_, by first | rfl | (simp [errW_none, errW_some] <;> rfl) | (simp [*, errW_none, errW_some] <;> rfl), by (with_reducible repeat (first | apply Kd.R_alloc | apply Kd.R_drewN | apply Kd.R_drew)); exact HO_7.out, by repeat (first | (with_reducible first | exact HB.out | apply below_alloc | apply pw_below_drewN | apply below_drew1) | exact HB.out)⟩

/-! ### sprig_until: function 18 -/
def sprig_until.f (k : Nat) (a0 : Int) : Option (List Int) := if a0 < 0 then ((sprig_untilStep.f k 0 a0 (-1)).bind fun t110 => (some t110)) else ((sprig_untilStep.f k 0 a0 1).bind fun t113 => (some t113))
theorem sprig_until.mono : ∀ a0 k, LeO (sprig_until.f k a0) (sprig_until.f (k + 1) a0) := by
  intro a0 k
  unfold sprig_until.f
  repeat' first
      | (with_reducible exact sprig_untilStep.mono _ _ _ _)
      | (with_reducible exact LeO.refl _)
      | (with_reducible exact LeO.none _)
      | (with_reducible refine LeO.ite ?_ ?_)
      | (with_reducible refine LeO.bind ?_ (fun _ => ?_))
      | exact sprig_untilStep.mono _ _ _ _
      | exact LeO.none _
      | refine LeO.ite ?_ ?_
      | refine LeO.bind ?_ (fun _ => ?_)
set_option maxHeartbeats 8000000 in
set_option maxRecDepth 100000 in
theorem sprig_until.calls (k : Nat) (a0 : Int) (r : List Int) (w : World) (h : sprig_until.f k a0 = some r) :
    Calls Tryd.prog 18 #[.int .i64 a0] w fun e w' => ∃ v0_ : Value, e = .returned (v0_) ∧ Kd.R (Kd.int .i64) 3 w' w.heap.size (fun _ => True) v0_ r ∧ Below w.heap.size w w' := by
  have HB := Aside0.mk (Below.refl w.heap.size w)
  have H : (if a0 < 0 then ((sprig_untilStep.f k 0 a0 (-1)).bind fun t110 => (some t110)) else ((sprig_untilStep.f k 0 a0 1).bind fun t113 => (some t113))) = some r := h
  clear h
  by_cases c2 : a0 < 0
  · rw [if_pos c2] at H
    have c2b0 : decide (a0 < 0) = true := decide_eq_true c2
    clear c2
    replace H := Option.bind_eq_some_iff.mp H
    obtain ⟨t110, A30, H⟩ := H
    replace H : (some t110) = some r := H
    have A3 := Aside0.mk A30
    clear A30
    obtain rfl := Option.some.inj H
    go_enter Tryd.func18, Tryd.ntmps18
    go_wp2_with (first | ((with_reducible refine gate_callee (f := 19) rfl ?_); refine goesL_ (some 8) rfl rfl Tryd.func19 (by kernel_rfl) rfl #[.int .i64 0, .int .i64 a0, .int .i64 (-1)] rfl (by (try simp only [List.map_toArray, List.map_cons, List.map_nil]); first | done | rfl | (simp only [List.length_drop, List.length_take]; rfl)) ?_; (with_reducible refine (sprig_untilStep.calls k 0 a0 (-1) t110 _ A3.out).mono ?_); rintro e w4 ⟨v111, rfl, ho0, hb⟩; refine ⟨_, rfl, ?_⟩; have n0_ := Aside0.mk (Kd.R_lower ho0 (below_size (by repeat (first | (with_reducible first | exact HB.out | apply below_alloc | apply pw_below_drewN | apply below_drew1) | exact HB.out)))); have n1_ := Aside0.mk (below_step (by repeat (first | (with_reducible first | exact HB.out | apply below_alloc | apply pw_below_drewN | apply below_drew1) | exact HB.out)) hb); clear HB; have HO112 := n0_; have HB := n1_; clear n0_ n1_; (try clear hb); (try clear hb2); (try clear hk); (try clear hi); (try clear ho0)))
    go_ret
    exact ⟨_, by first | rfl | (simp [errW_none, errW_some] <;> rfl) | (simp [*, errW_none, errW_some] <;> rfl), by (with_reducible repeat (first | apply Kd.R_alloc | apply Kd.R_drewN | apply Kd.R_drew)); exact HO112.out, by repeat (first | (with_reducible first | exact HB.out | apply below_alloc | apply pw_below_drewN | apply below_drew1) | exact HB.out)⟩
  · rw [if_neg c2] at H
    have c2b0 : decide (a0 < 0) = false := decide_eq_false c2
    clear c2
    replace H := Option.bind_eq_some_iff.mp H
    obtain ⟨t113, A50, H⟩ := H
    replace H : (some t113) = some r := H
    have A5 := Aside0.mk A50
    clear A50
    obtain rfl := Option.some.inj H
    go_enter Tryd.func18, Tryd.ntmps18
    go_wp2_with (first | ((with_reducible refine gate_callee (f := 19) rfl ?_); refine goesL_ (some 8) rfl rfl Tryd.func19 (by kernel_rfl) rfl #[.int .i64 0, .int .i64 a0, .int .i64 1] rfl (by (try simp only [List.map_toArray, List.map_cons, List.map_nil]); first | done | rfl | (simp only [List.length_drop, List.length_take]; rfl)) ?_; (with_reducible refine (sprig_untilStep.calls k 0 a0 1 t113 _ A5.out).mono ?_); rintro e w6 ⟨v114, rfl, ho0, hb⟩; refine ⟨_, rfl, ?_⟩; have n0_ := Aside0.mk (Kd.R_lower ho0 (below_size (by repeat (first | (with_reducible first | exact HB.out | apply below_alloc | apply pw_below_drewN | apply below_drew1) | exact HB.out)))); have n1_ := Aside0.mk (below_step (by repeat (first | (with_reducible first | exact HB.out | apply below_alloc | apply pw_below_drewN | apply below_drew1) | exact HB.out)) hb); clear HB; have HO115 := n0_; have HB := n1_; clear n0_ n1_; (try clear hb); (try clear hb2); (try clear hk); (try clear hi); (try clear ho0)))
    go_ret
    exact ⟨_, by first | rfl | (simp [errW_none, errW_some] <;> rfl) | (simp [*, errW_none, errW_some] <;> rfl), by (with_reducible repeat (first | apply Kd.R_alloc | apply Kd.R_drewN | apply Kd.R_drew)); exact HO115.out, by repeat (first | (with_reducible first | exact HB.out | apply below_alloc | apply pw_below_drewN | apply below_drew1) | exact HB.out)⟩

/-! ### sprig_Until: function 13 -/
def sprig_Until.f (k : Nat) (a0 : Int) : Option (List Int) := (sprig_until.f k a0).bind fun t116 => (some t116)
theorem sprig_Until.mono : ∀ a0 k, LeO (sprig_Until.f k a0) (sprig_Until.f (k + 1) a0) := by
  intro a0 k
  unfold sprig_Until.f
  repeat' first
      | (with_reducible exact sprig_until.mono _ _)
      | (with_reducible exact LeO.refl _)
      | (with_reducible exact LeO.none _)
      | (with_reducible refine LeO.ite ?_ ?_)
      | (with_reducible refine LeO.bind ?_ (fun _ => ?_))
      | exact sprig_until.mono _ _
      | exact LeO.none _
      | refine LeO.ite ?_ ?_
      | refine LeO.bind ?_ (fun _ => ?_)
set_option maxHeartbeats 8000000 in
set_option maxRecDepth 100000 in
theorem sprig_Until.calls (k : Nat) (a0 : Int) (r : List Int) (w : World) (h : sprig_Until.f k a0 = some r) :
    Calls Tryd.prog 13 #[.int .i64 a0] w fun e w' => ∃ v0_ : Value, e = .returned (v0_) ∧ Kd.R (Kd.int .i64) 3 w' w.heap.size (fun _ => True) v0_ r ∧ Below w.heap.size w w' := by
  have HB := Aside0.mk (Below.refl w.heap.size w)
  have H : ((sprig_until.f k a0).bind fun t116 => (some t116)) = some r := h
  clear h
  replace H := Option.bind_eq_some_iff.mp H
  obtain ⟨t116, A20, H⟩ := H
  replace H : (some t116) = some r := H
  have A2 := Aside0.mk A20
  clear A20
  obtain rfl := Option.some.inj H
  go_enter Tryd.func13, Tryd.ntmps13
  go_wp2_with (first | ((with_reducible refine gate_callee (f := 18) rfl ?_); refine goesL_ (some 4) rfl rfl Tryd.func18 (by kernel_rfl) rfl #[.int .i64 a0] rfl (by (try simp only [List.map_toArray, List.map_cons, List.map_nil]); first | done | rfl | (simp only [List.length_drop, List.length_take]; rfl)) ?_; (with_reducible refine (sprig_until.calls k a0 t116 _ A2.out).mono ?_); rintro e w3 ⟨v117, rfl, ho0, hb⟩; refine ⟨_, rfl, ?_⟩; have n0_ := Aside0.mk (Kd.R_lower ho0 (below_size (by repeat (first | (with_reducible first | exact HB.out | apply below_alloc | apply pw_below_drewN | apply below_drew1) | exact HB.out)))); have n1_ := Aside0.mk (below_step (by repeat (first | (with_reducible first | exact HB.out | apply below_alloc | apply pw_below_drewN | apply below_drew1) | exact HB.out)) hb); clear HB; have HO118 := n0_; have HB := n1_; clear n0_ n1_; (try clear hb); (try clear hb2); (try clear hk); (try clear hi); (try clear ho0)))
  go_ret
  exact ⟨_, by first | rfl | (simp [errW_none, errW_some] <;> rfl) | (simp [*, errW_none, errW_some] <;> rfl), by (with_reducible repeat (first | apply Kd.R_alloc | apply Kd.R_drewN | apply Kd.R_drew)); exact HO118.out, by repeat (first | (with_reducible first | exact HB.out | apply below_alloc | apply pw_below_drewN | apply below_drew1) | exact HB.out)⟩

/-! ### impl_Until: function 5 -/
def impl_Until.f (k : Nat) (a0 : Int) : Option (List Int) := (sprig_Until.f k a0).bind fun t119 => (some t119)
theorem impl_Until.mono : ∀ a0 k, LeO (impl_Until.f k a0) (impl_Until.f (k + 1) a0) := by
  intro a0 k
  unfold impl_Until.f
  repeat' first
      | (with_reducible exact sprig_Until.mono _ _)
      | (with_reducible exact LeO.refl _)
      | (with_reducible exact LeO.none _)
      | (with_reducible refine LeO.ite ?_ ?_)
      | (with_reducible refine LeO.bind ?_ (fun _ => ?_))
      | exact sprig_Until.mono _ _
      | exact LeO.none _
      | refine LeO.ite ?_ ?_
      | refine LeO.bind ?_ (fun _ => ?_)
set_option maxHeartbeats 8000000 in
set_option maxRecDepth 100000 in
theorem impl_Until.calls (k : Nat) (a0 : Int) (r : List Int) (w : World) (h : impl_Until.f k a0 = some r) :
    Calls Tryd.prog 5 #[.int .i64 a0] w fun e w' => ∃ v0_ : Value, e = .returned (v0_) ∧ Kd.R (Kd.int .i64) 3 w' w.heap.size (fun _ => True) v0_ r ∧ Below w.heap.size w w' := by
  have HB := Aside0.mk (Below.refl w.heap.size w)
  have H : ((sprig_Until.f k a0).bind fun t119 => (some t119)) = some r := h
  clear h
  replace H := Option.bind_eq_some_iff.mp H
  obtain ⟨t119, A20, H⟩ := H
  replace H : (some t119) = some r := H
  have A2 := Aside0.mk A20
  clear A20
  obtain rfl := Option.some.inj H
  go_enter Tryd.func5, Tryd.ntmps5
  go_wp2_with (first | ((with_reducible refine gate_callee (f := 13) rfl ?_); refine goesL_ (some 4) rfl rfl Tryd.func13 (by kernel_rfl) rfl #[.int .i64 a0] rfl (by (try simp only [List.map_toArray, List.map_cons, List.map_nil]); first | done | rfl | (simp only [List.length_drop, List.length_take]; rfl)) ?_; (with_reducible refine (sprig_Until.calls k a0 t119 _ A2.out).mono ?_); rintro e w3 ⟨v120, rfl, ho0, hb⟩; refine ⟨_, rfl, ?_⟩; have n0_ := Aside0.mk (Kd.R_lower ho0 (below_size (by repeat (first | (with_reducible first | exact HB.out | apply below_alloc | apply pw_below_drewN | apply below_drew1) | exact HB.out)))); have n1_ := Aside0.mk (below_step (by repeat (first | (with_reducible first | exact HB.out | apply below_alloc | apply pw_below_drewN | apply below_drew1) | exact HB.out)) hb); clear HB; have HO121 := n0_; have HB := n1_; clear n0_ n1_; (try clear hb); (try clear hb2); (try clear hk); (try clear hi); (try clear ho0)))
  go_ret
  exact ⟨_, by first | rfl | (simp [errW_none, errW_some] <;> rfl) | (simp [*, errW_none, errW_some] <;> rfl), by (with_reducible repeat (first | apply Kd.R_alloc | apply Kd.R_drewN | apply Kd.R_drew)); exact HO121.out, by repeat (first | (with_reducible first | exact HB.out | apply below_alloc | apply pw_below_drewN | apply below_drew1) | exact HB.out)⟩

/-! ### sprig_UntilStep: function 14 -/
def sprig_UntilStep.f (k : Nat) (a0 : Int) (a1 : Int) (a2 : Int) : Option (List Int) := (sprig_untilStep.f k a0 a1 a2).bind fun t122 => (some t122)
theorem sprig_UntilStep.mono : ∀ a0 a1 a2 k, LeO (sprig_UntilStep.f k a0 a1 a2) (sprig_UntilStep.f (k + 1) a0 a1 a2) := by
  intro a0 a1 a2 k
  unfold sprig_UntilStep.f
  repeat' first
      | (with_reducible exact sprig_untilStep.mono _ _ _ _)
      | (with_reducible exact LeO.refl _)
      | (with_reducible exact LeO.none _)
      | (with_reducible refine LeO.ite ?_ ?_)
      | (with_reducible refine LeO.bind ?_ (fun _ => ?_))
      | exact sprig_untilStep.mono _ _ _ _
      | exact LeO.none _
      | refine LeO.ite ?_ ?_
      | refine LeO.bind ?_ (fun _ => ?_)
set_option maxHeartbeats 8000000 in
set_option maxRecDepth 100000 in
theorem sprig_UntilStep.calls (k : Nat) (a0 : Int) (a1 : Int) (a2 : Int) (r : List Int) (w : World) (h : sprig_UntilStep.f k a0 a1 a2 = some r) :
    Calls Tryd.prog 14 #[.int .i64 a0, .int .i64 a1, .int .i64 a2] w fun e w' => ∃ v0_ : Value, e = .returned (v0_) ∧ Kd.R (Kd.int .i64) 3 w' w.heap.size (fun _ => True) v0_ r ∧ Below w.heap.size w w' := by
  have HB := Aside0.mk (Below.refl w.heap.size w)
  have H : ((sprig_untilStep.f k a0 a1 a2).bind fun t122 => (some t122)) = some r := h
  clear h
  replace H := Option.bind_eq_some_iff.mp H
  obtain ⟨t122, A40, H⟩ := H
  replace H : (some t122) = some r := H
  have A4 := Aside0.mk A40
  clear A40
  obtain rfl := Option.some.inj H
  go_enter Tryd.func14, Tryd.ntmps14
  go_wp2_with (first | ((with_reducible refine gate_callee (f := 19) rfl ?_); refine goesL_ (some 10) rfl rfl Tryd.func19 (by kernel_rfl) rfl #[.int .i64 a0, .int .i64 a1, .int .i64 a2] rfl (by (try simp only [List.map_toArray, List.map_cons, List.map_nil]); first | done | rfl | (simp only [List.length_drop, List.length_take]; rfl)) ?_; (with_reducible refine (sprig_untilStep.calls k a0 a1 a2 t122 _ A4.out).mono ?_); rintro e w5 ⟨v123, rfl, ho0, hb⟩; refine ⟨_, rfl, ?_⟩; have n0_ := Aside0.mk (Kd.R_lower ho0 (below_size (by repeat (first | (with_reducible first | exact HB.out | apply below_alloc | apply pw_below_drewN | apply below_drew1) | exact HB.out)))); have n1_ := Aside0.mk (below_step (by repeat (first | (with_reducible first | exact HB.out | apply below_alloc | apply pw_below_drewN | apply below_drew1) | exact HB.out)) hb); clear HB; have HO124 := n0_; have HB := n1_; clear n0_ n1_; (try clear hb); (try clear hb2); (try clear hk); (try clear hi); (try clear ho0)))
  go_ret
  exact ⟨_, by first | rfl | (simp [errW_none, errW_some] <;> rfl) | (simp [*, errW_none, errW_some] <;> rfl), by (with_reducible repeat (first | apply Kd.R_alloc | apply Kd.R_drewN | apply Kd.R_drew)); exact HO124.out, by repeat (first | (with_reducible first | exact HB.out | apply below_alloc | apply pw_below_drewN | apply below_drew1) | exact HB.out)⟩

/-! ### impl_UntilStep: function 6 -/
def impl_UntilStep.f (k : Nat) (a0 : Int) (a1 : Int) (a2 : Int) : Option (List Int) := (sprig_UntilStep.f k a0 a1 a2).bind fun t125 => (some t125)
theorem impl_UntilStep.mono : ∀ a0 a1 a2 k, LeO (impl_UntilStep.f k a0 a1 a2) (impl_UntilStep.f (k + 1) a0 a1 a2) := by
  intro a0 a1 a2 k
  unfold impl_UntilStep.f
  repeat' first
      | (with_reducible exact sprig_UntilStep.mono _ _ _ _)
      | (with_reducible exact LeO.refl _)
      | (with_reducible exact LeO.none _)
      | (with_reducible refine LeO.ite ?_ ?_)
      | (with_reducible refine LeO.bind ?_ (fun _ => ?_))
      | exact sprig_UntilStep.mono _ _ _ _
      | exact LeO.none _
      | refine LeO.ite ?_ ?_
      | refine LeO.bind ?_ (fun _ => ?_)
set_option maxHeartbeats 8000000 in
set_option maxRecDepth 100000 in
theorem impl_UntilStep.calls (k : Nat) (a0 : Int) (a1 : Int) (a2 : Int) (r : List Int) (w : World) (h : impl_UntilStep.f k a0 a1 a2 = some r) :
    Calls Tryd.prog 6 #[.int .i64 a0, .int .i64 a1, .int .i64 a2] w fun e w' => ∃ v0_ : Value, e = .returned (v0_) ∧ Kd.R (Kd.int .i64) 3 w' w.heap.size (fun _ => True) v0_ r ∧ Below w.heap.size w w' := by
  have HB := Aside0.mk (Below.refl w.heap.size w)
  have H : ((sprig_UntilStep.f k a0 a1 a2).bind fun t125 => (some t125)) = some r := h
  clear h
  replace H := Option.bind_eq_some_iff.mp H
  obtain ⟨t125, A40, H⟩ := H
  replace H : (some t125) = some r := H
  have A4 := Aside0.mk A40
  clear A40
  obtain rfl := Option.some.inj H
  go_enter Tryd.func6, Tryd.ntmps6
  go_wp2_with (first | ((with_reducible refine gate_callee (f := 14) rfl ?_); refine goesL_ (some 10) rfl rfl Tryd.func14 (by kernel_rfl) rfl #[.int .i64 a0, .int .i64 a1, .int .i64 a2] rfl (by (try simp only [List.map_toArray, List.map_cons, List.map_nil]); first | done | rfl | (simp only [List.length_drop, List.length_take]; rfl)) ?_; (with_reducible refine (sprig_UntilStep.calls k a0 a1 a2 t125 _ A4.out).mono ?_); rintro e w5 ⟨v126, rfl, ho0, hb⟩; refine ⟨_, rfl, ?_⟩; have n0_ := Aside0.mk (Kd.R_lower ho0 (below_size (by repeat (first | (with_reducible first | exact HB.out | apply below_alloc | apply pw_below_drewN | apply below_drew1) | exact HB.out)))); have n1_ := Aside0.mk (below_step (by repeat (first | (with_reducible first | exact HB.out | apply below_alloc | apply pw_below_drewN | apply below_drew1) | exact HB.out)) hb); clear HB; have HO127 := n0_; have HB := n1_; clear n0_ n1_; (try clear hb); (try clear hb2); (try clear hk); (try clear hi); (try clear ho0)))
  go_ret
  exact ⟨_, by first | rfl | (simp [errW_none, errW_some] <;> rfl) | (simp [*, errW_none, errW_some] <;> rfl), by (with_reducible repeat (first | apply Kd.R_alloc | apply Kd.R_drewN | apply Kd.R_drew)); exact HO127.out, by repeat (first | (with_reducible first | exact HB.out | apply below_alloc | apply pw_below_drewN | apply below_drew1) | exact HB.out)⟩

/-! ### sprig_seq: function 21 -/
def sprig_seq.f (k : Nat) (l0 : List Int) : Option (ByteArray) := if (l0.length : Int) = 0 then (some (⟨#[]⟩ : ByteArray)) else (if (l0.length : Int) = 1 then (if 0 < (l0.length : Int) then (if (rd l0 0) < 1 then ((sprig_untilStep.f k 1 (wrap64 ((rd l0 0) + (-1))) (-1)).bind fun t149 => ((sprig_intArrayToString.f t149 (⟨#[32]⟩ : ByteArray)).bind fun t152 => (some t152))) else ((sprig_untilStep.f k 1 (wrap64 ((rd l0 0) + 1)) 1).bind fun t153 => ((sprig_intArrayToString.f t153 (⟨#[32]⟩ : ByteArray)).bind fun t156 => (some t156)))) else (none)) else (if (l0.length : Int) = 3 then (if 0 < (l0.length : Int) then (if 2 < (l0.length : Int) then (if 1 < (l0.length : Int) then (if (rd l0 2) < (rd l0 0) then (if (rd l0 1) > 0 then (some (⟨#[]⟩ : ByteArray)) else ((sprig_untilStep.f k (rd l0 0) (wrap64 ((rd l0 2) + (-1))) (rd l0 1)).bind fun t160 => ((sprig_intArrayToString.f t160 (⟨#[32]⟩ : ByteArray)).bind fun t163 => (some t163)))) else ((sprig_untilStep.f k (rd l0 0) (wrap64 ((rd l0 2) + 1)) (rd l0 1)).bind fun t164 => ((sprig_intArrayToString.f t164 (⟨#[32]⟩ : ByteArray)).bind fun t167 => (some t167)))) else (none)) else (none)) else (none)) else (if (l0.length : Int) = 2 then (if 0 < (l0.length : Int) then (if 1 < (l0.length : Int) then (if (rd l0 1) < (rd l0 0) then ((sprig_untilStep.f k (rd l0 0) (wrap64 ((rd l0 1) + (-1))) (-1)).bind fun t170 => ((sprig_intArrayToString.f t170 (⟨#[32]⟩ : ByteArray)).bind fun t173 => (some t173))) else ((sprig_untilStep.f k (rd l0 0) (wrap64 ((rd l0 1) + 1)) 1).bind fun t174 => ((sprig_intArrayToString.f t174 (⟨#[32]⟩ : ByteArray)).bind fun t177 => (some t177)))) else (none)) else (none)) else (some (⟨#[]⟩ : ByteArray)))))
theorem sprig_seq.mono : ∀ a0 k, LeO (sprig_seq.f k a0) (sprig_seq.f (k + 1) a0) := by
  intro a0 k
  unfold sprig_seq.f
  repeat' first
      | (with_reducible exact sprig_untilStep.mono _ _ _ _)
      | (with_reducible exact LeO.refl _)
      | (with_reducible exact LeO.none _)
      | (with_reducible refine LeO.ite ?_ ?_)
      | (with_reducible refine LeO.bind ?_ (fun _ => ?_))
      | exact sprig_untilStep.mono _ _ _ _
      | exact LeO.none _
      | refine LeO.ite ?_ ?_
      | refine LeO.bind ?_ (fun _ => ?_)
set_option maxHeartbeats 8000000 in
set_option maxRecDepth 100000 in
theorem sprig_seq.calls (k : Nat) (A0 : Option Addr) (c0 : Nat) (l0 : List Int) (r : ByteArray) (w : World) (T : Giv.Pow10 w) (hr0 : Kd.C (Kd.int .i64) w A0 l0.length l0) (hc0 : l0.length ≤ c0) (h : sprig_seq.f k l0 = some r) :
    Calls Tryd.prog 21 #[.slice A0 l0.length c0] w fun e w' => e = .returned (.string r) ∧ Below w.heap.size w w' := by
  have TT_ := Aside0.mk T
  clear T
  have HR0 := Aside0.mk hr0
  have HC0 := Aside0.mk hc0
  clear hr0 hc0
  have HB := Aside0.mk (Below.refl w.heap.size w)
  have H : (if (l0.length : Int) = 0 then (some (⟨#[]⟩ : ByteArray)) else (if (l0.length : Int) = 1 then (if 0 < (l0.length : Int) then (if (rd l0 0) < 1 then ((sprig_untilStep.f k 1 (wrap64 ((rd l0 0) + (-1))) (-1)).bind fun t149 => ((sprig_intArrayToString.f t149 (⟨#[32]⟩ : ByteArray)).bind fun t152 => (some t152))) else ((sprig_untilStep.f k 1 (wrap64 ((rd l0 0) + 1)) 1).bind fun t153 => ((sprig_intArrayToString.f t153 (⟨#[32]⟩ : ByteArray)).bind fun t156 => (some t156)))) else (none)) else (if (l0.length : Int) = 3 then (if 0 < (l0.length : Int) then (if 2 < (l0.length : Int) then (if 1 < (l0.length : Int) then (if (rd l0 2) < (rd l0 0) then (if (rd l0 1) > 0 then (some (⟨#[]⟩ : ByteArray)) else ((sprig_untilStep.f k (rd l0 0) (wrap64 ((rd l0 2) + (-1))) (rd l0 1)).bind fun t160 => ((sprig_intArrayToString.f t160 (⟨#[32]⟩ : ByteArray)).bind fun t163 => (some t163)))) else ((sprig_untilStep.f k (rd l0 0) (wrap64 ((rd l0 2) + 1)) (rd l0 1)).bind fun t164 => ((sprig_intArrayToString.f t164 (⟨#[32]⟩ : ByteArray)).bind fun t167 => (some t167)))) else (none)) else (none)) else (none)) else (if (l0.length : Int) = 2 then (if 0 < (l0.length : Int) then (if 1 < (l0.length : Int) then (if (rd l0 1) < (rd l0 0) then ((sprig_untilStep.f k (rd l0 0) (wrap64 ((rd l0 1) + (-1))) (-1)).bind fun t170 => ((sprig_intArrayToString.f t170 (⟨#[32]⟩ : ByteArray)).bind fun t173 => (some t173))) else ((sprig_untilStep.f k (rd l0 0) (wrap64 ((rd l0 1) + 1)) 1).bind fun t174 => ((sprig_intArrayToString.f t174 (⟨#[32]⟩ : ByteArray)).bind fun t177 => (some t177)))) else (none)) else (none)) else (some (⟨#[]⟩ : ByteArray)))))) = some r := h
  clear h
  by_cases c2 : (l0.length : Int) = 0
  · rw [if_pos c2] at H
    have c2b0 : ((l0.length : Int) == 0) = true := beq_iff_eq.mpr c2
    have c2b1 : ((l0.length : Int) != 0) = false := bne_eq_false_iff_eq.mpr c2
    clear c2
    obtain rfl := Option.some.inj H
    go_enter Tryd.func21, Tryd.ntmps21
    go_wp2
    go_ret
    exact ⟨by first | rfl | (simp [errW_none, errW_some] <;> rfl) | (simp [*, errW_none, errW_some] <;> rfl), by repeat (first | (with_reducible first | exact HB.out | apply below_alloc | apply pw_below_drewN | apply below_drew1) | exact HB.out)⟩
  · rw [if_neg c2] at H
    have c2b0 : ((l0.length : Int) == 0) = false := beq_eq_false_iff_ne.mpr c2
    have c2b1 : ((l0.length : Int) != 0) = true := bne_iff_ne.mpr c2
    have c2b2 : ¬ (l0 = []) := fun h_ => c2 (by rw [h_]; rfl)
    by_cases c3 : (l0.length : Int) = 1
    · rw [if_pos c3] at H
      have c3b0 : ((l0.length : Int) == 1) = true := beq_iff_eq.mpr c3
      have c3b1 : ((l0.length : Int) != 1) = false := bne_eq_false_iff_eq.mpr c3
      clear c3
      by_cases c4 : 0 < (l0.length : Int)
      · rw [if_pos c4] at H
        have c4b0 : decide (0 < (l0.length : Int)) = true := decide_eq_true c4
        have c4b1 : decide (0 < l0.length) = true := decide_eq_true (by omega)
        clear c4
        by_cases c5 : (rd l0 0) < 1
        · rw [if_pos c5] at H
          have c5b0 : decide ((rd l0 0) < 1) = true := decide_eq_true c5
          clear c5
          replace H := Option.bind_eq_some_iff.mp H
          obtain ⟨t149, A60, H⟩ := H
          replace H : ((sprig_intArrayToString.f t149 (⟨#[32]⟩ : ByteArray)).bind fun t152 => (some t152)) = some r := H
          have A6 := Aside0.mk A60
          clear A60
          replace H := Option.bind_eq_some_iff.mp H
          obtain ⟨t152, A70, H⟩ := H
          replace H : (some t152) = some r := H
          have A7 := Aside0.mk A70
          clear A70
          obtain rfl := Option.some.inj H
          have p148 : 0 ≤ (0 : Int) := (by omega)
          have q148 : 0 < (l0.length : Int) := of_decide_eq_true (by first | (with_reducible assumption) | assumption)
          obtain ⟨ad148, e148, hx148_0⟩ := Kd.at_int HR0.out 0 p148 q148
          cases e148
          have qi148 : (0 < l0.length) = True := eq_true (by omega)
          (try rw [show ((0 : Int)).toNat = 0 from rfl] at hx148_0)
          (try rw [Addr.add_zero'] at hx148_0)
          replace p148 := eq_true p148
          replace q148 := eq_true q148
          go_enter Tryd.func21, Tryd.ntmps21
          go_wp2_with (first | ((with_reducible refine gate_callee (f := 19) rfl ?_); refine goesL_ (some 29) rfl rfl Tryd.func19 (by kernel_rfl) rfl #[.int .i64 1, .int .i64 (wrap64 ((rd l0 0) + (-1))), .int .i64 (-1)] rfl (by (try simp only [List.map_toArray, List.map_cons, List.map_nil]); first | done | rfl | (simp only [List.length_drop, List.length_take]; rfl)) ?_; (with_reducible refine (sprig_untilStep.calls k 1 (wrap64 ((rd l0 0) + (-1))) (-1) t149 _ A6.out).mono ?_); rintro e w8 ⟨v150, rfl, ho0, hb⟩; refine ⟨_, rfl, ?_⟩; have n0_ := Aside0.mk (Kd.R_lower ho0 (below_size (by repeat (first | (with_reducible first | exact HB.out | apply below_alloc | apply pw_below_drewN | apply below_drew1) | exact HB.out)))); have n1_ := Aside0.mk (below_step (by repeat (first | (with_reducible first | exact HB.out | apply below_alloc | apply pw_below_drewN | apply below_drew1) | exact HB.out)) hb); clear HB; have HO151 := n0_; have HB := n1_; clear n0_ n1_; (try clear hb); (try clear hb2); (try clear hk); (try clear hi); (try clear ho0); obtain ⟨Ao9, co9, eo9⟩ := Kd.R_slice HO151.out; subst eo9) | ((with_reducible refine gate_callee (f := 27) rfl ?_); refine goesL_ (some 30) rfl rfl Tryd.func27 (by kernel_rfl) rfl #[.slice Ao9 t149.length co9, .string (⟨#[32]⟩ : ByteArray)] rfl (by (try simp only [List.map_toArray, List.map_cons, List.map_nil]); first | done | rfl | (simp only [List.length_drop, List.length_take]; rfl)) ?_; (with_reducible refine (sprig_intArrayToString.calls _ _ t149 (⟨#[32]⟩ : ByteArray) t152 _ (by first | exact TT_.out | exact TT_.out.below (by repeat (first | (with_reducible first | exact HB.out | apply below_alloc | apply pw_below_drewN | apply below_drew1) | exact HB.out))) ?side1 ?side2 A7.out).mono ?_); (case side1 => repeat (first | exact (Kd.R_reads' HO151.out).2.2 | (with_reducible refine Kd.C_alloc ?_ _) | (with_reducible refine Kd.C_drewN ?_ _) | (with_reducible refine Kd.C_drew ?_))); (case side2 => exact (Kd.R_reads' HO151.out).2.1); rintro e w10 ⟨rfl, hb⟩; refine ⟨_, rfl, ?_⟩; have n0_ := Aside0.mk (Kd.R_below (by (with_reducible repeat (first | apply Kd.R_alloc | apply Kd.R_drewN | apply Kd.R_drew)); exact HO151.out) hb); have n1_ := Aside0.mk (below_step (by repeat (first | (with_reducible first | exact HB.out | apply below_alloc | apply pw_below_drewN | apply below_drew1) | exact HB.out)) hb); clear HO151; clear HB; have HO151 := n0_; have HB := n1_; clear n0_ n1_; (try clear hb); (try clear hb2); (try clear hk); (try clear hi)))
          go_ret
          exact ⟨by first | rfl | (simp [errW_none, errW_some] <;> rfl) | (simp [*, errW_none, errW_some] <;> rfl), by repeat (first | (with_reducible first | exact HB.out | apply below_alloc | apply pw_below_drewN | apply below_drew1) | exact HB.out)⟩
        · rw [if_neg c5] at H
          have c5b0 : decide ((rd l0 0) < 1) = false := decide_eq_false c5
          clear c5
          replace H := Option.bind_eq_some_iff.mp H
          obtain ⟨t153, A110, H⟩ := H
          replace H : ((sprig_intArrayToString.f t153 (⟨#[32]⟩ : ByteArray)).bind fun t156 => (some t156)) = some r := H
          have A11 := Aside0.mk A110
          clear A110
          replace H := Option.bind_eq_some_iff.mp H
          obtain ⟨t156, A120, H⟩ := H
          replace H : (some t156) = some r := H
          have A12 := Aside0.mk A120
          clear A120
          obtain rfl := Option.some.inj H
          have p148 : 0 ≤ (0 : Int) := (by omega)
          have q148 : 0 < (l0.length : Int) := of_decide_eq_true (by first | (with_reducible assumption) | assumption)
          obtain ⟨ad148, e148, hx148_0⟩ := Kd.at_int HR0.out 0 p148 q148
          cases e148
          have qi148 : (0 < l0.length) = True := eq_true (by omega)
          (try rw [show ((0 : Int)).toNat = 0 from rfl] at hx148_0)
          (try rw [Addr.add_zero'] at hx148_0)
          replace p148 := eq_true p148
          replace q148 := eq_true q148
          go_enter Tryd.func21, Tryd.ntmps21
          go_wp2_with (first | ((with_reducible refine gate_callee (f := 19) rfl ?_); refine goesL_ (some 29) rfl rfl Tryd.func19 (by kernel_rfl) rfl #[.int .i64 1, .int .i64 (wrap64 ((rd l0 0) + 1)), .int .i64 1] rfl (by (try simp only [List.map_toArray, List.map_cons, List.map_nil]); first | done | rfl | (simp only [List.length_drop, List.length_take]; rfl)) ?_; (with_reducible refine (sprig_untilStep.calls k 1 (wrap64 ((rd l0 0) + 1)) 1 t153 _ A11.out).mono ?_); rintro e w13 ⟨v154, rfl, ho0, hb⟩; refine ⟨_, rfl, ?_⟩; have n0_ := Aside0.mk (Kd.R_lower ho0 (below_size (by repeat (first | (with_reducible first | exact HB.out | apply below_alloc | apply pw_below_drewN | apply below_drew1) | exact HB.out)))); have n1_ := Aside0.mk (below_step (by repeat (first | (with_reducible first | exact HB.out | apply below_alloc | apply pw_below_drewN | apply below_drew1) | exact HB.out)) hb); clear HB; have HO155 := n0_; have HB := n1_; clear n0_ n1_; (try clear hb); (try clear hb2); (try clear hk); (try clear hi); (try clear ho0); obtain ⟨Ao14, co14, eo14⟩ := Kd.R_slice HO155.out; subst eo14) | ((with_reducible refine gate_callee (f := 27) rfl ?_); refine goesL_ (some 30) rfl rfl Tryd.func27 (by kernel_rfl) rfl #[.slice Ao14 t153.length co14, .string (⟨#[32]⟩ : ByteArray)] rfl (by (try simp only [List.map_toArray, List.map_cons, List.map_nil]); first | done | rfl | (simp only [List.length_drop, List.length_take]; rfl)) ?_; (with_reducible refine (sprig_intArrayToString.calls _ _ t153 (⟨#[32]⟩ : ByteArray) t156 _ (by first | exact TT_.out | exact TT_.out.below (by repeat (first | (with_reducible first | exact HB.out | apply below_alloc | apply pw_below_drewN | apply below_drew1) | exact HB.out))) ?side1 ?side2 A12.out).mono ?_); (case side1 => repeat (first | exact (Kd.R_reads' HO155.out).2.2 | (with_reducible refine Kd.C_alloc ?_ _) | (with_reducible refine Kd.C_drewN ?_ _) | (with_reducible refine Kd.C_drew ?_))); (case side2 => exact (Kd.R_reads' HO155.out).2.1); rintro e w15 ⟨rfl, hb⟩; refine ⟨_, rfl, ?_⟩; have n0_ := Aside0.mk (Kd.R_below (by (with_reducible repeat (first | apply Kd.R_alloc | apply Kd.R_drewN | apply Kd.R_drew)); exact HO155.out) hb); have n1_ := Aside0.mk (below_step (by repeat (first | (with_reducible first | exact HB.out | apply below_alloc | apply pw_below_drewN | apply below_drew1) | exact HB.out)) hb); clear HO155; clear HB; have HO155 := n0_; have HB := n1_; clear n0_ n1_; (try clear hb); (try clear hb2); (try clear hk); (try clear hi)))
          go_ret
          exact ⟨by first | rfl | (simp [errW_none, errW_some] <;> rfl) | (simp [*, errW_none, errW_some] <;> rfl), by repeat (first | (with_reducible first | exact HB.out | apply below_alloc | apply pw_below_drewN | apply below_drew1) | exact HB.out)⟩
      · rw [if_neg c4] at H
        exact absurd H (by simp)
    · rw [if_neg c3] at H
      have c3b0 : ((l0.length : Int) == 1) = false := beq_eq_false_iff_ne.mpr c3
      have c3b1 : ((l0.length : Int) != 1) = true := bne_iff_ne.mpr c3
      by_cases c16 : (l0.length : Int) = 3
      · rw [if_pos c16] at H
        have c16b0 : ((l0.length : Int) == 3) = true := beq_iff_eq.mpr c16
        have c16b1 : ((l0.length : Int) != 3) = false := bne_eq_false_iff_eq.mpr c16
        clear c16
        by_cases c17 : 0 < (l0.length : Int)
        · rw [if_pos c17] at H
          have c17b0 : decide (0 < (l0.length : Int)) = true := decide_eq_true c17
          have c17b1 : decide (0 < l0.length) = true := decide_eq_true (by omega)
          clear c17
          by_cases c18 : 2 < (l0.length : Int)
          · rw [if_pos c18] at H
            have c18b0 : decide (2 < (l0.length : Int)) = true := decide_eq_true c18
            have c18b1 : decide (2 < l0.length) = true := decide_eq_true (by omega)
            clear c18
            by_cases c19 : 1 < (l0.length : Int)
            · rw [if_pos c19] at H
              have c19b0 : decide (1 < (l0.length : Int)) = true := decide_eq_true c19
              have c19b1 : decide (1 < l0.length) = true := decide_eq_true (by omega)
              clear c19
              by_cases c20 : (rd l0 2) < (rd l0 0)
              · rw [if_pos c20] at H
                have c20b0 : decide ((rd l0 2) < (rd l0 0)) = true := decide_eq_true c20
                clear c20
                by_cases c21 : (rd l0 1) > 0
                · rw [if_pos c21] at H
                  have c21b0 : decide (0 < (rd l0 1)) = true := decide_eq_true c21
                  clear c21
                  obtain rfl := Option.some.inj H
                  have p157 : 0 ≤ (0 : Int) := (by omega)
                  have q157 : 0 < (l0.length : Int) := of_decide_eq_true (by first | (with_reducible assumption) | assumption)
                  obtain ⟨ad157, e157, hx157_0⟩ := Kd.at_int HR0.out 0 p157 q157
                  cases e157
                  have qi157 : (0 < l0.length) = True := eq_true (by omega)
                  (try rw [show ((0 : Int)).toNat = 0 from rfl] at hx157_0)
                  (try rw [Addr.add_zero'] at hx157_0)
                  replace p157 := eq_true p157
                  replace q157 := eq_true q157
                  have p158 : 0 ≤ (2 : Int) := (by omega)
                  have q158 : 2 < (l0.length : Int) := of_decide_eq_true (by first | (with_reducible assumption) | assumption)
                  obtain ⟨ad158, e158, hx158_0⟩ := Kd.at_int HR0.out 2 p158 q158
                  obtain rfl : ad157 = ad158 := (by injection e158)
                  (try simp only [show (2 : Int).toNat = 2 from rfl, Nat.reduceMul, Nat.reduceEqDiff, Go.Addr.add, ↓reduceIte] at hx158_0)
                  have qi158 : (2 < l0.length) = True := eq_true (by omega)
                  (try rw [show ((2 : Int)).toNat = 2 from rfl] at hx158_0)
                  replace p158 := eq_true p158
                  replace q158 := eq_true q158
                  have p159 : 0 ≤ (1 : Int) := (by omega)
                  have q159 : 1 < (l0.length : Int) := of_decide_eq_true (by first | (with_reducible assumption) | assumption)
                  obtain ⟨ad159, e159, hx159_0⟩ := Kd.at_int HR0.out 1 p159 q159
                  obtain rfl : ad157 = ad159 := (by injection e159)
                  (try simp only [show (1 : Int).toNat = 1 from rfl, Nat.reduceMul, Nat.reduceEqDiff, Go.Addr.add, ↓reduceIte] at hx159_0)
                  have qi159 : (1 < l0.length) = True := eq_true (by omega)
                  (try rw [show ((1 : Int)).toNat = 1 from rfl] at hx159_0)
                  replace p159 := eq_true p159
                  replace q159 := eq_true q159
                  go_enter Tryd.func21, Tryd.ntmps21
                  go_wp2
                  go_ret
                  exact ⟨by first | rfl | (simp [errW_none, errW_some] <;> rfl) | (simp [*, errW_none, errW_some] <;> rfl), by repeat (first | (with_reducible first | exact HB.out | apply below_alloc | apply pw_below_drewN | apply below_drew1) | exact HB.out)⟩
                · rw [if_neg c21] at H
                  have c21b0 : decide (0 < (rd l0 1)) = false := decide_eq_false c21
                  clear c21
                  replace H := Option.bind_eq_some_iff.mp H
                  obtain ⟨t160, A220, H⟩ := H
                  replace H : ((sprig_intArrayToString.f t160 (⟨#[32]⟩ : ByteArray)).bind fun t163 => (some t163)) = some r := H
                  have A22 := Aside0.mk A220
                  clear A220
                  replace H := Option.bind_eq_some_iff.mp H
                  obtain ⟨t163, A230, H⟩ := H
                  replace H : (some t163) = some r := H
                  have A23 := Aside0.mk A230
                  clear A230
                  obtain rfl := Option.some.inj H
                  have p157 : 0 ≤ (0 : Int) := (by omega)
                  have q157 : 0 < (l0.length : Int) := of_decide_eq_true (by first | (with_reducible assumption) | assumption)
                  obtain ⟨ad157, e157, hx157_0⟩ := Kd.at_int HR0.out 0 p157 q157
                  cases e157
                  have qi157 : (0 < l0.length) = True := eq_true (by omega)
                  (try rw [show ((0 : Int)).toNat = 0 from rfl] at hx157_0)
                  (try rw [Addr.add_zero'] at hx157_0)
                  replace p157 := eq_true p157
                  replace q157 := eq_true q157
                  have p158 : 0 ≤ (2 : Int) := (by omega)
                  have q158 : 2 < (l0.length : Int) := of_decide_eq_true (by first | (with_reducible assumption) | assumption)
                  obtain ⟨ad158, e158, hx158_0⟩ := Kd.at_int HR0.out 2 p158 q158
                  obtain rfl : ad157 = ad158 := (by injection e158)
                  (try simp only [show (2 : Int).toNat = 2 from rfl, Nat.reduceMul, Nat.reduceEqDiff, Go.Addr.add, ↓reduceIte] at hx158_0)
                  have qi158 : (2 < l0.length) = True := eq_true (by omega)
                  (try rw [show ((2 : Int)).toNat = 2 from rfl] at hx158_0)
                  replace p158 := eq_true p158
                  replace q158 := eq_true q158
                  have p159 : 0 ≤ (1 : Int) := (by omega)
                  have q159 : 1 < (l0.length : Int) := of_decide_eq_true (by first | (with_reducible assumption) | assumption)
                  obtain ⟨ad159, e159, hx159_0⟩ := Kd.at_int HR0.out 1 p159 q159
                  obtain rfl : ad157 = ad159 := (by injection e159)
                  (try simp only [show (1 : Int).toNat = 1 from rfl, Nat.reduceMul, Nat.reduceEqDiff, Go.Addr.add, ↓reduceIte] at hx159_0)
                  have qi159 : (1 < l0.length) = True := eq_true (by omega)
                  (try rw [show ((1 : Int)).toNat = 1 from rfl] at hx159_0)
                  replace p159 := eq_true p159
                  replace q159 := eq_true q159
                  go_enter Tryd.func21, Tryd.ntmps21
                  go_wp2_with (first | ((with_reducible refine gate_callee (f := 19) rfl ?_); refine goesL_ (some 52) rfl rfl Tryd.func19 (by kernel_rfl) rfl #[.int .i64 (rd l0 0), .int .i64 (wrap64 ((rd l0 2) + (-1))), .int .i64 (rd l0 1)] rfl (by (try simp only [List.map_toArray, List.map_cons, List.map_nil]); first | done | rfl | (simp only [List.length_drop, List.length_take]; rfl)) ?_; (with_reducible refine (sprig_untilStep.calls k (rd l0 0) (wrap64 ((rd l0 2) + (-1))) (rd l0 1) t160 _ A22.out).mono ?_); rintro e w24 ⟨v161, rfl, ho0, hb⟩; refine ⟨_, rfl, ?_⟩; have n0_ := Aside0.mk (Kd.R_lower ho0 (below_size (by repeat (first | (with_reducible first | exact HB.out | apply below_alloc | apply pw_below_drewN | apply below_drew1) | exact HB.out)))); have n1_ := Aside0.mk (below_step (by repeat (first | (with_reducible first | exact HB.out | apply below_alloc | apply pw_below_drewN | apply below_drew1) | exact HB.out)) hb); clear HB; have HO162 := n0_; have HB := n1_; clear n0_ n1_; (try clear hb); (try clear hb2); (try clear hk); (try clear hi); (try clear ho0); obtain ⟨Ao25, co25, eo25⟩ := Kd.R_slice HO162.out; subst eo25) | ((with_reducible refine gate_callee (f := 27) rfl ?_); refine goesL_ (some 53) rfl rfl Tryd.func27 (by kernel_rfl) rfl #[.slice Ao25 t160.length co25, .string (⟨#[32]⟩ : ByteArray)] rfl (by (try simp only [List.map_toArray, List.map_cons, List.map_nil]); first | done | rfl | (simp only [List.length_drop, List.length_take]; rfl)) ?_; (with_reducible refine (sprig_intArrayToString.calls _ _ t160 (⟨#[32]⟩ : ByteArray) t163 _ (by first | exact TT_.out | exact TT_.out.below (by repeat (first | (with_reducible first | exact HB.out | apply below_alloc | apply pw_below_drewN | apply below_drew1) | exact HB.out))) ?side1 ?side2 A23.out).mono ?_); (case side1 => repeat (first | exact (Kd.R_reads' HO162.out).2.2 | (with_reducible refine Kd.C_alloc ?_ _) | (with_reducible refine Kd.C_drewN ?_ _) | (with_reducible refine Kd.C_drew ?_))); (case side2 => exact (Kd.R_reads' HO162.out).2.1); rintro e w26 ⟨rfl, hb⟩; refine ⟨_, rfl, ?_⟩; have n0_ := Aside0.mk (Kd.R_below (by (with_reducible repeat (first | apply Kd.R_alloc | apply Kd.R_drewN | apply Kd.R_drew)); exact HO162.out) hb); have n1_ := Aside0.mk (below_step (by repeat (first | (with_reducible first | exact HB.out | apply below_alloc | apply pw_below_drewN | apply below_drew1) | exact HB.out)) hb); clear HO162; clear HB; have HO162 := n0_; have HB := n1_; clear n0_ n1_; (try clear hb); (try clear hb2); (try clear hk); (try clear hi)))
                  go_ret
                  exact ⟨by first | rfl | (simp [errW_none, errW_some] <;> rfl) | (simp [*, errW_none, errW_some] <;> rfl), by repeat (first | (with_reducible first | exact HB.out | apply below_alloc | apply pw_below_drewN | apply below_drew1) | exact HB.out)⟩
              · rw [if_neg c20] at H
                have c20b0 : decide ((rd l0 2) < (rd l0 0)) = false := decide_eq_false c20
                clear c20
                replace H := Option.bind_eq_some_iff.mp H
                obtain ⟨t164, A270, H⟩ := H
                replace H : ((sprig_intArrayToString.f t164 (⟨#[32]⟩ : ByteArray)).bind fun t167 => (some t167)) = some r := H
                have A27 := Aside0.mk A270
                clear A270
                replace H := Option.bind_eq_some_iff.mp H
                obtain ⟨t167, A280, H⟩ := H
                replace H : (some t167) = some r := H
                have A28 := Aside0.mk A280
                clear A280
                obtain rfl := Option.some.inj H
                have p157 : 0 ≤ (0 : Int) := (by omega)
                have q157 : 0 < (l0.length : Int) := of_decide_eq_true (by first | (with_reducible assumption) | assumption)
                obtain ⟨ad157, e157, hx157_0⟩ := Kd.at_int HR0.out 0 p157 q157
                cases e157
                have qi157 : (0 < l0.length) = True := eq_true (by omega)
                (try rw [show ((0 : Int)).toNat = 0 from rfl] at hx157_0)
                (try rw [Addr.add_zero'] at hx157_0)
                replace p157 := eq_true p157
                replace q157 := eq_true q157
                have p158 : 0 ≤ (2 : Int) := (by omega)
                have q158 : 2 < (l0.length : Int) := of_decide_eq_true (by first | (with_reducible assumption) | assumption)
                obtain ⟨ad158, e158, hx158_0⟩ := Kd.at_int HR0.out 2 p158 q158
                obtain rfl : ad157 = ad158 := (by injection e158)
                (try simp only [show (2 : Int).toNat = 2 from rfl, Nat.reduceMul, Nat.reduceEqDiff, Go.Addr.add, ↓reduceIte] at hx158_0)
                have qi158 : (2 < l0.length) = True := eq_true (by omega)
                (try rw [show ((2 : Int)).toNat = 2 from rfl] at hx158_0)
                replace p158 := eq_true p158
                replace q158 := eq_true q158
                have p159 : 0 ≤ (1 : Int) := (by omega)
                have q159 : 1 < (l0.length : Int) := of_decide_eq_true (by first | (with_reducible assumption) | assumption)
                obtain ⟨ad159, e159, hx159_0⟩ := Kd.at_int HR0.out 1 p159 q159
                obtain rfl : ad157 = ad159 := (by injection e159)
                (try simp only [show (1 : Int).toNat = 1 from rfl, Nat.reduceMul, Nat.reduceEqDiff, Go.Addr.add, ↓reduceIte] at hx159_0)
                have qi159 : (1 < l0.length) = True := eq_true (by omega)
                (try rw [show ((1 : Int)).toNat = 1 from rfl] at hx159_0)
                replace p159 := eq_true p159
                replace q159 := eq_true q159
                go_enter Tryd.func21, Tryd.ntmps21
                go_wp2_with (first | ((with_reducible refine gate_callee (f := 19) rfl ?_); refine goesL_ (some 52) rfl rfl Tryd.func19 (by kernel_rfl) rfl #[.int .i64 (rd l0 0), .int .i64 (wrap64 ((rd l0 2) + 1)), .int .i64 (rd l0 1)] rfl (by (try simp only [List.map_toArray, List.map_cons, List.map_nil]); first | done | rfl | (simp only [List.length_drop, List.length_take]; rfl)) ?_; (with_reducible refine (sprig_untilStep.calls k (rd l0 0) (wrap64 ((rd l0 2) + 1)) (rd l0 1) t164 _ A27.out).mono ?_); rintro e w29 ⟨v165, rfl, ho0, hb⟩; refine ⟨_, rfl, ?_⟩; have n0_ := Aside0.mk (Kd.R_lower ho0 (below_size (by repeat (first | (with_reducible first | exact HB.out | apply below_alloc | apply pw_below_drewN | apply below_drew1) | exact HB.out)))); have n1_ := Aside0.mk (below_step (by repeat (first | (with_reducible first | exact HB.out | apply below_alloc | apply pw_below_drewN | apply below_drew1) | exact HB.out)) hb); clear HB; have HO166 := n0_; have HB := n1_; clear n0_ n1_; (try clear hb); (try clear hb2); (try clear hk); (try clear hi); (try clear ho0); obtain ⟨Ao30, co30, eo30⟩ := Kd.R_slice HO166.out; subst eo30) | ((with_reducible refine gate_callee (f := 27) rfl ?_); refine goesL_ (some 53) rfl rfl Tryd.func27 (by kernel_rfl) rfl #[.slice Ao30 t164.length co30, .string (⟨#[32]⟩ : ByteArray)] rfl (by (try simp only [List.map_toArray, List.map_cons, List.map_nil]); first | done | rfl | (simp only [List.length_drop, List.length_take]; rfl)) ?_; (with_reducible refine (sprig_intArrayToString.calls _ _ t164 (⟨#[32]⟩ : ByteArray) t167 _ (by first | exact TT_.out | exact TT_.out.below (by repeat (first | (with_reducible first | exact HB.out | apply below_alloc | apply pw_below_drewN | apply below_drew1) | exact HB.out))) ?side1 ?side2 A28.out).mono ?_); (case side1 => repeat (first | exact (Kd.R_reads' HO166.out).2.2 | (with_reducible refine Kd.C_alloc ?_ _) | (with_reducible refine Kd.C_drewN ?_ _) | (with_reducible refine Kd.C_drew ?_))); (case side2 => exact (Kd.R_reads' HO166.out).2.1); rintro e w31 ⟨rfl, hb⟩; refine ⟨_, rfl, ?_⟩; have n0_ := Aside0.mk (Kd.R_below (by (with_reducible repeat (first | apply Kd.R_alloc | apply Kd.R_drewN | apply Kd.R_drew)); exact HO166.out) hb); have n1_ := Aside0.mk (below_step (by repeat (first | (with_reducible first | exact HB.out | apply below_alloc | apply pw_below_drewN | apply below_drew1) | exact HB.out)) hb); clear HO166; clear HB; have HO166 := n0_; have HB := n1_; clear n0_ n1_; (try clear hb); (try clear hb2); (try clear hk); (try clear hi)))
                go_ret
                exact ⟨by first | rfl | (simp [errW_none, errW_some] <;> rfl) | (simp [*, errW_none, errW_some] <;> rfl), by repeat (first | (with_reducible first | exact HB.out | apply below_alloc | apply pw_below_drewN | apply below_drew1) | exact HB.out)⟩
            · rw [if_neg c19] at H
              exact absurd H (by simp)
          · rw [if_neg c18] at H
            exact absurd H (by simp)
        · rw [if_neg c17] at H
          exact absurd H (by simp)
      · rw [if_neg c16] at H
        have c16b0 : ((l0.length : Int) == 3) = false := beq_eq_false_iff_ne.mpr c16
        have c16b1 : ((l0.length : Int) != 3) = true := bne_iff_ne.mpr c16
        by_cases c32 : (l0.length : Int) = 2
        · rw [if_pos c32] at H
          have c32b0 : ((l0.length : Int) == 2) = true := beq_iff_eq.mpr c32
          have c32b1 : ((l0.length : Int) != 2) = false := bne_eq_false_iff_eq.mpr c32
          clear c32
          by_cases c33 : 0 < (l0.length : Int)
          · rw [if_pos c33] at H
            have c33b0 : decide (0 < (l0.length : Int)) = true := decide_eq_true c33
            have c33b1 : decide (0 < l0.length) = true := decide_eq_true (by omega)
            clear c33
            by_cases c34 : 1 < (l0.length : Int)
            · rw [if_pos c34] at H
              have c34b0 : decide (1 < (l0.length : Int)) = true := decide_eq_true c34
              have c34b1 : decide (1 < l0.length) = true := decide_eq_true (by omega)
              clear c34
              by_cases c35 : (rd l0 1) < (rd l0 0)
              · rw [if_pos c35] at H
                have c35b0 : decide ((rd l0 1) < (rd l0 0)) = true := decide_eq_true c35
                clear c35
                replace H := Option.bind_eq_some_iff.mp H
                obtain ⟨t170, A360, H⟩ := H
                replace H : ((sprig_intArrayToString.f t170 (⟨#[32]⟩ : ByteArray)).bind fun t173 => (some t173)) = some r := H
                have A36 := Aside0.mk A360
                clear A360
                replace H := Option.bind_eq_some_iff.mp H
                obtain ⟨t173, A370, H⟩ := H
                replace H : (some t173) = some r := H
                have A37 := Aside0.mk A370
                clear A370
                obtain rfl := Option.some.inj H
                have p168 : 0 ≤ (0 : Int) := (by omega)
                have q168 : 0 < (l0.length : Int) := of_decide_eq_true (by first | (with_reducible assumption) | assumption)
                obtain ⟨ad168, e168, hx168_0⟩ := Kd.at_int HR0.out 0 p168 q168
                cases e168
                have qi168 : (0 < l0.length) = True := eq_true (by omega)
                (try rw [show ((0 : Int)).toNat = 0 from rfl] at hx168_0)
                (try rw [Addr.add_zero'] at hx168_0)
                replace p168 := eq_true p168
                replace q168 := eq_true q168
                have p169 : 0 ≤ (1 : Int) := (by omega)
                have q169 : 1 < (l0.length : Int) := of_decide_eq_true (by first | (with_reducible assumption) | assumption)
                obtain ⟨ad169, e169, hx169_0⟩ := Kd.at_int HR0.out 1 p169 q169
                obtain rfl : ad168 = ad169 := (by injection e169)
                (try simp only [show (1 : Int).toNat = 1 from rfl, Nat.reduceMul, Nat.reduceEqDiff, Go.Addr.add, ↓reduceIte] at hx169_0)
                have qi169 : (1 < l0.length) = True := eq_true (by omega)
                (try rw [show ((1 : Int)).toNat = 1 from rfl] at hx169_0)
                replace p169 := eq_true p169
                replace q169 := eq_true q169
                go_enter Tryd.func21, Tryd.ntmps21
                go_wp2_with (first | ((with_reducible refine gate_callee (f := 19) rfl ?_); refine goesL_ (some 70) rfl rfl Tryd.func19 (by kernel_rfl) rfl #[.int .i64 (rd l0 0), .int .i64 (wrap64 ((rd l0 1) + (-1))), .int .i64 (-1)] rfl (by (try simp only [List.map_toArray, List.map_cons, List.map_nil]); first | done | rfl | (simp only [List.length_drop, List.length_take]; rfl)) ?_; (with_reducible refine (sprig_untilStep.calls k (rd l0 0) (wrap64 ((rd l0 1) + (-1))) (-1) t170 _ A36.out).mono ?_); rintro e w38 ⟨v171, rfl, ho0, hb⟩; refine ⟨_, rfl, ?_⟩; have n0_ := Aside0.mk (Kd.R_lower ho0 (below_size (by repeat (first | (with_reducible first | exact HB.out | apply below_alloc | apply pw_below_drewN | apply below_drew1) | exact HB.out)))); have n1_ := Aside0.mk (below_step (by repeat (first | (with_reducible first | exact HB.out | apply below_alloc | apply pw_below_drewN | apply below_drew1) | exact HB.out)) hb); clear HB; have HO172 := n0_; have HB := n1_; clear n0_ n1_; (try clear hb); (try clear hb2); (try clear hk); (try clear hi); (try clear ho0); obtain ⟨Ao39, co39, eo39⟩ := Kd.R_slice HO172.out; subst eo39) | ((with_reducible refine gate_callee (f := 27) rfl ?_); refine goesL_ (some 71) rfl rfl Tryd.func27 (by kernel_rfl) rfl #[.slice Ao39 t170.length co39, .string (⟨#[32]⟩ : ByteArray)] rfl (by (try simp only [List.map_toArray, List.map_cons, List.map_nil]); first | done | rfl | (simp only [List.length_drop, List.length_take]; rfl)) ?_; (with_reducible refine (sprig_intArrayToString.calls _ _ t170 (⟨#[32]⟩ : ByteArray) t173 _ (by first | exact TT_.out | exact TT_.out.below (by repeat (first | (with_reducible first | exact HB.out | apply below_alloc | apply pw_below_drewN | apply below_drew1) | exact HB.out))) ?side1 ?side2 A37.out).mono ?_); (case side1 => repeat (first | exact (Kd.R_reads' HO172.out).2.2 | (with_reducible refine Kd.C_alloc ?_ _) | (with_reducible refine Kd.C_drewN ?_ _) | (with_reducible refine Kd.C_drew ?_))); (case side2 => exact (Kd.R_reads' HO172.out).2.1); rintro e w40 ⟨rfl, hb⟩; refine ⟨_, rfl, ?_⟩; have n0_ := Aside0.mk (Kd.R_below (by (with_reducible repeat (first | apply Kd.R_alloc | apply Kd.R_drewN | apply Kd.R_drew)); exact HO172.out) hb); have n1_ := Aside0.mk (below_step (by repeat (first | (with_reducible first | exact HB.out | apply below_alloc | apply pw_below_drewN | apply below_drew1) | exact HB.out)) hb); clear HO172; clear HB; have HO172 := n0_; have HB := n1_; clear n0_ n1_; (try clear hb); (try clear hb2); (try clear hk); (try clear hi)))
                go_ret
                exact ⟨by first | rfl | (simp [errW_none, errW_some] <;> rfl) | (simp [*, errW_none, errW_some] <;> rfl), by repeat (first | (with_reducible first | exact HB.out | apply below_alloc | apply pw_below_drewN | apply below_drew1) | exact HB.out)⟩
              · rw [if_neg c35] at H
                have c35b0 : decide ((rd l0 1) < (rd l0 0)) = false := decide_eq_false c35
                clear c35
                replace H := Option.bind_eq_some_iff.mp H
                obtain ⟨t174, A410, H⟩ := H
                replace H : ((sprig_intArrayToString.f t174 (⟨#[32]⟩ : ByteArray)).bind fun t177 => (some t177)) = some r := H
                have A41 := Aside0.mk A410
                clear A410
                replace H := Option.bind_eq_some_iff.mp H
                obtain ⟨t177, A420, H⟩ := H
                replace H : (some t177) = some r := H
                have A42 := Aside0.mk A420
                clear A420
                obtain rfl := Option.some.inj H
                have p168 : 0 ≤ (0 : Int) := (by omega)
                have q168 : 0 < (l0.length : Int) := of_decide_eq_true (by first | (with_reducible assumption) | assumption)
                obtain ⟨ad168, e168, hx168_0⟩ := Kd.at_int HR0.out 0 p168 q168
                cases e168
                have qi168 : (0 < l0.length) = True := eq_true (by omega)
                (try rw [show ((0 : Int)).toNat = 0 from rfl] at hx168_0)
                (try rw [Addr.add_zero'] at hx168_0)
                replace p168 := eq_true p168
                replace q168 := eq_true q168
                have p169 : 0 ≤ (1 : Int) := (by omega)
                have q169 : 1 < (l0.length : Int) := of_decide_eq_true (by first | (with_reducible assumption) | assumption)
                obtain ⟨ad169, e169, hx169_0⟩ := Kd.at_int HR0.out 1 p169 q169
                obtain rfl : ad168 = ad169 := (by injection e169)
                (try simp only [show (1 : Int).toNat = 1 from rfl, Nat.reduceMul, Nat.reduceEqDiff, Go.Addr.add, ↓reduceIte] at hx169_0)
                have qi169 : (1 < l0.length) = True := eq_true (by omega)
                (try rw [show ((1 : Int)).toNat = 1 from rfl] at hx169_0)
                replace p169 := eq_true p169
                replace q169 := eq_true q169
                go_enter Tryd.func21, Tryd.ntmps21
                go_wp2_with (first | ((with_reducible refine gate_callee (f := 19) rfl ?_); refine goesL_ (some 70) rfl rfl Tryd.func19 (by kernel_rfl) rfl #[.int .i64 (rd l0 0), .int .i64 (wrap64 ((rd l0 1) + 1)), .int .i64 1] rfl (by (try simp only [List.map_toArray, List.map_cons, List.map_nil]); first | done | rfl | (simp only [List.length_drop, List.length_take]; rfl)) ?_; (with_reducible refine (sprig_untilStep.calls k (rd l0 0) (wrap64 ((rd l0 1) + 1)) 1 t174 _ A41.out).mono ?_); rintro e w43 ⟨v175, rfl, ho0, hb⟩; refine ⟨_, rfl, ?_⟩; have n0_ := Aside0.mk (Kd.R_lower ho0 (below_size (by repeat (first | (with_reducible first | exact HB.out | apply below_alloc | apply pw_below_drewN | apply below_drew1) | exact HB.out)))); have n1_ := Aside0.mk (below_step (by repeat (first | (with_reducible first | exact HB.out | apply below_alloc | apply pw_below_drewN | apply below_drew1) | exact HB.out)) hb); clear HB; have HO176 := n0_; have HB := n1_; clear n0_ n1_; (try clear hb); (try clear hb2); (try clear hk); (try clear hi); (try clear ho0); obtain ⟨Ao44, co44, eo44⟩ := Kd.R_slice HO176.out; subst eo44) | ((with_reducible refine gate_callee (f := 27) rfl ?_); refine goesL_ (some 71) rfl rfl Tryd.func27 (by kernel_rfl) rfl #[.slice Ao44 t174.length co44, .string (⟨#[32]⟩ : ByteArray)] rfl (by (try simp only [List.map_toArray, List.map_cons, List.map_nil]); first | done | rfl | (simp only [List.length_drop, List.length_take]; rfl)) ?_; (with_reducible refine (sprig_intArrayToString.calls _ _ t174 (⟨#[32]⟩ : ByteArray) t177 _ (by first | exact TT_.out | exact TT_.out.below (by repeat (first | (with_reducible first | exact HB.out | apply below_alloc | apply pw_below_drewN | apply below_drew1) | exact HB.out))) ?side1 ?side2 A42.out).mono ?_); (case side1 => repeat (first | exact (Kd.R_reads' HO176.out).2.2 | (with_reducible refine Kd.C_alloc ?_ _) | (with_reducible refine Kd.C_drewN ?_ _) | (with_reducible refine Kd.C_drew ?_))); (case side2 => exact (Kd.R_reads' HO176.out).2.1); rintro e w45 ⟨rfl, hb⟩; refine ⟨_, rfl, ?_⟩; have n0_ := Aside0.mk (Kd.R_below (by (with_reducible repeat (first | apply Kd.R_alloc | apply Kd.R_drewN | apply Kd.R_drew)); exact HO176.out) hb); have n1_ := Aside0.mk (below_step (by repeat (first | (with_reducible first | exact HB.out | apply below_alloc | apply pw_below_drewN | apply below_drew1) | exact HB.out)) hb); clear HO176; clear HB; have HO176 := n0_; have HB := n1_; clear n0_ n1_; (try clear hb); (try clear hb2); (try clear hk); (try clear hi)))
                go_ret
                exact ⟨by first | rfl | (simp [errW_none, errW_some] <;> rfl) | (simp [*, errW_none, errW_some] <;> rfl), by repeat (first | (with_reducible first | exact HB.out | apply below_alloc | apply pw_below_drewN | apply below_drew1) | exact HB.out)⟩
            · rw [if_neg c34] at H
              exact absurd H (by simp)
          · rw [if_neg c33] at H
            exact absurd H (by simp)
        · rw [if_neg c32] at H
          have c32b0 : ((l0.length : Int) == 2) = false := beq_eq_false_iff_ne.mpr c32
          have c32b1 : ((l0.length : Int) != 2) = true := bne_iff_ne.mpr c32
          obtain rfl := Option.some.inj H
          go_enter Tryd.func21, Tryd.ntmps21
          go_wp2
          go_ret
          exact ⟨by first | rfl | (simp [errW_none, errW_some] <;> rfl) | (simp [*, errW_none, errW_some] <;> rfl), by repeat (first | (with_reducible first | exact HB.out | apply below_alloc | apply pw_below_drewN | apply below_drew1) | exact HB.out)⟩

/-! ### sprig_Seq: function 16 -/
def sprig_Seq.f (k : Nat) (l0 : List Int) : Option (ByteArray) := (sprig_seq.f k l0).bind fun t178 => (some t178)
theorem sprig_Seq.mono : ∀ a0 k, LeO (sprig_Seq.f k a0) (sprig_Seq.f (k + 1) a0) := by
  intro a0 k
  unfold sprig_Seq.f
  repeat' first
      | (with_reducible exact sprig_seq.mono _ _)
      | (with_reducible exact LeO.refl _)
      | (with_reducible exact LeO.none _)
      | (with_reducible refine LeO.ite ?_ ?_)
      | (with_reducible refine LeO.bind ?_ (fun _ => ?_))
      | exact sprig_seq.mono _ _
      | exact LeO.none _
      | refine LeO.ite ?_ ?_
      | refine LeO.bind ?_ (fun _ => ?_)
set_option maxHeartbeats 8000000 in
set_option maxRecDepth 100000 in
theorem sprig_Seq.calls (k : Nat) (A0 : Option Addr) (c0 : Nat) (l0 : List Int) (r : ByteArray) (w : World) (T : Giv.Pow10 w) (hr0 : Kd.C (Kd.int .i64) w A0 l0.length l0) (hc0 : l0.length ≤ c0) (h : sprig_Seq.f k l0 = some r) :
    Calls Tryd.prog 16 #[.slice A0 l0.length c0] w fun e w' => e = .returned (.string r) ∧ Below w.heap.size w w' := by
  have TT_ := Aside0.mk T
  clear T
  have HR0 := Aside0.mk hr0
  have HC0 := Aside0.mk hc0
  clear hr0 hc0
  have HB := Aside0.mk (Below.refl w.heap.size w)
  have H : ((sprig_seq.f k l0).bind fun t178 => (some t178)) = some r := h
  clear h
  replace H := Option.bind_eq_some_iff.mp H
  obtain ⟨t178, A20, H⟩ := H
  replace H : (some t178) = some r := H
  have A2 := Aside0.mk A20
  clear A20
  obtain rfl := Option.some.inj H
  go_enter Tryd.func16, Tryd.ntmps16
  go_wp2_with (first | ((with_reducible refine gate_callee (f := 21) rfl ?_); refine goesL_ (some 4) rfl rfl Tryd.func21 (by kernel_rfl) rfl #[.slice A0 l0.length c0] rfl (by (try simp only [List.map_toArray, List.map_cons, List.map_nil]); first | done | rfl | (simp only [List.length_drop, List.length_take]; rfl)) ?_; (with_reducible refine (sprig_seq.calls k _ _ l0 t178 _ (by first | exact TT_.out | exact TT_.out.below (by repeat (first | (with_reducible first | exact HB.out | apply below_alloc | apply pw_below_drewN | apply below_drew1) | exact HB.out))) ?side1 ?side2 A2.out).mono ?_); (case side1 => repeat (first | exact HR0.out | (with_reducible refine Kd.C_alloc ?_ _) | (with_reducible refine Kd.C_drewN ?_ _) | (with_reducible refine Kd.C_drew ?_))); (case side2 => exact HC0.out); rintro e w3 ⟨rfl, hb⟩; refine ⟨_, rfl, ?_⟩; have n0_ := Aside0.mk (below_step (by repeat (first | (with_reducible first | exact HB.out | apply below_alloc | apply pw_below_drewN | apply below_drew1) | exact HB.out)) hb); clear HB; have HB := n0_; clear n0_; (try clear hb); (try clear hb2); (try clear hk); (try clear hi)))
  go_ret
  exact ⟨by first | rfl | (simp [errW_none, errW_some] <;> rfl) | (simp [*, errW_none, errW_some] <;> rfl), by repeat (first | (with_reducible first | exact HB.out | apply below_alloc | apply pw_below_drewN | apply below_drew1) | exact HB.out)⟩

/-! ### impl_Seq: function 8 -/
def impl_Seq.l0 : Nat → List Int → List Int → Int → Int → Option (ByteArray)
  | 0, _, _, _, _ => none
  | k + 1, x3, x6, x7, x8 => if x8 < x7 then (if 0 ≤ x8 then (if x8 < (x6.length : Int) then (if x3.length < 17592186044416 then (impl_Seq.l0 k (x3 ++ [rd x6 x8]) x6 x7 (wrap64 (x8 + 1))) else (none)) else (none)) else (none)) else ((sprig_Seq.f k x3).bind fun t183 => (some t183))
def impl_Seq.f (k : Nat) (l0 : List Int) : Option (ByteArray) := impl_Seq.l0 k ([] : List Int) l0 (l0.length : Int) 0
theorem impl_Seq.mono_l : ∀ k, (∀ y0 y1 y2 y3, LeO (impl_Seq.l0 k y0 y1 y2 y3) (impl_Seq.l0 (k + 1) y0 y1 y2 y3))
  | 0 => fun _ _ _ _ r h => by simp [impl_Seq.l0] at h
  | k + 1 => by
    have ih0 := impl_Seq.mono_l k
    · intro y0 y1 y2 y3
      unfold impl_Seq.l0
      repeat' first
      | (with_reducible exact ih0 _ _ _ _)
      | (with_reducible exact sprig_Seq.mono _ _)
      | (with_reducible exact LeO.refl _)
      | (with_reducible exact LeO.none _)
      | (with_reducible refine LeO.ite ?_ ?_)
      | (with_reducible refine LeO.bind ?_ (fun _ => ?_))
      | exact ih0 _ _ _ _
      | exact sprig_Seq.mono _ _
      | exact LeO.none _
      | refine LeO.ite ?_ ?_
      | refine LeO.bind ?_ (fun _ => ?_)
theorem impl_Seq.mono : ∀ a0 k, LeO (impl_Seq.f k a0) (impl_Seq.f (k + 1) a0) := by
  intro a0 k
  have ih0 := impl_Seq.mono_l k
  unfold impl_Seq.f
  repeat' first
      | (with_reducible exact ih0 _ _ _ _)
      | (with_reducible exact sprig_Seq.mono _ _)
      | (with_reducible exact LeO.refl _)
      | (with_reducible exact LeO.none _)
      | (with_reducible refine LeO.ite ?_ ?_)
      | (with_reducible refine LeO.bind ?_ (fun _ => ?_))
      | exact ih0 _ _ _ _
      | exact sprig_Seq.mono _ _
      | exact LeO.none _
      | refine LeO.ite ?_ ?_
      | refine LeO.bind ?_ (fun _ => ?_)
set_option maxHeartbeats 8000000 in
set_option maxRecDepth 100000 in
theorem impl_Seq.calls (k : Nat) (A0 : Option Addr) (c0 : Nat) (l0 : List Int) (r : ByteArray) (w : World) (T : Giv.Pow10 w) (hr0 : Kd.C (Kd.int .i64) w A0 l0.length l0) (hc0 : l0.length ≤ c0) (h : impl_Seq.f k l0 = some r) :
    Calls Tryd.prog 8 #[.slice A0 l0.length c0] w fun e w' => e = .returned (.string r) ∧ Below w.heap.size w w' := by
  have TT_ := Aside0.mk T
  clear T
  have HR0 := Aside0.mk hr0
  have HC0 := Aside0.mk hc0
  clear hr0 hc0
  have HB := Aside0.mk (Below.refl w.heap.size w)
  have H : (impl_Seq.l0 k ([] : List Int) l0 (l0.length : Int) 0) = some r := h
  clear h
  have H' := Aside0.mk H
  clear H
  go_enter Tryd.func8, Tryd.ntmps8
  go_wp2
  go_loopg [3, 8] k (fun kq v3 v8 w' => ∃ (x3_1 : List Int) (x8_1 : Int), v8 = .int .i64 x8_1 ∧ Aside0 (impl_Seq.l0 kq x3_1 l0 (l0.length : Int) x8_1 = some r) ∧ Aside0 (kq ≤ k) ∧ Aside0 (Kd.R (Kd.int .i64) 3 w' w.heap.size (fun _ => True) v3 x3_1) ∧ Aside0 (Below w.heap.size w w'))
  case atStart => exact ⟨(([] : List Int)), (0), (by first | rfl | (simp; done) | (simp [*]; done)), H', ⟨Nat.le_refl _⟩, ⟨by first | exact Kd.R_nil _ _ _ _ _ | exact Kd.N_nil _ _ _ _ _ | exact Kd.V_nil _ _ _ _ _ | exact Kd.Q_nil _ _ _ _ _ | exact Kd.S_nil _ _ _ _ _⟩, ⟨by repeat (first | (with_reducible first | exact HB.out | apply below_alloc | apply pw_below_drewN | apply below_drew1) | exact HB.out)⟩⟩
  case round =>
    clear H'
    obtain ⟨x3_1, x8_1, rfl, HA, HK1, HO_3, HB⟩ := hrel
    cases gk with
    | zero => exact absurd HA.out (by simp [impl_Seq.l0])
    | succ k1 =>
      have H := HA.out
      clear HA
      simp only [impl_Seq.l0] at H
      by_cases c2 : x8_1 < (l0.length : Int)
      · rw [if_pos c2] at H
        have c2b0 : decide (x8_1 < (l0.length : Int)) = true := decide_eq_true c2
        clear c2
        by_cases c3 : 0 ≤ x8_1
        · rw [if_pos c3] at H
          have c3b0 : decide (0 ≤ x8_1) = true := decide_eq_true c3
          clear c3
          by_cases c4 : x8_1 < (l0.length : Int)
          · rw [if_pos c4] at H
            have c4b0 : decide (x8_1 < (l0.length : Int)) = true := decide_eq_true c4
            clear c4
            by_cases c5 : x3_1.length < 17592186044416
            · rw [if_pos c5] at H
              have LMc5 := Aside0.mk c5
              clear c5
              obtain ⟨y180, hy180⟩ : ∃ y_ : List Int, y_ = (x3_1 ++ [rd l0 x8_1]) := ⟨_, rfl⟩
              replace H : (impl_Seq.l0 k1 y180 l0 (l0.length : Int) (wrap64 (x8_1 + 1))) = some r := by first | (rw [hy180]; with_reducible exact H) | (have H2_ := (Option.bind_some _ _).symm.trans H; rw [hy180]; with_reducible exact H2_) | (have H2_ := (Option.bind_some _ _).symm.trans H; with_reducible exact H2_) | with_reducible exact H | (rw [hy180]; exact H) | exact H
              have Ny180 := Aside0.mk hy180
              clear hy180
              have H' := Aside0.mk H
              clear H
              have p179 : 0 ≤ (x8_1 : Int) := of_decide_eq_true (by first | (with_reducible assumption) | assumption)
              have q179 : x8_1 < (l0.length : Int) := of_decide_eq_true (by first | (with_reducible assumption) | assumption)
              obtain ⟨ad179, e179, hx179_0⟩ := Kd.at_int HR0.out x8_1 p179 q179
              cases e179
              replace hx179_0 := (HB.out.cell (World.block_lt_of_cell? w _ hx179_0)).trans hx179_0
              replace p179 := eq_true p179
              replace q179 := eq_true q179
              go_wp2_with (first | ((with_reducible refine gate_builtin (b := .append) (xs := #[.tmp 12, .tmp 14]) rfl ?_); at_builtin; refine Kd.R_append (Kd.int .i64) (w0 := w) w.heap.size rfl (.tmp 12) (.tmp 14) 22 3 (.int .i64 0) 8 rfl Tryd.underlying22 info3 rfl (by decide) (by omega) u3 x3_1 (rd l0 x8_1) [.int .i64 (rd l0 x8_1)] (fun _ => True) (fun _ => False) rfl rfl ?aP (fun _ hk => hk.elim) ?aF ?aO ?aB ?aS ?aL ?_; (case aP => exact rfl); (case aB => exact (by repeat (first | (with_reducible first | exact HB.out | apply below_alloc | apply pw_below_drewN | apply below_drew1) | exact HB.out))); (case aF => exact (fun _ _ => trivial)); (case aO => exact (by (with_reducible repeat (first | apply Kd.R_alloc | apply Kd.R_drewN | apply Kd.R_drew)); exact HO_3.out)); (case aS => exact (below_size (by repeat (first | (with_reducible first | exact HB.out | apply below_alloc | apply pw_below_drewN | apply below_drew1) | exact HB.out)))); (case aL => have := LMc5.out; omega); intro v181 w6 ho hb hg hat; rw [← Ny180.out] at ho; have n0_ := Aside0.mk (hb); have n1_ := Aside0.mk (ho); clear HB; clear HO_3; have HB := n0_; have HO182 := n1_; clear n0_ n1_; clear ho hb hg hat))
              go_roundg k1
              case measure => have := HK1.out; omega
              case rel => exact ⟨(y180), (wrap64 (x8_1 + 1)), (by first | rfl | (simp; done) | (simp [*]; done)), H', ⟨by have := HK1.out; omega⟩, ⟨by (with_reducible repeat (first | apply Kd.R_alloc | apply Kd.R_drewN | apply Kd.R_drew)); first | exact HO182.out | (have h_ := HO182.out; simp only [Txt.own_map] at h_ ⊢; exact h_)⟩, ⟨by repeat (first | (with_reducible first | exact HB.out | apply below_alloc | apply pw_below_drewN | apply below_drew1) | exact HB.out)⟩⟩
            · rw [if_neg c5] at H
              exact absurd H (by simp)
          · rw [if_neg c4] at H
            exact absurd H (by simp)
        · rw [if_neg c3] at H
          exact absurd H (by simp)
      · rw [if_neg c2] at H
        have c2b0 : decide (x8_1 < (l0.length : Int)) = false := decide_eq_false c2
        clear c2
        replace H := Option.bind_eq_some_iff.mp H
        obtain ⟨t183, A70, H⟩ := H
        replace H : (some t183) = some r := H
        have A7 := Aside0.mk A70
        clear A70
        obtain rfl := Option.some.inj H
        obtain ⟨Ao8, co8, eo8⟩ := Kd.R_slice HO_3.out
        subst eo8
        go_wp2_with (first | ((with_reducible refine gate_callee (f := 16) rfl ?_); refine goesL_ (some 18) rfl rfl Tryd.func16 (by kernel_rfl) rfl #[.slice Ao8 x3_1.length co8] rfl (by (try simp only [List.map_toArray, List.map_cons, List.map_nil]); first | done | rfl | (simp only [List.length_drop, List.length_take]; rfl)) ?_; (with_reducible refine (sprig_Seq.calls k1 _ _ x3_1 t183 _ (by first | exact TT_.out | exact TT_.out.below (by repeat (first | (with_reducible first | exact HB.out | apply below_alloc | apply pw_below_drewN | apply below_drew1) | exact HB.out))) ?side1 ?side2 A7.out).mono ?_); (case side1 => repeat (first | exact (Kd.R_reads' HO_3.out).2.2 | (with_reducible refine Kd.C_alloc ?_ _) | (with_reducible refine Kd.C_drewN ?_ _) | (with_reducible refine Kd.C_drew ?_))); (case side2 => exact (Kd.R_reads' HO_3.out).2.1); rintro e w9 ⟨rfl, hb⟩; refine ⟨_, rfl, ?_⟩; have n0_ := Aside0.mk (Kd.R_below (by (with_reducible repeat (first | apply Kd.R_alloc | apply Kd.R_drewN | apply Kd.R_drew)); exact HO_3.out) hb); have n1_ := Aside0.mk (below_step (by repeat (first | (with_reducible first | exact HB.out | apply below_alloc | apply pw_below_drewN | apply below_drew1) | exact HB.out)) hb); clear HO_3; clear HB; have HO_3 := n0_; have HB := n1_; clear n0_ n1_; (try clear hb); (try clear hb2); (try clear hk); (try clear hi)))
        go_ret
        exact ⟨by first | rfl | (simp [errW_none, errW_some] <;> rfl) | (simp [*, errW_none, errW_some] <;> rfl), by repeat (first | (with_reducible first | exact HB.out | apply below_alloc | apply pw_below_drewN | apply below_drew1) | exact HB.out)⟩

/-! ### laws_FnSeqUntil: function 3 -/
mutual
def laws_FnSeqUntil.j0 : Nat → Int → Bool → Option (Bool)
  | 0, _, _ => none
  | k + 1, x0, x12 => if x12 = true then (some true) else ((impl_Until.f k (wrap64 (x0))).bind fun t184 => ((impl_UntilStep.f k 0 (wrap64 (x0)) 1).bind fun t187 => (if (t184.length : Int) = (wrap64 (x0)) then (laws_FnSeqUntil.j1 k x0 t184 t187 ((t187.length : Int) != (t184.length : Int))) else (laws_FnSeqUntil.j1 k x0 t184 t187 true))))
def laws_FnSeqUntil.j1 : Nat → Int → List Int → List Int → Bool → Option (Bool)
  | 0, _, _, _, _ => none
  | k + 1, x0, x3, x4, x30 => if x30 = true then (some false) else (laws_FnSeqUntil.l0 k x0 x3 x4 (⟨#[]⟩ : ByteArray) 0)
def laws_FnSeqUntil.l0 : Nat → Int → List Int → List Int → ByteArray → Int → Option (Bool)
  | 0, _, _, _, _, _ => none
  | k + 1, x0, x3, x4, x5, x6 => if x6 < (x3.length : Int) then (if 0 ≤ x6 then (if (rd x3 x6) = x6 then (if x6 < (x4.length : Int) then (laws_FnSeqUntil.j3 k x0 x3 x4 x5 x6 ((rd x4 x6) != x6)) else (none)) else (laws_FnSeqUntil.j3 k x0 x3 x4 x5 x6 true)) else (none)) else ((impl_Seq.f k (([wrap64 (x0)] : List Int))).bind fun t193 => (some (t193.toList == x5.toList)))
def laws_FnSeqUntil.j3 : Nat → Int → List Int → List Int → ByteArray → Int → Bool → Option (Bool)
  | 0, _, _, _, _, _, _ => none
  | k + 1, x0, x3, x4, x5, x6, x50 => if x50 = true then (some false) else (if x6 > 0 then (if x5.size + 1 ≤ 9223372036854775807 then (if 0 ≤ x6 then (if x6 < (x3.length : Int) then ((spec_Decimal.f (wrap64 ((rd x3 x6) + 1))).bind fun t197 => (if (x5 ++ (⟨#[32]⟩ : ByteArray)).size + t197.size ≤ 9223372036854775807 then (laws_FnSeqUntil.l0 k x0 x3 x4 ((x5 ++ (⟨#[32]⟩ : ByteArray)) ++ t197) (wrap64 (x6 + 1))) else (none))) else (none)) else (none)) else (none)) else (if 0 ≤ x6 then (if x6 < (x3.length : Int) then ((spec_Decimal.f (wrap64 ((rd x3 x6) + 1))).bind fun t199 => (if x5.size + t199.size ≤ 9223372036854775807 then (laws_FnSeqUntil.l0 k x0 x3 x4 (x5 ++ t199) (wrap64 (x6 + 1))) else (none))) else (none)) else (none)))
end
def laws_FnSeqUntil.f (k : Nat) (a0 : Int) : Option (Bool) := if a0 = 0 then (laws_FnSeqUntil.j0 k a0 true) else (laws_FnSeqUntil.j0 k a0 (decide (a0 > 200)))
theorem laws_FnSeqUntil.mono_l : ∀ k, (∀ y0 y1, LeO (laws_FnSeqUntil.j0 k y0 y1) (laws_FnSeqUntil.j0 (k + 1) y0 y1)) ∧ (∀ y0 y1 y2 y3, LeO (laws_FnSeqUntil.j1 k y0 y1 y2 y3) (laws_FnSeqUntil.j1 (k + 1) y0 y1 y2 y3)) ∧ (∀ y0 y1 y2 y3 y4, LeO (laws_FnSeqUntil.l0 k y0 y1 y2 y3 y4) (laws_FnSeqUntil.l0 (k + 1) y0 y1 y2 y3 y4)) ∧ (∀ y0 y1 y2 y3 y4 y5, LeO (laws_FnSeqUntil.j3 k y0 y1 y2 y3 y4 y5) (laws_FnSeqUntil.j3 (k + 1) y0 y1 y2 y3 y4 y5))
  | 0 => ⟨fun _ _ r h => by simp [laws_FnSeqUntil.j0] at h, fun _ _ _ _ r h => by simp [laws_FnSeqUntil.j1] at h, fun _ _ _ _ _ r h => by simp [laws_FnSeqUntil.l0] at h, fun _ _ _ _ _ _ r h => by simp [laws_FnSeqUntil.j3] at h⟩
  | k + 1 => by
    obtain ⟨ih0, ih1, ih2, ih3⟩ := laws_FnSeqUntil.mono_l k
    refine ⟨?_, ?_, ?_, ?_⟩
    · intro y0 y1
      unfold laws_FnSeqUntil.j0
      repeat' first
      | (with_reducible exact ih0 _ _)
      | (with_reducible exact ih1 _ _ _ _)
      | (with_reducible exact ih2 _ _ _ _ _)
      | (with_reducible exact ih3 _ _ _ _ _ _)
      | (with_reducible exact impl_Seq.mono _ _)
      | (with_reducible exact impl_Until.mono _ _)
      | (with_reducible exact impl_UntilStep.mono _ _ _ _)
      | (with_reducible exact LeO.refl _)
      | (with_reducible exact LeO.none _)
      | (with_reducible refine LeO.ite ?_ ?_)
      | (with_reducible refine LeO.bind ?_ (fun _ => ?_))
      | exact ih0 _ _
      | exact ih1 _ _ _ _
      | exact ih2 _ _ _ _ _
      | exact ih3 _ _ _ _ _ _
      | exact impl_Seq.mono _ _
      | exact impl_Until.mono _ _
      | exact impl_UntilStep.mono _ _ _ _
      | exact LeO.none _
      | refine LeO.ite ?_ ?_
      | refine LeO.bind ?_ (fun _ => ?_)
    · intro y0 y1 y2 y3
      unfold laws_FnSeqUntil.j1
      repeat' first
      | (with_reducible exact ih0 _ _)
      | (with_reducible exact ih1 _ _ _ _)
      | (with_reducible exact ih2 _ _ _ _ _)
      | (with_reducible exact ih3 _ _ _ _ _ _)
      | (with_reducible exact impl_Seq.mono _ _)
      | (with_reducible exact impl_Until.mono _ _)
      | (with_reducible exact impl_UntilStep.mono _ _ _ _)
      | (with_reducible exact LeO.refl _)
      | (with_reducible exact LeO.none _)
      | (with_reducible refine LeO.ite ?_ ?_)
      | (with_reducible refine LeO.bind ?_ (fun _ => ?_))
      | exact ih0 _ _
      | exact ih1 _ _ _ _
      | exact ih2 _ _ _ _ _
      | exact ih3 _ _ _ _ _ _
      | exact impl_Seq.mono _ _
      | exact impl_Until.mono _ _
      | exact impl_UntilStep.mono _ _ _ _
      | exact LeO.none _
      | refine LeO.ite ?_ ?_
      | refine LeO.bind ?_ (fun _ => ?_)
    · intro y0 y1 y2 y3 y4
      unfold laws_FnSeqUntil.l0
      repeat' first
      | (with_reducible exact ih0 _ _)
      | (with_reducible exact ih1 _ _ _ _)
      | (with_reducible exact ih2 _ _ _ _ _)
      | (with_reducible exact ih3 _ _ _ _ _ _)
      | (with_reducible exact impl_Seq.mono _ _)
      | (with_reducible exact impl_Until.mono _ _)
      | (with_reducible exact impl_UntilStep.mono _ _ _ _)
      | (with_reducible exact LeO.refl _)
      | (with_reducible exact LeO.none _)
      | (with_reducible refine LeO.ite ?_ ?_)
      | (with_reducible refine LeO.bind ?_ (fun _ => ?_))
      | exact ih0 _ _
      | exact ih1 _ _ _ _
      | exact ih2 _ _ _ _ _
      | exact ih3 _ _ _ _ _ _
      | exact impl_Seq.mono _ _
      | exact impl_Until.mono _ _
      | exact impl_UntilStep.mono _ _ _ _
      | exact LeO.none _
      | refine LeO.ite ?_ ?_
      | refine LeO.bind ?_ (fun _ => ?_)
    · intro y0 y1 y2 y3 y4 y5
      unfold laws_FnSeqUntil.j3
      repeat' first
      | (with_reducible exact ih0 _ _)
      | (with_reducible exact ih1 _ _ _ _)
      | (with_reducible exact ih2 _ _ _ _ _)
      | (with_reducible exact ih3 _ _ _ _ _ _)
      | (with_reducible exact impl_Seq.mono _ _)
      | (with_reducible exact impl_Until.mono _ _)
      | (with_reducible exact impl_UntilStep.mono _ _ _ _)
      | (with_reducible exact LeO.refl _)
      | (with_reducible exact LeO.none _)
      | (with_reducible refine LeO.ite ?_ ?_)
      | (with_reducible refine LeO.bind ?_ (fun _ => ?_))
      | exact ih0 _ _
      | exact ih1 _ _ _ _
      | exact ih2 _ _ _ _ _
      | exact ih3 _ _ _ _ _ _
      | exact impl_Seq.mono _ _
      | exact impl_Until.mono _ _
      | exact impl_UntilStep.mono _ _ _ _
      | exact LeO.none _
      | refine LeO.ite ?_ ?_
      | refine LeO.bind ?_ (fun _ => ?_)
theorem laws_FnSeqUntil.mono : ∀ a0 k, LeO (laws_FnSeqUntil.f k a0) (laws_FnSeqUntil.f (k + 1) a0) := by
  intro a0 k
  obtain ⟨ih0, ih1, ih2, ih3⟩ := laws_FnSeqUntil.mono_l k
  unfold laws_FnSeqUntil.f
  repeat' first
      | (with_reducible exact ih0 _ _)
      | (with_reducible exact ih1 _ _ _ _)
      | (with_reducible exact ih2 _ _ _ _ _)
      | (with_reducible exact ih3 _ _ _ _ _ _)
      | (with_reducible exact impl_Seq.mono _ _)
      | (with_reducible exact impl_Until.mono _ _)
      | (with_reducible exact impl_UntilStep.mono _ _ _ _)
      | (with_reducible exact LeO.refl _)
      | (with_reducible exact LeO.none _)
      | (with_reducible refine LeO.ite ?_ ?_)
      | (with_reducible refine LeO.bind ?_ (fun _ => ?_))
      | exact ih0 _ _
      | exact ih1 _ _ _ _
      | exact ih2 _ _ _ _ _
      | exact ih3 _ _ _ _ _ _
      | exact impl_Seq.mono _ _
      | exact impl_Until.mono _ _
      | exact impl_UntilStep.mono _ _ _ _
      | exact LeO.none _
      | refine LeO.ite ?_ ?_
      | refine LeO.bind ?_ (fun _ => ?_)
set_option maxHeartbeats 8000000 in
set_option maxRecDepth 100000 in
theorem laws_FnSeqUntil.calls (k : Nat) (a0 : Int) (r : Bool) (w : World) (T : Giv.Pow10 w) (h : laws_FnSeqUntil.f k a0 = some r) :
    Calls Tryd.prog 3 #[.int .u8 a0] w fun e w' => e = .returned (.bool r) ∧ Below w.heap.size w w' := by
  have TT_ := Aside0.mk T
  clear T
  have HB := Aside0.mk (Below.refl w.heap.size w)
  have H : (if a0 = 0 then (laws_FnSeqUntil.j0 k a0 true) else (laws_FnSeqUntil.j0 k a0 (decide (a0 > 200)))) = some r := h
  clear h
  have HC2 := Aside0.mk H
  clear H
  go_enter Tryd.func3, Tryd.ntmps3
  go_upto_region 1 with (fail)
  go_cut [12] (fun v12 wc => ∃ (kq : Nat) (x12_1 : Bool), v12 = .bool x12_1 ∧ Aside0 (laws_FnSeqUntil.j0 kq a0 x12_1 = some r) ∧ Aside0 (kq ≤ k) ∧ Aside0 (Below w.heap.size w wc))
  case first =>
    have H := HC2.out
    clear HC2
    by_cases c3 : a0 = 0
    · rw [if_pos c3] at H
      have c3b0 : (a0 == 0) = true := beq_iff_eq.mpr c3
      have c3b1 : (a0 != 0) = false := bne_eq_false_iff_eq.mpr c3
      clear c3
      (first | rw [c3b0] | (simp only [i64_w, i32_w]; rw [c3b0]) | skip)
      have H' := Aside0.mk H
      clear H
      go_wp2
      go_meet
      case rel => exact ⟨_, (true), (by first | rfl | (simp; done) | (simp [*]; done)), H', ⟨by first | omega | exact Nat.le_refl _⟩, ⟨by repeat (first | (with_reducible first | exact HB.out | apply below_alloc | apply pw_below_drewN | apply below_drew1) | exact HB.out)⟩⟩
    · rw [if_neg c3] at H
      have c3b0 : (a0 == 0) = false := beq_eq_false_iff_ne.mpr c3
      have c3b1 : (a0 != 0) = true := bne_iff_ne.mpr c3
      (first | rw [c3b0] | (simp only [i64_w, i32_w]; rw [c3b0]) | skip)
      have H' := Aside0.mk H
      clear H
      go_wp2
      go_meet
      case rel => exact ⟨_, (decide (a0 > 200)), (by first | rfl | (simp; done) | (simp [*]; done)), H', ⟨by first | omega | exact Nat.le_refl _⟩, ⟨by repeat (first | (with_reducible first | exact HB.out | apply below_alloc | apply pw_below_drewN | apply below_drew1) | exact HB.out)⟩⟩
  case rest =>
    clear HC2
    try clear p2
    try clear c3
    try clear c3b0
    try clear c3b1
    obtain ⟨kq, x12_1, rfl, HA, HJ1, HB⟩ := hcut
    cases kq with
    | zero => exact absurd HA.out (by simp [laws_FnSeqUntil.j0])
    | succ kj1 =>
      have H := HA.out
      clear HA
      simp only [laws_FnSeqUntil.j0] at H
      by_cases c4 : x12_1 = true
      · subst c4
        have H1 : (some true) = some r := by rw [if_pos rfl] at H; exact H
        clear H
        have H := H1
        clear H1
        obtain rfl := Option.some.inj H
        go_wp2
        go_ret
        exact ⟨by first | rfl | (simp [errW_none, errW_some] <;> rfl) | (simp [*, errW_none, errW_some] <;> rfl), by repeat (first | (with_reducible first | exact HB.out | apply below_alloc | apply pw_below_drewN | apply below_drew1) | exact HB.out)⟩
      · replace c4 := Bool.eq_false_iff.mpr c4
        subst c4
        have H1 : ((impl_Until.f kj1 (wrap64 (a0))).bind fun t184 => ((impl_UntilStep.f kj1 0 (wrap64 (a0)) 1).bind fun t187 => (if (t184.length : Int) = (wrap64 (a0)) then (laws_FnSeqUntil.j1 kj1 a0 t184 t187 ((t187.length : Int) != (t184.length : Int))) else (laws_FnSeqUntil.j1 kj1 a0 t184 t187 true)))) = some r := by rw [if_neg (show ¬ (false = true) by decide)] at H; exact H
        clear H
        have H := H1
        clear H1
        replace H := Option.bind_eq_some_iff.mp H
        obtain ⟨t184, A50, H⟩ := H
        replace H : ((impl_UntilStep.f kj1 0 (wrap64 (a0)) 1).bind fun t187 => (if (t184.length : Int) = (wrap64 (a0)) then (laws_FnSeqUntil.j1 kj1 a0 t184 t187 ((t187.length : Int) != (t184.length : Int))) else (laws_FnSeqUntil.j1 kj1 a0 t184 t187 true))) = some r := H
        have A5 := Aside0.mk A50
        clear A50
        replace H := Option.bind_eq_some_iff.mp H
        obtain ⟨t187, A60, H⟩ := H
        replace H : (if (t184.length : Int) = (wrap64 (a0)) then (laws_FnSeqUntil.j1 kj1 a0 t184 t187 ((t187.length : Int) != (t184.length : Int))) else (laws_FnSeqUntil.j1 kj1 a0 t184 t187 true)) = some r := H
        have A6 := Aside0.mk A60
        clear A60
        have HC7 := Aside0.mk H
        clear H
        go_upto_region 5 with (first | ((with_reducible refine gate_callee (f := 5) rfl ?_); refine goesL_ (some 15) rfl rfl Tryd.func5 (by kernel_rfl) rfl #[.int .i64 (wrap64 (a0))] rfl (by (try simp only [List.map_toArray, List.map_cons, List.map_nil]); first | done | rfl | (simp only [List.length_drop, List.length_take]; rfl)) ?_; (with_reducible refine (impl_Until.calls kj1 (wrap64 (a0)) t184 _ A5.out).mono ?_); rintro e w8 ⟨v185, rfl, ho0, hb⟩; refine ⟨_, rfl, ?_⟩; have n0_ := Aside0.mk (Kd.R_lower ho0 (below_size (by repeat (first | (with_reducible first | exact HB.out | apply below_alloc | apply pw_below_drewN | apply below_drew1) | exact HB.out)))); have n1_ := Aside0.mk (below_step (by repeat (first | (with_reducible first | exact HB.out | apply below_alloc | apply pw_below_drewN | apply below_drew1) | exact HB.out)) hb); clear HB; have HO186 := n0_; have HB := n1_; clear n0_ n1_; (try clear hb); (try clear hb2); (try clear hk); (try clear hi); (try clear ho0)) | ((with_reducible refine gate_callee (f := 6) rfl ?_); refine goesL_ (some 18) rfl rfl Tryd.func6 (by kernel_rfl) rfl #[.int .i64 0, .int .i64 (wrap64 (a0)), .int .i64 1] rfl (by (try simp only [List.map_toArray, List.map_cons, List.map_nil]); first | done | rfl | (simp only [List.length_drop, List.length_take]; rfl)) ?_; (with_reducible refine (impl_UntilStep.calls kj1 0 (wrap64 (a0)) 1 t187 _ A6.out).mono ?_); rintro e w9 ⟨v188, rfl, ho0, hb⟩; refine ⟨_, rfl, ?_⟩; have n0_ := Aside0.mk (Kd.R_elder' (by (with_reducible repeat (first | apply Kd.R_alloc | apply Kd.R_drewN | apply Kd.R_drew)); exact HO186.out) (Kd.R_base ho0) hb); have n1_ := Aside0.mk (Kd.R_lower (Kd.R_new' ho0 (Kd.R_lt (by (with_reducible repeat (first | apply Kd.R_alloc | apply Kd.R_drewN | apply Kd.R_drew)); exact HO186.out))) (below_size (by repeat (first | (with_reducible first | exact HB.out | apply below_alloc | apply pw_below_drewN | apply below_drew1) | exact HB.out)))); have n2_ := Aside0.mk (below_step (by repeat (first | (with_reducible first | exact HB.out | apply below_alloc | apply pw_below_drewN | apply below_drew1) | exact HB.out)) hb); clear HO186; clear HB; have HO186 := n0_; have HO189 := n1_; have HB := n2_; clear n0_ n1_ n2_; (try clear hb); (try clear hb2); (try clear hk); (try clear hi); (try clear ho0)))
        (try simp only [Act.put, List.setIfInBounds_toArray, List.set_cons_zero, List.set_cons_succ])
        go_cut [30] (fun v30 wc => ∃ (kq : Nat) (x30_6 : Bool), v30 = .bool x30_6 ∧ Aside0 (laws_FnSeqUntil.j1 kq a0 t184 t187 x30_6 = some r) ∧ Aside0 (kq ≤ kj1) ∧ Aside0 (Kd.R (Kd.int .i64) 3 wc w.heap.size (fun k_ => some k_ ≠ (v188 : Value).ownBlock) v185 t184) ∧ Aside0 (Kd.R (Kd.int .i64) 3 wc w.heap.size (fun k_ => some k_ ≠ (v185 : Value).ownBlock) v188 t187) ∧ Aside0 (Below w.heap.size w wc))
        case first =>
          have H := HC7.out
          clear HC7
          by_cases c10 : (t184.length : Int) = (wrap64 (a0))
          · rw [if_pos c10] at H
            have c10b0 : ((t184.length : Int) == (wrap64 (a0))) = true := beq_iff_eq.mpr c10
            have c10b1 : ((t184.length : Int) != (wrap64 (a0))) = false := bne_eq_false_iff_eq.mpr c10
            clear c10
            (first | rw [c10b0] | (simp only [i64_w, i32_w]; rw [c10b0]) | skip)
            have H' := Aside0.mk H
            clear H
            obtain ⟨Ao11, co11, eo11⟩ := Kd.R_slice HO186.out
            subst eo11
            obtain ⟨Ao12, co12, eo12⟩ := Kd.R_slice HO189.out
            subst eo12
            go_wp2
            go_meet
            case rel => exact ⟨_, (((t187.length : Int) != (t184.length : Int))), (by first | rfl | (simp; done) | (simp [*]; done)), H', ⟨by have := HJ1.out; first | omega | exact Nat.le_refl _⟩, ⟨by (with_reducible repeat (first | apply Kd.R_alloc | apply Kd.R_drewN | apply Kd.R_drew)); exact Kd.R_mono HO186.out (fun _ hk => hk.2)⟩, ⟨by (with_reducible repeat (first | apply Kd.R_alloc | apply Kd.R_drewN | apply Kd.R_drew)); exact Kd.R_mono HO189.out (fun _ hk => hk.2)⟩, ⟨by repeat (first | (with_reducible first | exact HB.out | apply below_alloc | apply pw_below_drewN | apply below_drew1) | exact HB.out)⟩⟩
          · rw [if_neg c10] at H
            have c10b0 : ((t184.length : Int) == (wrap64 (a0))) = false := beq_eq_false_iff_ne.mpr c10
            have c10b1 : ((t184.length : Int) != (wrap64 (a0))) = true := bne_iff_ne.mpr c10
            (first | rw [c10b0] | (simp only [i64_w, i32_w]; rw [c10b0]) | skip)
            have H' := Aside0.mk H
            clear H
            obtain ⟨Ao13, co13, eo13⟩ := Kd.R_slice HO186.out
            subst eo13
            go_wp2
            go_meet
            case rel => exact ⟨_, (true), (by first | rfl | (simp; done) | (simp [*]; done)), H', ⟨by have := HJ1.out; first | omega | exact Nat.le_refl _⟩, ⟨by (with_reducible repeat (first | apply Kd.R_alloc | apply Kd.R_drewN | apply Kd.R_drew)); exact Kd.R_mono HO186.out (fun _ hk => hk.2)⟩, ⟨by (with_reducible repeat (first | apply Kd.R_alloc | apply Kd.R_drewN | apply Kd.R_drew)); exact Kd.R_mono HO189.out (fun _ hk => hk.2)⟩, ⟨by repeat (first | (with_reducible first | exact HB.out | apply below_alloc | apply pw_below_drewN | apply below_drew1) | exact HB.out)⟩⟩
        case rest =>
          clear HC7
          try clear c1
          try clear p2
          try clear c3
          try clear c3b0
          try clear c3b1
          try clear c4
          try clear c5
          try clear c6
          try clear p6
          try clear c10
          try clear c10b0
          try clear c10b1
          try clear p2
          obtain ⟨kq, x30_6, rfl, HA, HJ6, HO_3, HO_4, HB⟩ := hcut
          cases kq with
          | zero => exact absurd HA.out (by simp [laws_FnSeqUntil.j1])
          | succ kj6 =>
            have H := HA.out
            clear HA
            simp only [laws_FnSeqUntil.j1] at H
            by_cases c14 : x30_6 = true
            · subst c14
              have H1 : (some false) = some r := by rw [if_pos rfl] at H; exact H
              clear H
              have H := H1
              clear H1
              obtain rfl := Option.some.inj H
              go_wp2
              go_ret
              exact ⟨by first | rfl | (simp [errW_none, errW_some] <;> rfl) | (simp [*, errW_none, errW_some] <;> rfl), by repeat (first | (with_reducible first | exact HB.out | apply below_alloc | apply pw_below_drewN | apply below_drew1) | exact HB.out)⟩
            · replace c14 := Bool.eq_false_iff.mpr c14
              subst c14
              have H1 : (laws_FnSeqUntil.l0 kj6 a0 t184 t187 (⟨#[]⟩ : ByteArray) 0) = some r := by rw [if_neg (show ¬ (false = true) by decide)] at H; exact H
              clear H
              have H := H1
              clear H1
              have H' := Aside0.mk H
              clear H
              go_wp2
              go_loopg [5, 6] kj6 (fun kq v5 v6 w' => ∃ (x5_3 : ByteArray) (x6_3 : Int), v5 = .string x5_3 ∧ v6 = .int .i64 x6_3 ∧ Aside0 (laws_FnSeqUntil.l0 kq a0 t184 t187 x5_3 x6_3 = some r) ∧ Aside0 (kq ≤ kj6) ∧ Aside0 (Kd.R (Kd.int .i64) 3 w' w.heap.size (fun k_ => some k_ ≠ (v188 : Value).ownBlock) v185 t184) ∧ Aside0 (Kd.R (Kd.int .i64) 3 w' w.heap.size (fun k_ => some k_ ≠ (v185 : Value).ownBlock) v188 t187) ∧ Aside0 (Below w.heap.size w w'))
              case atStart => exact ⟨((⟨#[]⟩ : ByteArray)), (0), (by first | rfl | (simp; done) | (simp [*]; done)), (by first | rfl | (simp; done) | (simp [*]; done)), H', ⟨Nat.le_refl _⟩, ⟨by (with_reducible repeat (first | apply Kd.R_alloc | apply Kd.R_drewN | apply Kd.R_drew)); first | exact HO_3.out | (have h_ := HO_3.out; simp only [Txt.own_map] at h_ ⊢; exact h_)⟩, ⟨by (with_reducible repeat (first | apply Kd.R_alloc | apply Kd.R_drewN | apply Kd.R_drew)); first | exact HO_4.out | (have h_ := HO_4.out; simp only [Txt.own_map] at h_ ⊢; exact h_)⟩, ⟨by repeat (first | (with_reducible first | exact HB.out | apply below_alloc | apply pw_below_drewN | apply below_drew1) | exact HB.out)⟩⟩
              case round =>
                clear H'
                try clear c1
                try clear p2
                try clear c3
                try clear c3b0
                try clear c3b1
                try clear c4
                try clear c5
                try clear c6
                try clear p6
                try clear c10
                try clear c10b0
                try clear c10b1
                try clear c14
                try clear p2
                try clear p6
                obtain ⟨x5_3, x6_3, rfl, rfl, HA, HK3, HO_3, HO_4, HB⟩ := hrel
                cases gk with
                | zero => exact absurd HA.out (by simp [laws_FnSeqUntil.l0])
                | succ k3 =>
                  have H := HA.out
                  clear HA
                  simp only [laws_FnSeqUntil.l0] at H
                  by_cases c15 : x6_3 < (t184.length : Int)
                  · rw [if_pos c15] at H
                    have c15b0 : decide (x6_3 < (t184.length : Int)) = true := decide_eq_true c15
                    clear c15
                    have HC16 := Aside0.mk H
                    clear H
                    obtain ⟨Ao17, co17, eo17⟩ := Kd.R_slice HO_3.out
                    subst eo17
                    go_upto_region 11 with (fail)
                    go_cut [50] (fun v50 wc => ∃ (kq : Nat) (x50_15 : Bool), v50 = .bool x50_15 ∧ Aside0 (laws_FnSeqUntil.j3 kq a0 t184 t187 x5_3 x6_3 x50_15 = some r) ∧ Aside0 (kq ≤ k3) ∧ Aside0 (Kd.R (Kd.int .i64) 3 wc w.heap.size (fun k_ => some k_ ≠ (v188 : Value).ownBlock) (.slice Ao17 t184.length co17) t184) ∧ Aside0 (Kd.R (Kd.int .i64) 3 wc w.heap.size (fun k_ => some k_ ≠ ((.slice Ao17 t184.length co17) : Value).ownBlock) v188 t187) ∧ Aside0 (Below w.heap.size w wc))
                    case first =>
                      have H := HC16.out
                      clear HC16
                      by_cases c18 : 0 ≤ x6_3
                      · rw [if_pos c18] at H
                        have c18b0 : decide (0 ≤ x6_3) = true := decide_eq_true c18
                        clear c18
                        (first | rw [c18b0] | (simp only [i64_w, i32_w]; rw [c18b0]) | skip)
                        by_cases c19 : (rd t184 x6_3) = x6_3
                        · rw [if_pos c19] at H
                          have c19b0 : ((rd t184 x6_3) == x6_3) = true := beq_iff_eq.mpr c19
                          have c19b1 : ((rd t184 x6_3) != x6_3) = false := bne_eq_false_iff_eq.mpr c19
                          clear c19
                          by_cases c20 : x6_3 < (t187.length : Int)
                          · rw [if_pos c20] at H
                            have c20b0 : decide (x6_3 < (t187.length : Int)) = true := decide_eq_true c20
                            clear c20
                            have H' := Aside0.mk H
                            clear H
                            have p194 : 0 ≤ (x6_3 : Int) := of_decide_eq_true (by first | (with_reducible assumption) | assumption)
                            have q194 : x6_3 < (t184.length : Int) := of_decide_eq_true (by first | (with_reducible assumption) | assumption)
                            obtain ⟨ad194, e194, hx194_0⟩ := Kd.at_int (Kd.R_reads' HO_3.out).2.2 x6_3 p194 q194
                            cases e194
                            replace p194 := eq_true p194
                            replace q194 := eq_true q194
                            obtain ⟨Ao21, co21, eo21⟩ := Kd.R_slice HO_4.out
                            subst eo21
                            have p195 : 0 ≤ (x6_3 : Int) := of_decide_eq_true (by first | (with_reducible assumption) | assumption)
                            have q195 : x6_3 < (t187.length : Int) := of_decide_eq_true (by first | (with_reducible assumption) | assumption)
                            obtain ⟨ad195, e195, hx195_0⟩ := Kd.at_int (Kd.R_reads' HO_4.out).2.2 x6_3 p195 q195
                            cases e195
                            replace p195 := eq_true p195
                            replace q195 := eq_true q195
                            go_wp2
                            go_meet
                            case rel => exact ⟨_, (((rd t187 x6_3) != x6_3)), (by first | rfl | (simp; done) | (simp [*]; done)), H', ⟨by have := HJ1.out; have := HJ6.out; have := HK3.out; first | omega | exact Nat.le_refl _⟩, ⟨by (with_reducible repeat (first | apply Kd.R_alloc | apply Kd.R_drewN | apply Kd.R_drew)); first | exact HO_3.out | (have h_ := HO_3.out; simp only [Txt.own_map] at h_ ⊢; exact h_)⟩, ⟨by (with_reducible repeat (first | apply Kd.R_alloc | apply Kd.R_drewN | apply Kd.R_drew)); first | exact HO_4.out | (have h_ := HO_4.out; simp only [Txt.own_map] at h_ ⊢; exact h_)⟩, ⟨by repeat (first | (with_reducible first | exact HB.out | apply below_alloc | apply pw_below_drewN | apply below_drew1) | exact HB.out)⟩⟩
                          · rw [if_neg c20] at H
                            exact absurd H (by simp)
                        · rw [if_neg c19] at H
                          have c19b0 : ((rd t184 x6_3) == x6_3) = false := beq_eq_false_iff_ne.mpr c19
                          have c19b1 : ((rd t184 x6_3) != x6_3) = true := bne_iff_ne.mpr c19
                          have H' := Aside0.mk H
                          clear H
                          have p194 : 0 ≤ (x6_3 : Int) := of_decide_eq_true (by first | (with_reducible assumption) | assumption)
                          have q194 : x6_3 < (t184.length : Int) := of_decide_eq_true (by first | (with_reducible assumption) | assumption)
                          obtain ⟨ad194, e194, hx194_0⟩ := Kd.at_int (Kd.R_reads' HO_3.out).2.2 x6_3 p194 q194
                          cases e194
                          replace p194 := eq_true p194
                          replace q194 := eq_true q194
                          go_wp2
                          go_meet
                          case rel => exact ⟨_, (true), (by first | rfl | (simp; done) | (simp [*]; done)), H', ⟨by have := HJ1.out; have := HJ6.out; have := HK3.out; first | omega | exact Nat.le_refl _⟩, ⟨by (with_reducible repeat (first | apply Kd.R_alloc | apply Kd.R_drewN | apply Kd.R_drew)); first | exact HO_3.out | (have h_ := HO_3.out; simp only [Txt.own_map] at h_ ⊢; exact h_)⟩, ⟨by (with_reducible repeat (first | apply Kd.R_alloc | apply Kd.R_drewN | apply Kd.R_drew)); first | exact HO_4.out | (have h_ := HO_4.out; simp only [Txt.own_map] at h_ ⊢; exact h_)⟩, ⟨by repeat (first | (with_reducible first | exact HB.out | apply below_alloc | apply pw_below_drewN | apply below_drew1) | exact HB.out)⟩⟩
                      · rw [if_neg c18] at H
                        exact absurd H (by simp)
                    case rest =>
                      clear HC16
                      try clear c1
                      try clear p1
                      try clear q1
                      try clear hx1
                      try clear c2
                      try clear p2
                      try clear c3
                      try clear c3b0
                      try clear c3b1
                      try clear c4
                      try clear c5
                      try clear c6
                      try clear p6
                      try clear c10
                      try clear c10b0
                      try clear c10b1
                      try clear c14
                      try clear c15
                      try clear c15b0
                      try clear c18
                      try clear c18b0
                      try clear c19
                      try clear c19b0
                      try clear c19b1
                      try clear p19
                      try clear q19
                      try clear hx19
                      try clear c20
                      try clear c20b0
                      try clear hx194_0
                      try clear hx195_0
                      try clear p194
                      try clear p195
                      try clear p2
                      try clear p6
                      try clear q194
                      try clear q195
                      obtain ⟨kq, x50_15, rfl, HA, HJ15, HO_3, HO_4, HB⟩ := hcut
                      cases kq with
                      | zero => exact absurd HA.out (by simp [laws_FnSeqUntil.j3])
                      | succ kj15 =>
                        have H := HA.out
                        clear HA
                        simp only [laws_FnSeqUntil.j3] at H
                        by_cases c22 : x50_15 = true
                        · subst c22
                          have H1 : (some false) = some r := by rw [if_pos rfl] at H; exact H
                          clear H
                          have H := H1
                          clear H1
                          obtain rfl := Option.some.inj H
                          go_wp2
                          go_ret
                          exact ⟨by first | rfl | (simp [errW_none, errW_some] <;> rfl) | (simp [*, errW_none, errW_some] <;> rfl), by repeat (first | (with_reducible first | exact HB.out | apply below_alloc | apply pw_below_drewN | apply below_drew1) | exact HB.out)⟩
                        · replace c22 := Bool.eq_false_iff.mpr c22
                          subst c22
                          have H1 : (if x6_3 > 0 then (if x5_3.size + 1 ≤ 9223372036854775807 then (if 0 ≤ x6_3 then (if x6_3 < (t184.length : Int) then ((spec_Decimal.f (wrap64 ((rd t184 x6_3) + 1))).bind fun t197 => (if (x5_3 ++ (⟨#[32]⟩ : ByteArray)).size + t197.size ≤ 9223372036854775807 then (laws_FnSeqUntil.l0 kj15 a0 t184 t187 ((x5_3 ++ (⟨#[32]⟩ : ByteArray)) ++ t197) (wrap64 (x6_3 + 1))) else (none))) else (none)) else (none)) else (none)) else (if 0 ≤ x6_3 then (if x6_3 < (t184.length : Int) then ((spec_Decimal.f (wrap64 ((rd t184 x6_3) + 1))).bind fun t199 => (if x5_3.size + t199.size ≤ 9223372036854775807 then (laws_FnSeqUntil.l0 kj15 a0 t184 t187 (x5_3 ++ t199) (wrap64 (x6_3 + 1))) else (none))) else (none)) else (none))) = some r := by rw [if_neg (show ¬ (false = true) by decide)] at H; exact H
                          clear H
                          have H := H1
                          clear H1
                          by_cases c23 : x6_3 > 0
                          · rw [if_pos c23] at H
                            have c23b0 : decide (0 < x6_3) = true := decide_eq_true c23
                            clear c23
                            by_cases c24 : x5_3.size + 1 ≤ 9223372036854775807
                            · rw [if_pos c24] at H
                              have c24b0 := eq_true c24
                              have c24b1 : decide (x5_3.size + 1 ≤ 9223372036854775807) = true := decide_eq_true c24
                              try have c24b2 : (9223372036854775807 < x5_3.size + 1) = False := eq_false (Nat.not_lt.2 c24)
                              by_cases c25 : 0 ≤ x6_3
                              · rw [if_pos c25] at H
                                have c25b0 : decide (0 ≤ x6_3) = true := decide_eq_true c25
                                clear c25
                                by_cases c26 : x6_3 < (t184.length : Int)
                                · rw [if_pos c26] at H
                                  have c26b0 : decide (x6_3 < (t184.length : Int)) = true := decide_eq_true c26
                                  clear c26
                                  replace H := Option.bind_eq_some_iff.mp H
                                  obtain ⟨t197, A270, H⟩ := H
                                  replace H : (if (x5_3 ++ (⟨#[32]⟩ : ByteArray)).size + t197.size ≤ 9223372036854775807 then (laws_FnSeqUntil.l0 kj15 a0 t184 t187 ((x5_3 ++ (⟨#[32]⟩ : ByteArray)) ++ t197) (wrap64 (x6_3 + 1))) else (none)) = some r := H
                                  have A27 := Aside0.mk A270
                                  clear A270
                                  by_cases c28 : (x5_3 ++ (⟨#[32]⟩ : ByteArray)).size + t197.size ≤ 9223372036854775807
                                  · rw [if_pos c28] at H
                                    have c28b0 := eq_true c28
                                    have c28b1 : decide ((x5_3 ++ (⟨#[32]⟩ : ByteArray)).size + t197.size ≤ 9223372036854775807) = true := decide_eq_true c28
                                    try have c28b2 : (9223372036854775807 < (x5_3 ++ (⟨#[32]⟩ : ByteArray)).size + t197.size) = False := eq_false (Nat.not_lt.2 c28)
                                    have c28b9 : (9223372036854775807 < x5_3.size + 1 + t197.size) = False := (show (x5_3 ++ (⟨#[32]⟩ : ByteArray)).size = x5_3.size + 1 from by rw [ByteArray.size_append]; rfl) ▸ c28b2
                                    have H' := Aside0.mk H
                                    clear H
                                    have p196 : 0 ≤ (x6_3 : Int) := of_decide_eq_true (by first | (with_reducible assumption) | assumption)
                                    have q196 : x6_3 < (t184.length : Int) := of_decide_eq_true (by first | (with_reducible assumption) | assumption)
                                    obtain ⟨ad196, e196, hx196_0⟩ := Kd.at_int (Kd.R_reads' HO_3.out).2.2 x6_3 p196 q196
                                    cases e196
                                    replace p196 := eq_true p196
                                    replace q196 := eq_true q196
                                    go_wp2_with (first | ((with_reducible refine gate_callee (f := 7) rfl ?_); refine goesL_ (some 61) rfl rfl Tryd.func7 (by kernel_rfl) rfl #[.int .i64 (wrap64 ((rd t184 x6_3) + 1))] rfl (by (try simp only [List.map_toArray, List.map_cons, List.map_nil]); first | done | rfl | (simp only [List.length_drop, List.length_take]; rfl)) ?_; (with_reducible refine (spec_Decimal.calls (wrap64 ((rd t184 x6_3) + 1)) t197 _ (by first | exact TT_.out | exact TT_.out.below (by repeat (first | (with_reducible first | exact HB.out | apply below_alloc | apply pw_below_drewN | apply below_drew1) | exact HB.out))) A27.out).mono ?_); rintro e w29 ⟨rfl, hb⟩; refine ⟨_, rfl, ?_⟩; have n0_ := Aside0.mk (Kd.R_below (by (with_reducible repeat (first | apply Kd.R_alloc | apply Kd.R_drewN | apply Kd.R_drew)); exact HO_3.out) hb); have n1_ := Aside0.mk (Kd.R_below (by (with_reducible repeat (first | apply Kd.R_alloc | apply Kd.R_drewN | apply Kd.R_drew)); exact HO_4.out) hb); have n2_ := Aside0.mk (below_step (by repeat (first | (with_reducible first | exact HB.out | apply below_alloc | apply pw_below_drewN | apply below_drew1) | exact HB.out)) hb); clear HO_3; clear HO_4; clear HB; have HO_3 := n0_; have HO_4 := n1_; have HB := n2_; clear n0_ n1_ n2_; (try clear hb); (try clear hb2); (try clear hk); (try clear hi)))
                                    go_roundg kj15
                                    case measure => have := HJ1.out; have := HJ6.out; have := HK3.out; have := HJ15.out; omega
                                    case rel => exact ⟨((x5_3 ++ (⟨#[32]⟩ : ByteArray)) ++ t197), (wrap64 (x6_3 + 1)), (by first | rfl | (simp; done) | (simp [*]; done)), (by first | rfl | (simp; done) | (simp [*]; done)), H', ⟨by have := HJ1.out; have := HJ6.out; have := HK3.out; have := HJ15.out; omega⟩, ⟨by (with_reducible repeat (first | apply Kd.R_alloc | apply Kd.R_drewN | apply Kd.R_drew)); first | exact HO_3.out | (have h_ := HO_3.out; simp only [Txt.own_map] at h_ ⊢; exact h_)⟩, ⟨by (with_reducible repeat (first | apply Kd.R_alloc | apply Kd.R_drewN | apply Kd.R_drew)); first | exact HO_4.out | (have h_ := HO_4.out; simp only [Txt.own_map] at h_ ⊢; exact h_)⟩, ⟨by repeat (first | (with_reducible first | exact HB.out | apply below_alloc | apply pw_below_drewN | apply below_drew1) | exact HB.out)⟩⟩
                                  · rw [if_neg c28] at H
                                    exact absurd H (by simp)
                                · rw [if_neg c26] at H
                                  exact absurd H (by simp)
                              · rw [if_neg c25] at H
                                exact absurd H (by simp)
                            · rw [if_neg c24] at H
                              exact absurd H (by simp)
                          · rw [if_neg c23] at H
                            have c23b0 : decide (0 < x6_3) = false := decide_eq_false c23
                            clear c23
                            by_cases c30 : 0 ≤ x6_3
                            · rw [if_pos c30] at H
                              have c30b0 : decide (0 ≤ x6_3) = true := decide_eq_true c30
                              clear c30
                              by_cases c31 : x6_3 < (t184.length : Int)
                              · rw [if_pos c31] at H
                                have c31b0 : decide (x6_3 < (t184.length : Int)) = true := decide_eq_true c31
                                clear c31
                                replace H := Option.bind_eq_some_iff.mp H
                                obtain ⟨t199, A320, H⟩ := H
                                replace H : (if x5_3.size + t199.size ≤ 9223372036854775807 then (laws_FnSeqUntil.l0 kj15 a0 t184 t187 (x5_3 ++ t199) (wrap64 (x6_3 + 1))) else (none)) = some r := H
                                have A32 := Aside0.mk A320
                                clear A320
                                by_cases c33 : x5_3.size + t199.size ≤ 9223372036854775807
                                · rw [if_pos c33] at H
                                  have c33b0 := eq_true c33
                                  have c33b1 : decide (x5_3.size + t199.size ≤ 9223372036854775807) = true := decide_eq_true c33
                                  try have c33b2 : (9223372036854775807 < x5_3.size + t199.size) = False := eq_false (Nat.not_lt.2 c33)
                                  have H' := Aside0.mk H
                                  clear H
                                  have p198 : 0 ≤ (x6_3 : Int) := of_decide_eq_true (by first | (with_reducible assumption) | assumption)
                                  have q198 : x6_3 < (t184.length : Int) := of_decide_eq_true (by first | (with_reducible assumption) | assumption)
                                  obtain ⟨ad198, e198, hx198_0⟩ := Kd.at_int (Kd.R_reads' HO_3.out).2.2 x6_3 p198 q198
                                  cases e198
                                  replace p198 := eq_true p198
                                  replace q198 := eq_true q198
                                  go_wp2_with (first | ((with_reducible refine gate_callee (f := 7) rfl ?_); refine goesL_ (some 61) rfl rfl Tryd.func7 (by kernel_rfl) rfl #[.int .i64 (wrap64 ((rd t184 x6_3) + 1))] rfl (by (try simp only [List.map_toArray, List.map_cons, List.map_nil]); first | done | rfl | (simp only [List.length_drop, List.length_take]; rfl)) ?_; (with_reducible refine (spec_Decimal.calls (wrap64 ((rd t184 x6_3) + 1)) t199 _ (by first | exact TT_.out | exact TT_.out.below (by repeat (first | (with_reducible first | exact HB.out | apply below_alloc | apply pw_below_drewN | apply below_drew1) | exact HB.out))) A32.out).mono ?_); rintro e w34 ⟨rfl, hb⟩; refine ⟨_, rfl, ?_⟩; have n0_ := Aside0.mk (Kd.R_below (by (with_reducible repeat (first | apply Kd.R_alloc | apply Kd.R_drewN | apply Kd.R_drew)); exact HO_3.out) hb); have n1_ := Aside0.mk (Kd.R_below (by (with_reducible repeat (first | apply Kd.R_alloc | apply Kd.R_drewN | apply Kd.R_drew)); exact HO_4.out) hb); have n2_ := Aside0.mk (below_step (by repeat (first | (with_reducible first | exact HB.out | apply below_alloc | apply pw_below_drewN | apply below_drew1) | exact HB.out)) hb); clear HO_3; clear HO_4; clear HB; have HO_3 := n0_; have HO_4 := n1_; have HB := n2_; clear n0_ n1_ n2_; (try clear hb); (try clear hb2); (try clear hk); (try clear hi)))
                                  go_roundg kj15
                                  case measure => have := HJ1.out; have := HJ6.out; have := HK3.out; have := HJ15.out; omega
                                  case rel => exact ⟨(x5_3 ++ t199), (wrap64 (x6_3 + 1)), (by first | rfl | (simp; done) | (simp [*]; done)), (by first | rfl | (simp; done) | (simp [*]; done)), H', ⟨by have := HJ1.out; have := HJ6.out; have := HK3.out; have := HJ15.out; omega⟩, ⟨by (with_reducible repeat (first | apply Kd.R_alloc | apply Kd.R_drewN | apply Kd.R_drew)); first | exact HO_3.out | (have h_ := HO_3.out; simp only [Txt.own_map] at h_ ⊢; exact h_)⟩, ⟨by (with_reducible repeat (first | apply Kd.R_alloc | apply Kd.R_drewN | apply Kd.R_drew)); first | exact HO_4.out | (have h_ := HO_4.out; simp only [Txt.own_map] at h_ ⊢; exact h_)⟩, ⟨by repeat (first | (with_reducible first | exact HB.out | apply below_alloc | apply pw_below_drewN | apply below_drew1) | exact HB.out)⟩⟩
                                · rw [if_neg c33] at H
                                  exact absurd H (by simp)
                              · rw [if_neg c31] at H
                                exact absurd H (by simp)
                            · rw [if_neg c30] at H
                              exact absurd H (by simp)
                  · rw [if_neg c15] at H
                    have c15b0 : decide (x6_3 < (t184.length : Int)) = false := decide_eq_false c15
                    clear c15
                    obtain ⟨y190, hy190⟩ : ∃ y_ : List Int, y_ = (([wrap64 (a0)] : List Int)) := ⟨_, rfl⟩
                    replace H : ((impl_Seq.f k3 y190).bind fun t193 => (some (t193.toList == x5_3.toList))) = some r := by first | (rw [hy190]; with_reducible exact H) | (have H2_ := (Option.bind_some _ _).symm.trans H; rw [hy190]; with_reducible exact H2_) | (have H2_ := (Option.bind_some _ _).symm.trans H; with_reducible exact H2_) | with_reducible exact H | (rw [hy190]; exact H) | exact H
                    have Ny190 := Aside0.mk hy190
                    clear hy190
                    replace H := Option.bind_eq_some_iff.mp H
                    obtain ⟨t193, A350, H⟩ := H
                    replace H : (some (t193.toList == x5_3.toList)) = some r := H
                    have A35 := Aside0.mk A350
                    clear A350
                    obtain rfl := Option.some.inj H
                    obtain ⟨Ao36, co36, eo36⟩ := Kd.R_slice HO_3.out
                    subst eo36
                    go_wp2_with (first | ((with_reducible refine gate_dst (N := 65) rfl ?_); (try (refine gate_guard (by rfl) ?_; dsimp only)); refine Kd.R_lit (Kd.int .i64) _ 2 ?hg (N := 65) ?hd (xs := ([wrap64 (a0)] : List Int)) (inner := [.int .i64 (wrap64 (a0))]) (ok := fun _ => True) (okp := fun _ => True) ?hr ?hp (fun _ hk => hk) trivial (Below.refl _ _) (Nat.le_refl _) (by simp) ?_; (case hd => rfl); (case hg => rfl); (case hr => first | (go_simp; done) | (go_simp; rfl)); (case hp => exact (Reps.one (show Kd.M (Kd.int .i64) _ _ _ (wrap64 (a0)) [.int .i64 (wrap64 (a0))] from rfl) (Reps.none _ _))); intro v191 w37 ho38 hb hg_ hnew_; clear hg_ hnew_; (first | rw [← Ny190.out] at ho38 | (simp only [Int.reduceToNat] at ho38; rw [← Ny190.out] at ho38)); have n0_ := Aside0.mk (Kd.R_below (by (with_reducible repeat (first | apply Kd.R_alloc | apply Kd.R_drewN | apply Kd.R_drew)); exact HO_3.out) hb); have n1_ := Aside0.mk (Kd.R_below (by (with_reducible repeat (first | apply Kd.R_alloc | apply Kd.R_drewN | apply Kd.R_drew)); exact HO_4.out) hb); have n2_ := Aside0.mk (Kd.R_lower ho38 (below_size (by repeat (first | (with_reducible first | exact HB.out | apply below_alloc | apply pw_below_drewN | apply below_drew1) | exact HB.out)))); have n3_ := Aside0.mk (below_step (by repeat (first | (with_reducible first | exact HB.out | apply below_alloc | apply pw_below_drewN | apply below_drew1) | exact HB.out)) hb); clear HO_3; clear HO_4; clear HB; have HO_3 := n0_; have HO_4 := n1_; have HO192 := n2_; have HB := n3_; clear n0_ n1_ n2_ n3_; clear hb ho38; obtain ⟨Ao39, co39, eo39⟩ := Kd.R_slice HO192.out; subst eo39) | ((with_reducible refine gate_callee (f := 8) rfl ?_); refine goesL_ (some 66) rfl rfl Tryd.func8 (by kernel_rfl) rfl #[.slice Ao39 y190.length co39] rfl (by (try simp only [List.map_toArray, List.map_cons, List.map_nil]); first | done | rfl | (simp only [List.length_drop, List.length_take]; rfl)) ?_; (with_reducible refine (impl_Seq.calls k3 _ _ y190 t193 _ (by first | exact TT_.out | exact TT_.out.below (by repeat (first | (with_reducible first | exact HB.out | apply below_alloc | apply pw_below_drewN | apply below_drew1) | exact HB.out))) ?side1 ?side2 A35.out).mono ?_); (case side1 => repeat (first | exact (Kd.R_reads' HO192.out).2.2 | (with_reducible refine Kd.C_alloc ?_ _) | (with_reducible refine Kd.C_drewN ?_ _) | (with_reducible refine Kd.C_drew ?_))); (case side2 => exact (Kd.R_reads' HO192.out).2.1); rintro e w40 ⟨rfl, hb⟩; refine ⟨_, rfl, ?_⟩; have n0_ := Aside0.mk (Kd.R_below (by (with_reducible repeat (first | apply Kd.R_alloc | apply Kd.R_drewN | apply Kd.R_drew)); exact HO_3.out) hb); have n1_ := Aside0.mk (Kd.R_below (by (with_reducible repeat (first | apply Kd.R_alloc | apply Kd.R_drewN | apply Kd.R_drew)); exact HO_4.out) hb); have n2_ := Aside0.mk (Kd.R_below (by (with_reducible repeat (first | apply Kd.R_alloc | apply Kd.R_drewN | apply Kd.R_drew)); exact HO192.out) hb); have n3_ := Aside0.mk (below_step (by repeat (first | (with_reducible first | exact HB.out | apply below_alloc | apply pw_below_drewN | apply below_drew1) | exact HB.out)) hb); clear HO_3; clear HO_4; clear HO192; clear HB; have HO_3 := n0_; have HO_4 := n1_; have HO192 := n2_; have HB := n3_; clear n0_ n1_ n2_ n3_; (try clear hb); (try clear hb2); (try clear hk); (try clear hi)))
                    go_ret
                    exact ⟨by first | rfl | (simp [errW_none, errW_some] <;> rfl) | (simp [*, errW_none, errW_some] <;> rfl), by repeat (first | (with_reducible first | exact HB.out | apply below_alloc | apply pw_below_drewN | apply below_drew1) | exact HB.out)⟩

/-- THE ONE PURE STATEMENT of laws_FnSeqUntil: yours. -/
def laws_FnSeqUntil.Pure : Prop := ∀ (a0 : Int), (Lit.int .u8 a0).wf = true → ∃ k, laws_FnSeqUntil.f k a0 = some true
theorem laws_FnSeqUntil.walk (P : laws_FnSeqUntil.Pure) (a0 : Int) (w : World) (T : Giv.Pow10 w) (w0 : (Lit.int .u8 a0).wf = true) :
    Calls Tryd.prog 3 #[.int .u8 a0] w fun e w' => e = .returned (.bool true) ∧ Below w.heap.size w w' := by
  have TT_ := Aside0.mk T
  clear T
  obtain ⟨k, h⟩ := P a0 w0
  refine (laws_FnSeqUntil.calls k a0 true w TT_.out h).mono ?_
  rintro e w' ⟨rfl, hd⟩
  exact ⟨rfl, hd⟩


end Go.Proofs.YtjhpjciemfeafaaDoor.PFnSeqUntil
