-- Written by gprint.py (a program of this session, over the kit's print) out of Lean's own print of the program.
import Derived.Test.YtddddjdcnlidfaaDoorPFnMulx0
namespace Go.Proofs.YtddddjdcnlidfaaDoor.PFnMul
open Go.Proofs.YtddddjdcnlidfaaDoor.Giv
open Go.RowKit Go.Proofs.YtddddjdcnlidfaaDoorW.PrintWords Go.Proofs.YtddddjdcnlidfaaDoorW.PrintLast Go.Proofs.YtddddjdcnlidfaaDoorW.PrintMore
attribute [local go_sem] max2_int min2_int max_two min_two max_three min_three max_four min_four   -- for this text's walks alone
set_option linter.unusedVariables false
set_option linter.unusedSimpArgs false

/-! ### spec_Product: function 22 -/
def spec_Product.l0 : Nat → Int → List Int → Int → Option (Int)
  | 0, _, _, _ => none
  | k + 1, x0, x1, x5 => if x5 < (x1.length : Int) then (if 0 ≤ x5 then (spec_Product.l0 k (wrap64 (x0 * (rd x1 x5))) x1 (wrap64 (x5 + 1))) else (none)) else (some x0)
def spec_Product.f (k : Nat) (a0 : Int) (l1 : List Int) : Option (Int) := spec_Product.l0 k a0 l1 0
theorem spec_Product.mono_l : ∀ k, (∀ y0 y1 y2, LeO (spec_Product.l0 k y0 y1 y2) (spec_Product.l0 (k + 1) y0 y1 y2))
  | 0 => fun _ _ _ r h => by simp [spec_Product.l0] at h
  | k + 1 => by
    have ih0 := spec_Product.mono_l k
    · intro y0 y1 y2
      unfold spec_Product.l0
      repeat' first
      | (with_reducible exact ih0 _ _ _)
      | (with_reducible exact LeO.refl _)
      | (with_reducible exact LeO.none _)
      | (with_reducible refine LeO.ite ?_ ?_)
      | (with_reducible refine LeO.bind ?_ (fun _ => ?_))
      | exact ih0 _ _ _
      | exact LeO.none _
      | refine LeO.ite ?_ ?_
      | refine LeO.bind ?_ (fun _ => ?_)
theorem spec_Product.mono : ∀ a0 a1 k, LeO (spec_Product.f k a0 a1) (spec_Product.f (k + 1) a0 a1) := by
  intro a0 a1 k
  have ih0 := spec_Product.mono_l k
  unfold spec_Product.f
  repeat' first
      | (with_reducible exact ih0 _ _ _)
      | (with_reducible exact LeO.refl _)
      | (with_reducible exact LeO.none _)
      | (with_reducible refine LeO.ite ?_ ?_)
      | (with_reducible refine LeO.bind ?_ (fun _ => ?_))
      | exact ih0 _ _ _
      | exact LeO.none _
      | refine LeO.ite ?_ ?_
      | refine LeO.bind ?_ (fun _ => ?_)
set_option maxHeartbeats 8000000 in
set_option maxRecDepth 100000 in
theorem spec_Product.calls (k : Nat) (a0 : Int) (A1 : Option Addr) (c1 : Nat) (l1 : List Int) (r : Int) (w : World) (hr1 : Kd.C (Kd.int .i64) w A1 l1.length l1) (hc1 : l1.length ≤ c1) (h : spec_Product.f k a0 l1 = some r) :
    Calls Tryd.prog 22 #[.int .i64 a0, .slice A1 l1.length c1] w fun e w' => e = .returned (.int .i64 r) ∧ Drawn0 w w' := by
  have HR1 := Aside0.mk hr1
  have HC1 := Aside0.mk hc1
  clear hr1 hc1
  have H : (spec_Product.l0 k a0 l1 0) = some r := h
  clear h
  have H' := Aside0.mk H
  clear H
  go_enter Tryd.func22, Tryd.ntmps22
  go_wp2
  go_loopg [0, 5] k (fun kq v0 v5 w' => ∃ (x0_1 : Int) (x5_1 : Int), v0 = .int .i64 x0_1 ∧ v5 = .int .i64 x5_1 ∧ Aside0 (spec_Product.l0 kq x0_1 l1 x5_1 = some r) ∧ Aside0 (kq ≤ k) ∧ Drawn0 w w')
  case atStart => exact ⟨(a0), (0), (by first | rfl | (simp; done) | (simp [*]; done)), (by first | rfl | (simp; done) | (simp [*]; done)), H', ⟨Nat.le_refl _⟩, by repeat (first | exact Drawn0.refl _ | apply Drawn0.step)⟩
  case round =>
    clear H'
    try clear c1
    try clear c2
    try clear p2
    obtain ⟨x0_1, x5_1, rfl, rfl, HA, HK1, ⟨m1, rfl⟩⟩ := hrel
    cases gk with
    | zero => exact absurd HA.out (by simp [spec_Product.l0])
    | succ k1 =>
      have H := HA.out
      clear HA
      simp only [spec_Product.l0] at H
      by_cases c3 : x5_1 < (l1.length : Int)
      · rw [if_pos c3] at H
        have c3b0 : decide (x5_1 < (l1.length : Int)) = true := decide_eq_true c3
        clear c3
        by_cases c4 : 0 ≤ x5_1
        · rw [if_pos c4] at H
          have c4b0 : decide (0 ≤ x5_1) = true := decide_eq_true c4
          clear c4
          have H' := Aside0.mk H
          clear H
          have p140 : 0 ≤ (x5_1 : Int) := of_decide_eq_true (by first | (with_reducible assumption) | assumption)
          have q140 : x5_1 < (l1.length : Int) := of_decide_eq_true (by first | (with_reducible assumption) | assumption)
          obtain ⟨ad140, e140, hx140_0⟩ := Kd.at_int HR1.out x5_1 p140 q140
          cases e140
          replace p140 := eq_true p140
          replace q140 := eq_true q140
          go_wp2
          go_roundg k1
          case measure => have := HK1.out; omega
          case rel => exact ⟨(wrap64 (x0_1 * (rd l1 x5_1))), (wrap64 (x5_1 + 1)), (by first | rfl | (simp; done) | (simp [*]; done)), (by first | rfl | (simp; done) | (simp [*]; done)), H', ⟨by have := HK1.out; omega⟩, by repeat (first | exact Drawn0.refl _ | apply Drawn0.step)⟩
        · rw [if_neg c4] at H
          exact absurd H (by simp)
      · rw [if_neg c3] at H
        have c3b0 : decide (x5_1 < (l1.length : Int)) = false := decide_eq_false c3
        clear c3
        obtain rfl := Option.some.inj H
        go_wp2
        go_ret
        exact ⟨by first | rfl | (simp; done) | (simp [*]; done), by repeat (first | exact Drawn0.refl _ | apply Drawn0.step)⟩

/-! ### laws_FnMul: function 6 -/
def laws_FnMul.f (k : Nat) (a0 : Int) (l1 : List Int) : Option (Bool) := if (l1.length : Int) > 2147483647 then (some true) else (if (l1.length : Int) > 50 then (some true) else ((impl_Mul.f a0 l1).bind fun t141 => ((spec_Product.f k a0 l1).bind fun t142 => (if t141 = t142 then ((impl_Mul.f 2 (([3] : List Int))).bind fun t146 => (some (t146 == 6))) else (some false)))))
theorem laws_FnMul.mono : ∀ a0 a1 k, LeO (laws_FnMul.f k a0 a1) (laws_FnMul.f (k + 1) a0 a1) := by
  intro a0 a1 k
  unfold laws_FnMul.f
  repeat' first
      | (with_reducible exact spec_Product.mono _ _ _)
      | (with_reducible exact LeO.refl _)
      | (with_reducible exact LeO.none _)
      | (with_reducible refine LeO.ite ?_ ?_)
      | (with_reducible refine LeO.bind ?_ (fun _ => ?_))
      | exact spec_Product.mono _ _ _
      | exact LeO.none _
      | refine LeO.ite ?_ ?_
      | refine LeO.bind ?_ (fun _ => ?_)
set_option maxHeartbeats 8000000 in
set_option maxRecDepth 100000 in
theorem laws_FnMul.calls (k : Nat) (a0 : Int) (A1 : Option Addr) (c1 : Nat) (l1 : List Int) (r : Bool) (w : World) (hr1 : Kd.C (Kd.int .i64) w A1 l1.length l1) (hc1 : l1.length ≤ c1) (h : laws_FnMul.f k a0 l1 = some r) :
    Calls Tryd.prog 6 #[.int .i64 a0, .slice A1 l1.length c1] w fun e w' => e = .returned (.bool r) ∧ Below w.heap.size w w' := by
  have HR1 := Aside0.mk hr1
  have HC1 := Aside0.mk hc1
  clear hr1 hc1
  have HB := Aside0.mk (Below.refl w.heap.size w)
  have H : (if (l1.length : Int) > 2147483647 then (some true) else (if (l1.length : Int) > 50 then (some true) else ((impl_Mul.f a0 l1).bind fun t141 => ((spec_Product.f k a0 l1).bind fun t142 => (if t141 = t142 then ((impl_Mul.f 2 (([3] : List Int))).bind fun t146 => (some (t146 == 6))) else (some false)))))) = some r := h
  clear h
  by_cases c3 : (l1.length : Int) > 2147483647
  · rw [if_pos c3] at H
    have c3b0 : decide (2147483647 < (l1.length : Int)) = true := decide_eq_true c3
    have c3b1 : decide (2147483647 < l1.length) = true := decide_eq_true (by omega)
    clear c3
    obtain rfl := Option.some.inj H
    go_enter Tryd.func6, Tryd.ntmps6
    go_wp2
    go_ret
    exact ⟨by first | rfl | (simp [errW_none, errW_some] <;> rfl) | (simp [*, errW_none, errW_some] <;> rfl), by repeat (first | (with_reducible first | exact HB.out | apply below_alloc | apply pw_below_drewN | apply below_drew1) | exact HB.out)⟩
  · rw [if_neg c3] at H
    have c3b0 : decide (2147483647 < (l1.length : Int)) = false := decide_eq_false c3
    have c3b1 : decide (2147483647 < l1.length) = false := decide_eq_false (by omega)
    clear c3
    by_cases c4 : (l1.length : Int) > 50
    · rw [if_pos c4] at H
      have c4b0 : decide (50 < (l1.length : Int)) = true := decide_eq_true c4
      have c4b1 : decide (50 < l1.length) = true := decide_eq_true (by omega)
      clear c4
      obtain rfl := Option.some.inj H
      go_enter Tryd.func6, Tryd.ntmps6
      go_wp2
      go_ret
      exact ⟨by first | rfl | (simp [errW_none, errW_some] <;> rfl) | (simp [*, errW_none, errW_some] <;> rfl), by repeat (first | (with_reducible first | exact HB.out | apply below_alloc | apply pw_below_drewN | apply below_drew1) | exact HB.out)⟩
    · rw [if_neg c4] at H
      have c4b0 : decide (50 < (l1.length : Int)) = false := decide_eq_false c4
      have c4b1 : decide (50 < l1.length) = false := decide_eq_false (by omega)
      clear c4
      replace H := Option.bind_eq_some_iff.mp H
      obtain ⟨t141, A50, H⟩ := H
      replace H : ((spec_Product.f k a0 l1).bind fun t142 => (if t141 = t142 then ((impl_Mul.f 2 (([3] : List Int))).bind fun t146 => (some (t146 == 6))) else (some false))) = some r := H
      have A5 := Aside0.mk A50
      clear A50
      replace H := Option.bind_eq_some_iff.mp H
      obtain ⟨t142, A60, H⟩ := H
      replace H : (if t141 = t142 then ((impl_Mul.f 2 (([3] : List Int))).bind fun t146 => (some (t146 == 6))) else (some false)) = some r := H
      have A6 := Aside0.mk A60
      clear A60
      by_cases c7 : t141 = t142
      · rw [if_pos c7] at H
        have c7b0 : (t141 == t142) = true := beq_iff_eq.mpr c7
        have c7b1 : (t141 != t142) = false := bne_eq_false_iff_eq.mpr c7
        clear c7
        obtain ⟨y143, hy143⟩ : ∃ y_ : List Int, y_ = (([3] : List Int)) := ⟨_, rfl⟩
        replace H : ((impl_Mul.f 2 y143).bind fun t146 => (some (t146 == 6))) = some r := by first | (rw [hy143]; with_reducible exact H) | (have H2_ := (Option.bind_some _ _).symm.trans H; rw [hy143]; with_reducible exact H2_) | (have H2_ := (Option.bind_some _ _).symm.trans H; with_reducible exact H2_) | with_reducible exact H | (rw [hy143]; exact H) | exact H
        have Ny143 := Aside0.mk hy143
        clear hy143
        replace H := Option.bind_eq_some_iff.mp H
        obtain ⟨t146, A80, H⟩ := H
        replace H : (some (t146 == 6)) = some r := H
        have A8 := Aside0.mk A80
        clear A80
        obtain rfl := Option.some.inj H
        go_enter Tryd.func6, Tryd.ntmps6
        go_wp2_with (first | (go_at_call 21; (with_reducible refine (impl_Mul.calls a0 _ _ l1 t141 _ ?side1 ?side2 A5.out).mono ?_); (case side1 => repeat (first | exact HR1.out | (with_reducible refine Kd.C_alloc ?_ _) | (with_reducible refine Kd.C_drewN ?_ _) | (with_reducible refine Kd.C_drew ?_))); (case side2 => exact HC1.out); rintro e w9 ⟨rfl, hb⟩; have n0_ := Aside0.mk (below_step (by repeat (first | (with_reducible first | exact HB.out | apply below_alloc | apply pw_below_drewN | apply below_drew1) | exact HB.out)) hb); clear HB; have HB := n0_; clear n0_; (try clear hb); (try clear hb2); (try clear hk); (try clear hi)) | (go_at_call 22; (with_reducible refine (spec_Product.calls k a0 _ _ l1 t142 _ ?side1 ?side2 A6.out).mono ?_); (case side1 => repeat (first | exact (Kd.C_below HR1.out HB.out) | (with_reducible refine Kd.C_alloc ?_ _) | (with_reducible refine Kd.C_drewN ?_ _) | (with_reducible refine Kd.C_drew ?_))); (case side2 => exact HC1.out); rintro e w' ⟨rfl, ⟨nd, rfl⟩⟩) | ((with_reducible refine gate_dst (N := 20) rfl ?_); (try (refine gate_guard (by rfl) ?_; dsimp only)); refine Kd.R_lit (Kd.int .i64) _ 2 ?hg (N := 20) ?hd (xs := ([3] : List Int)) (inner := [.int .i64 3]) (ok := fun _ => True) (okp := fun _ => True) ?hr ?hp (fun _ hk => hk) trivial (Below.refl _ _) (Nat.le_refl _) (by simp) ?_; (case hd => rfl); (case hg => rfl); (case hr => first | (go_simp; done) | (go_simp; rfl)); (case hp => exact (Reps.one (show Kd.M (Kd.int .i64) _ _ _ 3 [.int .i64 3] from rfl) (Reps.none _ _))); intro v144 w10 ho11 hb hg_ hnew_; clear hg_ hnew_; (first | rw [← Ny143.out] at ho11 | (simp only [Int.reduceToNat] at ho11; rw [← Ny143.out] at ho11)); have n0_ := Aside0.mk (Kd.R_lower ho11 (below_size (by repeat (first | (with_reducible first | exact HB.out | apply below_alloc | apply pw_below_drewN | apply below_drew1) | exact HB.out)))); have n1_ := Aside0.mk (below_step (by repeat (first | (with_reducible first | exact HB.out | apply below_alloc | apply pw_below_drewN | apply below_drew1) | exact HB.out)) hb); clear HB; have HO145 := n0_; have HB := n1_; clear n0_ n1_; clear hb ho11; obtain ⟨Ao12, co12, eo12⟩ := Kd.R_slice HO145.out; subst eo12) | (go_at_call 21; (with_reducible refine (impl_Mul.calls 2 _ _ y143 t146 _ ?side1 ?side2 A8.out).mono ?_); (case side1 => repeat (first | exact (Kd.R_reads' HO145.out).2.2 | (with_reducible refine Kd.C_alloc ?_ _) | (with_reducible refine Kd.C_drewN ?_ _) | (with_reducible refine Kd.C_drew ?_))); (case side2 => exact (Kd.R_reads' HO145.out).2.1); rintro e w13 ⟨rfl, hb⟩; have n0_ := Aside0.mk (Kd.R_below (by (with_reducible repeat (first | apply Kd.R_alloc | apply Kd.R_drewN | apply Kd.R_drew)); exact HO145.out) hb); have n1_ := Aside0.mk (below_step (by repeat (first | (with_reducible first | exact HB.out | apply below_alloc | apply pw_below_drewN | apply below_drew1) | exact HB.out)) hb); clear HO145; clear HB; have HO145 := n0_; have HB := n1_; clear n0_ n1_; (try clear hb); (try clear hb2); (try clear hk); (try clear hi)))
        go_ret
        exact ⟨by first | rfl | (simp [errW_none, errW_some] <;> rfl) | (simp [*, errW_none, errW_some] <;> rfl), by repeat (first | (with_reducible first | exact HB.out | apply below_alloc | apply pw_below_drewN | apply below_drew1) | exact HB.out)⟩
      · rw [if_neg c7] at H
        have c7b0 : (t141 == t142) = false := beq_eq_false_iff_ne.mpr c7
        have c7b1 : (t141 != t142) = true := bne_iff_ne.mpr c7
        obtain rfl := Option.some.inj H
        go_enter Tryd.func6, Tryd.ntmps6
        go_wp2_with (first | (go_at_call 21; (with_reducible refine (impl_Mul.calls a0 _ _ l1 t141 _ ?side1 ?side2 A5.out).mono ?_); (case side1 => repeat (first | exact HR1.out | (with_reducible refine Kd.C_alloc ?_ _) | (with_reducible refine Kd.C_drewN ?_ _) | (with_reducible refine Kd.C_drew ?_))); (case side2 => exact HC1.out); rintro e w14 ⟨rfl, hb⟩; have n0_ := Aside0.mk (below_step (by repeat (first | (with_reducible first | exact HB.out | apply below_alloc | apply pw_below_drewN | apply below_drew1) | exact HB.out)) hb); clear HB; have HB := n0_; clear n0_; (try clear hb); (try clear hb2); (try clear hk); (try clear hi)) | (go_at_call 22; (with_reducible refine (spec_Product.calls k a0 _ _ l1 t142 _ ?side1 ?side2 A6.out).mono ?_); (case side1 => repeat (first | exact (Kd.C_below HR1.out HB.out) | (with_reducible refine Kd.C_alloc ?_ _) | (with_reducible refine Kd.C_drewN ?_ _) | (with_reducible refine Kd.C_drew ?_))); (case side2 => exact HC1.out); rintro e w' ⟨rfl, ⟨nd, rfl⟩⟩))
        go_ret
        exact ⟨by first | rfl | (simp [errW_none, errW_some] <;> rfl) | (simp [*, errW_none, errW_some] <;> rfl), by repeat (first | (with_reducible first | exact HB.out | apply below_alloc | apply pw_below_drewN | apply below_drew1) | exact HB.out)⟩

/-- THE ONE PURE STATEMENT of laws_FnMul: yours. -/
def laws_FnMul.Pure : Prop := ∀ (a0 : Int) (l1 : List Int), (Lit.int .i64 a0).wf = true → l1.length ≤ maxLen → l1.length * 8 ≤ 140737488351232 → (∀ x ∈ l1, (Lit.int .i64 x).wf = true) → ∃ k, laws_FnMul.f k a0 l1 = some true
theorem laws_FnMul.walk (P : laws_FnMul.Pure) (a0 : Int) (a1 : Option Addr) (len1 cap1 : Nat) (z1 : List Int) (w : World) (w0 : (Lit.int .i64 a0).wf = true) (w1 : (a1 = none ∧ len1 = 0 ∧ cap1 = 0 ∧ z1 = []) ∨ ∃ x, a1 = some x ∧ len1 ≤ cap1 ∧ cap1 ≤ maxLen ∧ z1.length = cap1 ∧ (∀ i, i < z1.length → w.cell? (x.add i) = some (.int .i64 (z1.getD i 0))) ∧ ∀ n ∈ z1, (Lit.int .i64 n).wf = true) (y1 : len1 * 8 ≤ 140737488351232) :
    Calls Tryd.prog 6 #[.int .i64 a0, .slice a1 len1 cap1] w fun e w' => e = .returned (.bool true) ∧ Below w.heap.size w w' := by
  obtain ⟨l1, rfl, hr1, hm1, hw1, hc1⟩ := ReadsInt.ofRowC w1
  obtain ⟨k, h⟩ := P a0 l1 w0 hm1 y1 hw1
  refine (laws_FnMul.calls k a0 _ _ l1 true w (Kd.C_of_reads (d := (0 : Int)) (h1 := fun _ => rfl) hr1) hc1 h).mono ?_
  rintro e w' ⟨rfl, hd⟩
  exact ⟨rfl, hd⟩


end Go.Proofs.YtddddjdcnlidfaaDoor.PFnMul
