-- PRINTED BY print.sh 35421559b90ae4d0a3588c463048766b98c2df88dd9212a6774a882060cdf62d: not written by this session
import Derived.Test.YtjpocldnibmopaaPFnUntilx0
import Derived.Test.YtjpocldnibmopaaPFnUntilx1
namespace Go.Proofs.Ytjpocldnibmopaa.PFnUntil
open Go.RowKit Go.Proofs.YtjpocldnibmopaaW.PrintWords Go.Proofs.YtjpocldnibmopaaW.PrintLast Go.Proofs.YtjpocldnibmopaaW.PrintMore
attribute [local go_sem] max2_int min2_int max_two min_two max_three min_three max_four min_four   -- for this text's walks alone
set_option linter.unusedVariables false
set_option linter.unusedSimpArgs false

/-! ### impl_UntilStep: function 27 -/
def impl_UntilStep.f (k : Nat) (a0 : Int) (a1 : Int) (a2 : Int) : Option (List Int) := (sprig_UntilStep.f k a0 a1 a2).bind fun t136 => (some t136)
theorem impl_UntilStep.mono : ∀ a0 a1 a2 k, LeO (impl_UntilStep.f k a0 a1 a2) (impl_UntilStep.f (k + 1) a0 a1 a2) := by
  intro a0 a1 a2 k
  unfold impl_UntilStep.f
  repeat' first
      | (with_reducible exact sprig_UntilStep.mono _ _ _ _)
      | (with_reducible exact LeO.refl _)
      | (with_reducible exact LeO.none _)
      | (with_reducible refine LeO.ite ?_ ?_)
      | (with_reducible refine LeO.bind ?_ (fun _ => ?_))
      | exact sprig_UntilStep.mono _ _ _ _
      | exact LeO.none _
      | refine LeO.ite ?_ ?_
      | refine LeO.bind ?_ (fun _ => ?_)
set_option maxHeartbeats 8000000 in
set_option maxRecDepth 100000 in
theorem impl_UntilStep.calls (k : Nat) (a0 : Int) (a1 : Int) (a2 : Int) (r : List Int) (w : World) (h : impl_UntilStep.f k a0 a1 a2 = some r) :
    Calls Try.prog 27 #[.int .i64 a0, .int .i64 a1, .int .i64 a2] w fun e w' => ∃ v0_ : Value, e = .returned (v0_) ∧ Kd.R (Kd.int .i64) 3 w' w.heap.size (fun _ => True) v0_ r ∧ Below w.heap.size w w' := by
  have HB := Aside0.mk (Below.refl w.heap.size w)
  have H : ((sprig_UntilStep.f k a0 a1 a2).bind fun t136 => (some t136)) = some r := h
  clear h
  replace H := Option.bind_eq_some_iff.mp H
  obtain ⟨t136, A40, H⟩ := H
  replace H : (some t136) = some r := H
  have A4 := Aside0.mk A40
  clear A40
  obtain rfl := Option.some.inj H
  go_enter Try.func27, Try.ntmps27
  go_wp2_with (first | ((with_reducible refine gate_callee (f := 48) rfl ?_); refine goesL_ (some 10) rfl rfl Try.func48 (by kernel_rfl) rfl #[.int .i64 a0, .int .i64 a1, .int .i64 a2] rfl (by (try simp only [List.map_toArray, List.map_cons, List.map_nil]); first | done | rfl | (simp only [List.length_drop, List.length_take]; rfl)) ?_; (with_reducible refine (sprig_UntilStep.calls k a0 a1 a2 t136 _ A4.out).mono ?_); rintro e w5 ⟨v137, rfl, ho0, hb⟩; refine ⟨_, rfl, ?_⟩; have n0_ := Aside0.mk (Kd.R_lower ho0 (below_size (by repeat (first | (with_reducible first | exact HB.out | apply below_alloc | apply pw_below_drewN | apply below_drew1) | exact HB.out)))); have n1_ := Aside0.mk (below_step (by repeat (first | (with_reducible first | exact HB.out | apply below_alloc | apply pw_below_drewN | apply below_drew1) | exact HB.out)) hb); clear HB; have HO138 := n0_; have HB := n1_; clear n0_ n1_; (try clear hb); (try clear hb2); (try clear hk); (try clear hi); (try clear ho0)))
  go_ret
  exact ⟨_, by first | rfl | (simp [errW_none, errW_some] <;> rfl) | (simp [*, errW_none, errW_some] <;> rfl), by (with_reducible repeat (first | apply Kd.R_alloc | apply Kd.R_drewN | apply Kd.R_drew)); exact HO138.out, by repeat (first | (with_reducible first | exact HB.out | apply below_alloc | apply pw_below_drewN | apply below_drew1) | exact HB.out)⟩

/-! ### laws_FnUntil: function 8 -/
def laws_FnUntil.j0 : Nat → Int → Int → Int → Int → Int → Option (Bool)
  | 0, _, _, _, _, _ => none
  | k + 1, x9, x10, x11, x12, x13 => (spec_Row.f k 0 x9 x13).bind fun bt139 => ((impl_Until.f k x9).bind fun t143 => ((laws_same7.f k t143 bt139.1).bind fun t146 => (if t146 = true then ((spec_Row.f k x10 x11 x12).bind fun bt147 => (if bt147.2 = true then ((impl_UntilStep.f k x10 x11 x12).bind fun t151 => ((laws_same7.f k t151 bt147.1).bind fun t154 => (if t154 = true then ((impl_UntilStep.f k 3 6 2).bind fun t155 => (some ((t155.length : Int) == 2))) else (some false)))) else ((impl_Until.f k 2).bind fun t158 => (some ((t158.length : Int) == 2))))) else (some false))))
def laws_FnUntil.f (k : Nat) (a0 : Int) (a1 : Int) (a2 : Int) (a3 : Int) : Option (Bool) := if (Int.tmod (wrap64 (a0)) 301) < 0 then (laws_FnUntil.j0 k (Int.tmod (wrap64 (a0)) 301) (Int.tmod (wrap64 (a1)) 301) (Int.tmod (wrap64 (a2)) 301) (Int.tmod (wrap64 (a3)) 301) (-1)) else (laws_FnUntil.j0 k (Int.tmod (wrap64 (a0)) 301) (Int.tmod (wrap64 (a1)) 301) (Int.tmod (wrap64 (a2)) 301) (Int.tmod (wrap64 (a3)) 301) 1)
theorem laws_FnUntil.mono_l : ∀ k, (∀ y0 y1 y2 y3 y4, LeO (laws_FnUntil.j0 k y0 y1 y2 y3 y4) (laws_FnUntil.j0 (k + 1) y0 y1 y2 y3 y4))
  | 0 => fun _ _ _ _ _ r h => by simp [laws_FnUntil.j0] at h
  | k + 1 => by
    have ih0 := laws_FnUntil.mono_l k
    · intro y0 y1 y2 y3 y4
      unfold laws_FnUntil.j0
      repeat' first
      | (with_reducible exact ih0 _ _ _ _ _)
      | (with_reducible exact impl_Until.mono _ _)
      | (with_reducible exact impl_UntilStep.mono _ _ _ _)
      | (with_reducible exact laws_same7.mono _ _ _)
      | (with_reducible exact spec_Row.mono _ _ _ _)
      | (with_reducible exact LeO.refl _)
      | (with_reducible exact LeO.none _)
      | (with_reducible refine LeO.ite ?_ ?_)
      | (with_reducible refine LeO.bind ?_ (fun _ => ?_))
      | exact ih0 _ _ _ _ _
      | exact impl_Until.mono _ _
      | exact impl_UntilStep.mono _ _ _ _
      | exact laws_same7.mono _ _ _
      | exact spec_Row.mono _ _ _ _
      | exact LeO.none _
      | refine LeO.ite ?_ ?_
      | refine LeO.bind ?_ (fun _ => ?_)
theorem laws_FnUntil.mono : ∀ a0 a1 a2 a3 k, LeO (laws_FnUntil.f k a0 a1 a2 a3) (laws_FnUntil.f (k + 1) a0 a1 a2 a3) := by
  intro a0 a1 a2 a3 k
  have ih0 := laws_FnUntil.mono_l k
  unfold laws_FnUntil.f
  repeat' first
      | (with_reducible exact ih0 _ _ _ _ _)
      | (with_reducible exact impl_Until.mono _ _)
      | (with_reducible exact impl_UntilStep.mono _ _ _ _)
      | (with_reducible exact laws_same7.mono _ _ _)
      | (with_reducible exact spec_Row.mono _ _ _ _)
      | (with_reducible exact LeO.refl _)
      | (with_reducible exact LeO.none _)
      | (with_reducible refine LeO.ite ?_ ?_)
      | (with_reducible refine LeO.bind ?_ (fun _ => ?_))
      | exact ih0 _ _ _ _ _
      | exact impl_Until.mono _ _
      | exact impl_UntilStep.mono _ _ _ _
      | exact laws_same7.mono _ _ _
      | exact spec_Row.mono _ _ _ _
      | exact LeO.none _
      | refine LeO.ite ?_ ?_
      | refine LeO.bind ?_ (fun _ => ?_)
set_option maxHeartbeats 8000000 in
set_option maxRecDepth 100000 in
theorem laws_FnUntil.calls (k : Nat) (a0 : Int) (a1 : Int) (a2 : Int) (a3 : Int) (r : Bool) (w : World) (h : laws_FnUntil.f k a0 a1 a2 a3 = some r) :
    Calls Try.prog 8 #[.int .i16 a0, .int .i16 a1, .int .i16 a2, .int .i16 a3] w fun e w' => e = .returned (.bool r) ∧ Below w.heap.size w w' := by
  have HB := Aside0.mk (Below.refl w.heap.size w)
  have H : (if (Int.tmod (wrap64 (a0)) 301) < 0 then (laws_FnUntil.j0 k (Int.tmod (wrap64 (a0)) 301) (Int.tmod (wrap64 (a1)) 301) (Int.tmod (wrap64 (a2)) 301) (Int.tmod (wrap64 (a3)) 301) (-1)) else (laws_FnUntil.j0 k (Int.tmod (wrap64 (a0)) 301) (Int.tmod (wrap64 (a1)) 301) (Int.tmod (wrap64 (a2)) 301) (Int.tmod (wrap64 (a3)) 301) 1)) = some r := h
  clear h
  have HC5 := Aside0.mk H
  clear H
  go_enter Try.func8, Try.ntmps8
  go_upto_if 31 with (fail)
  go_cut [13] (fun v13 wc => ∃ (kq : Nat) (x13_4 : Int), v13 = .int .i64 x13_4 ∧ Aside0 (laws_FnUntil.j0 kq (Int.tmod (wrap64 (a0)) 301) (Int.tmod (wrap64 (a1)) 301) (Int.tmod (wrap64 (a2)) 301) (Int.tmod (wrap64 (a3)) 301) x13_4 = some r) ∧ Aside0 (kq ≤ k) ∧ Aside0 (Below w.heap.size w wc))
  case first =>
    have H := HC5.out
    clear HC5
    by_cases c6 : (Int.tmod (wrap64 (a0)) 301) < 0
    · rw [if_pos c6] at H
      have c6b0 : decide ((Int.tmod (wrap64 (a0)) 301) < 0) = true := decide_eq_true c6
      clear c6
      (first | rw [c6b0] | (simp only [i64_w, i32_w]; rw [c6b0]) | skip)
      have H' := Aside0.mk H
      clear H
      go_wp2
      go_meet
      case rel => exact ⟨_, ((-1)), (by first | rfl | (simp; done) | (simp [*]; done)), H', ⟨by first | omega | exact Nat.le_refl _⟩, ⟨by repeat (first | (with_reducible first | exact HB.out | apply below_alloc | apply pw_below_drewN | apply below_drew1) | exact HB.out)⟩⟩
    · rw [if_neg c6] at H
      have c6b0 : decide ((Int.tmod (wrap64 (a0)) 301) < 0) = false := decide_eq_false c6
      clear c6
      (first | rw [c6b0] | (simp only [i64_w, i32_w]; rw [c6b0]) | skip)
      have H' := Aside0.mk H
      clear H
      go_wp2
      go_meet
      case rel => exact ⟨_, (1), (by first | rfl | (simp; done) | (simp [*]; done)), H', ⟨by first | omega | exact Nat.le_refl _⟩, ⟨by repeat (first | (with_reducible first | exact HB.out | apply below_alloc | apply pw_below_drewN | apply below_drew1) | exact HB.out)⟩⟩
  case rest =>
    clear HC5
    try clear p2
    try clear c6
    try clear c6b0
    try clear p6
    obtain ⟨kq, x13_4, rfl, HA, HJ4, HB⟩ := hcut
    cases kq with
    | zero => exact absurd HA.out (by simp [laws_FnUntil.j0])
    | succ kj4 =>
      have H := HA.out
      clear HA
      simp only [laws_FnUntil.j0] at H
      replace H := Option.bind_eq_some_iff.mp H
      obtain ⟨⟨t139, t140⟩, A70, H⟩ := H
      replace H : ((impl_Until.f kj4 (Int.tmod (wrap64 (a0)) 301)).bind fun t143 => ((laws_same7.f kj4 t143 t139).bind fun t146 => (if t146 = true then ((spec_Row.f kj4 (Int.tmod (wrap64 (a1)) 301) (Int.tmod (wrap64 (a2)) 301) (Int.tmod (wrap64 (a3)) 301)).bind fun bt147 => (if bt147.2 = true then ((impl_UntilStep.f kj4 (Int.tmod (wrap64 (a1)) 301) (Int.tmod (wrap64 (a2)) 301) (Int.tmod (wrap64 (a3)) 301)).bind fun t151 => ((laws_same7.f kj4 t151 bt147.1).bind fun t154 => (if t154 = true then ((impl_UntilStep.f kj4 3 6 2).bind fun t155 => (some ((t155.length : Int) == 2))) else (some false)))) else ((impl_Until.f kj4 2).bind fun t158 => (some ((t158.length : Int) == 2))))) else (some false)))) = some r := H
      have A7 := Aside0.mk A70
      clear A70
      replace H := Option.bind_eq_some_iff.mp H
      obtain ⟨t143, A80, H⟩ := H
      replace H : ((laws_same7.f kj4 t143 t139).bind fun t146 => (if t146 = true then ((spec_Row.f kj4 (Int.tmod (wrap64 (a1)) 301) (Int.tmod (wrap64 (a2)) 301) (Int.tmod (wrap64 (a3)) 301)).bind fun bt147 => (if bt147.2 = true then ((impl_UntilStep.f kj4 (Int.tmod (wrap64 (a1)) 301) (Int.tmod (wrap64 (a2)) 301) (Int.tmod (wrap64 (a3)) 301)).bind fun t151 => ((laws_same7.f kj4 t151 bt147.1).bind fun t154 => (if t154 = true then ((impl_UntilStep.f kj4 3 6 2).bind fun t155 => (some ((t155.length : Int) == 2))) else (some false)))) else ((impl_Until.f kj4 2).bind fun t158 => (some ((t158.length : Int) == 2))))) else (some false))) = some r := H
      have A8 := Aside0.mk A80
      clear A80
      replace H := Option.bind_eq_some_iff.mp H
      obtain ⟨t146, A90, H⟩ := H
      replace H : (if t146 = true then ((spec_Row.f kj4 (Int.tmod (wrap64 (a1)) 301) (Int.tmod (wrap64 (a2)) 301) (Int.tmod (wrap64 (a3)) 301)).bind fun bt147 => (if bt147.2 = true then ((impl_UntilStep.f kj4 (Int.tmod (wrap64 (a1)) 301) (Int.tmod (wrap64 (a2)) 301) (Int.tmod (wrap64 (a3)) 301)).bind fun t151 => ((laws_same7.f kj4 t151 bt147.1).bind fun t154 => (if t154 = true then ((impl_UntilStep.f kj4 3 6 2).bind fun t155 => (some ((t155.length : Int) == 2))) else (some false)))) else ((impl_Until.f kj4 2).bind fun t158 => (some ((t158.length : Int) == 2))))) else (some false)) = some r := H
      have A9 := Aside0.mk A90
      clear A90
      by_cases c10 : t146 = true
      · subst c10
        have H1 : ((spec_Row.f kj4 (Int.tmod (wrap64 (a1)) 301) (Int.tmod (wrap64 (a2)) 301) (Int.tmod (wrap64 (a3)) 301)).bind fun bt147 => (if bt147.2 = true then ((impl_UntilStep.f kj4 (Int.tmod (wrap64 (a1)) 301) (Int.tmod (wrap64 (a2)) 301) (Int.tmod (wrap64 (a3)) 301)).bind fun t151 => ((laws_same7.f kj4 t151 bt147.1).bind fun t154 => (if t154 = true then ((impl_UntilStep.f kj4 3 6 2).bind fun t155 => (some ((t155.length : Int) == 2))) else (some false)))) else ((impl_Until.f kj4 2).bind fun t158 => (some ((t158.length : Int) == 2))))) = some r := by rw [if_pos rfl] at H; exact H
        clear H
        have H := H1
        clear H1
        replace H := Option.bind_eq_some_iff.mp H
        obtain ⟨⟨t147, t148⟩, A110, H⟩ := H
        replace H : (if t148 = true then ((impl_UntilStep.f kj4 (Int.tmod (wrap64 (a1)) 301) (Int.tmod (wrap64 (a2)) 301) (Int.tmod (wrap64 (a3)) 301)).bind fun t151 => ((laws_same7.f kj4 t151 t147).bind fun t154 => (if t154 = true then ((impl_UntilStep.f kj4 3 6 2).bind fun t155 => (some ((t155.length : Int) == 2))) else (some false)))) else ((impl_Until.f kj4 2).bind fun t158 => (some ((t158.length : Int) == 2)))) = some r := H
        have A11 := Aside0.mk A110
        clear A110
        by_cases c12 : t148 = true
        · subst c12
          have H1 : ((impl_UntilStep.f kj4 (Int.tmod (wrap64 (a1)) 301) (Int.tmod (wrap64 (a2)) 301) (Int.tmod (wrap64 (a3)) 301)).bind fun t151 => ((laws_same7.f kj4 t151 t147).bind fun t154 => (if t154 = true then ((impl_UntilStep.f kj4 3 6 2).bind fun t155 => (some ((t155.length : Int) == 2))) else (some false)))) = some r := by rw [if_pos rfl] at H; exact H
          clear H
          have H := H1
          clear H1
          replace H := Option.bind_eq_some_iff.mp H
          obtain ⟨t151, A130, H⟩ := H
          replace H : ((laws_same7.f kj4 t151 t147).bind fun t154 => (if t154 = true then ((impl_UntilStep.f kj4 3 6 2).bind fun t155 => (some ((t155.length : Int) == 2))) else (some false))) = some r := H
          have A13 := Aside0.mk A130
          clear A130
          replace H := Option.bind_eq_some_iff.mp H
          obtain ⟨t154, A140, H⟩ := H
          replace H : (if t154 = true then ((impl_UntilStep.f kj4 3 6 2).bind fun t155 => (some ((t155.length : Int) == 2))) else (some false)) = some r := H
          have A14 := Aside0.mk A140
          clear A140
          by_cases c15 : t154 = true
          · subst c15
            have H1 : ((impl_UntilStep.f kj4 3 6 2).bind fun t155 => (some ((t155.length : Int) == 2))) = some r := by rw [if_pos rfl] at H; exact H
            clear H
            have H := H1
            clear H1
            replace H := Option.bind_eq_some_iff.mp H
            obtain ⟨t155, A160, H⟩ := H
            replace H : (some ((t155.length : Int) == 2)) = some r := H
            have A16 := Aside0.mk A160
            clear A160
            obtain rfl := Option.some.inj H
            go_wp2_with (first | ((with_reducible refine gate_callee (f := 24) rfl ?_); refine goesL_ (some 35) rfl rfl Try.func24 (by kernel_rfl) rfl #[.int .i64 0, .int .i64 (Int.tmod (wrap64 (a0)) 301), .int .i64 x13_4] rfl (by (try simp only [List.map_toArray, List.map_cons, List.map_nil]); first | done | rfl | (simp only [List.length_drop, List.length_take]; rfl)) ?_; (with_reducible refine (spec_Row.calls kj4 0 (Int.tmod (wrap64 (a0)) 301) x13_4 t139 t140 _ A7.out).mono ?_); rintro e w17 ⟨v141, rfl, ho0, hb⟩; refine ⟨_, rfl, ?_⟩; have n0_ := Aside0.mk (Kd.R_lower ho0 (below_size (by repeat (first | (with_reducible first | exact HB.out | apply below_alloc | apply pw_below_drewN | apply below_drew1) | exact HB.out)))); have n1_ := Aside0.mk (below_step (by repeat (first | (with_reducible first | exact HB.out | apply below_alloc | apply pw_below_drewN | apply below_drew1) | exact HB.out)) hb); clear HB; have HO142 := n0_; have HB := n1_; clear n0_ n1_; (try clear hb); (try clear hb2); (try clear hk); (try clear hi); (try clear ho0)) | ((with_reducible refine gate_callee (f := 26) rfl ?_); refine goesL_ (some 39) rfl rfl Try.func26 (by kernel_rfl) rfl #[.int .i64 (Int.tmod (wrap64 (a0)) 301)] rfl (by (try simp only [List.map_toArray, List.map_cons, List.map_nil]); first | done | rfl | (simp only [List.length_drop, List.length_take]; rfl)) ?_; (with_reducible refine (impl_Until.calls kj4 (Int.tmod (wrap64 (a0)) 301) t143 _ A8.out).mono ?_); rintro e w18 ⟨v144, rfl, ho0, hb⟩; refine ⟨_, rfl, ?_⟩; have n0_ := Aside0.mk (Kd.R_below (by (with_reducible repeat (first | apply Kd.R_alloc | apply Kd.R_drewN | apply Kd.R_drew)); exact HO142.out) hb); have n1_ := Aside0.mk (Kd.R_lower ho0 (below_size (by repeat (first | (with_reducible first | exact HB.out | apply below_alloc | apply pw_below_drewN | apply below_drew1) | exact HB.out)))); have n2_ := Aside0.mk (below_step (by repeat (first | (with_reducible first | exact HB.out | apply below_alloc | apply pw_below_drewN | apply below_drew1) | exact HB.out)) hb); clear HO142; clear HB; have HO142 := n0_; have HO145 := n1_; have HB := n2_; clear n0_ n1_ n2_; (try clear hb); (try clear hb2); (try clear hk); (try clear hi); (try clear ho0); obtain ⟨Ao19, co19, eo19⟩ := Kd.R_slice HO145.out; subst eo19; obtain ⟨Ao20, co20, eo20⟩ := Kd.R_slice HO142.out; subst eo20) | ((with_reducible refine gate_callee (f := 25) rfl ?_); refine goesL_ (some 41) rfl rfl Try.func25 (by kernel_rfl) rfl #[.slice Ao19 t143.length co19, .slice Ao20 t139.length co20] rfl (by (try simp only [List.map_toArray, List.map_cons, List.map_nil]); first | done | rfl | (simp only [List.length_drop, List.length_take]; rfl)) ?_; (with_reducible refine (laws_same7.calls kj4 _ _ t143 _ _ t139 true _ ?side1 ?side2 ?side3 ?side4 A9.out).mono ?_); (case side1 => repeat (first | exact (Kd.R_reads' HO145.out).2.2 | (with_reducible refine Kd.C_alloc ?_ _) | (with_reducible refine Kd.C_drewN ?_ _) | (with_reducible refine Kd.C_drew ?_))); (case side2 => exact (Kd.R_reads' HO145.out).2.1); (case side3 => repeat (first | exact (Kd.R_reads' HO142.out).2.2 | (with_reducible refine Kd.C_alloc ?_ _) | (with_reducible refine Kd.C_drewN ?_ _) | (with_reducible refine Kd.C_drew ?_))); (case side4 => exact (Kd.R_reads' HO142.out).2.1); rintro e w' ⟨rfl, ⟨nd, rfl⟩⟩; refine ⟨_, rfl, ?_⟩) | ((with_reducible refine gate_callee (f := 24) rfl ?_); refine goesL_ (some 47) rfl rfl Try.func24 (by kernel_rfl) rfl #[.int .i64 (Int.tmod (wrap64 (a1)) 301), .int .i64 (Int.tmod (wrap64 (a2)) 301), .int .i64 (Int.tmod (wrap64 (a3)) 301)] rfl (by (try simp only [List.map_toArray, List.map_cons, List.map_nil]); first | done | rfl | (simp only [List.length_drop, List.length_take]; rfl)) ?_; (with_reducible refine (spec_Row.calls kj4 (Int.tmod (wrap64 (a1)) 301) (Int.tmod (wrap64 (a2)) 301) (Int.tmod (wrap64 (a3)) 301) t147 true _ A11.out).mono ?_); rintro e w21 ⟨v149, rfl, ho0, hb⟩; refine ⟨_, rfl, ?_⟩; have n0_ := Aside0.mk (Kd.R_elder' (by (with_reducible repeat (first | apply Kd.R_alloc | apply Kd.R_drewN | apply Kd.R_drew)); exact HO142.out) (Kd.R_base ho0) hb); have n1_ := Aside0.mk (Kd.R_below (by (with_reducible repeat (first | apply Kd.R_alloc | apply Kd.R_drewN | apply Kd.R_drew)); exact HO145.out) hb); have n2_ := Aside0.mk (Kd.R_lower (Kd.R_new' ho0 (Kd.R_lt (by (with_reducible repeat (first | apply Kd.R_alloc | apply Kd.R_drewN | apply Kd.R_drew)); exact HO142.out))) (below_size (by repeat (first | (with_reducible first | exact HB.out | apply below_alloc | apply pw_below_drewN | apply below_drew1) | exact HB.out)))); have n3_ := Aside0.mk (below_step (by repeat (first | (with_reducible first | exact HB.out | apply below_alloc | apply pw_below_drewN | apply below_drew1) | exact HB.out)) hb); clear HO142; clear HO145; clear HB; have HO142 := n0_; have HO145 := n1_; have HO150 := n2_; have HB := n3_; clear n0_ n1_ n2_ n3_; (try clear hb); (try clear hb2); (try clear hk); (try clear hi); (try clear ho0)) | ((with_reducible refine gate_callee (f := 27) rfl ?_); refine goesL_ (some 58) rfl rfl Try.func27 (by kernel_rfl) rfl #[.int .i64 (Int.tmod (wrap64 (a1)) 301), .int .i64 (Int.tmod (wrap64 (a2)) 301), .int .i64 (Int.tmod (wrap64 (a3)) 301)] rfl (by (try simp only [List.map_toArray, List.map_cons, List.map_nil]); first | done | rfl | (simp only [List.length_drop, List.length_take]; rfl)) ?_; (with_reducible refine (impl_UntilStep.calls kj4 (Int.tmod (wrap64 (a1)) 301) (Int.tmod (wrap64 (a2)) 301) (Int.tmod (wrap64 (a3)) 301) t151 _ A13.out).mono ?_); rintro e w22 ⟨v152, rfl, ho0, hb⟩; refine ⟨_, rfl, ?_⟩; have n0_ := Aside0.mk (Kd.R_below (by (with_reducible repeat (first | apply Kd.R_alloc | apply Kd.R_drewN | apply Kd.R_drew)); exact HO142.out) hb); have n1_ := Aside0.mk (Kd.R_elder' (by (with_reducible repeat (first | apply Kd.R_alloc | apply Kd.R_drewN | apply Kd.R_drew)); exact HO145.out) (Kd.R_base ho0) hb); have n2_ := Aside0.mk (Kd.R_below (by (with_reducible repeat (first | apply Kd.R_alloc | apply Kd.R_drewN | apply Kd.R_drew)); exact HO150.out) hb); have n3_ := Aside0.mk (Kd.R_lower (Kd.R_new' ho0 (Kd.R_lt (by (with_reducible repeat (first | apply Kd.R_alloc | apply Kd.R_drewN | apply Kd.R_drew)); exact HO145.out))) (below_size (by repeat (first | (with_reducible first | exact HB.out | apply below_alloc | apply pw_below_drewN | apply below_drew1) | exact HB.out)))); have n4_ := Aside0.mk (below_step (by repeat (first | (with_reducible first | exact HB.out | apply below_alloc | apply pw_below_drewN | apply below_drew1) | exact HB.out)) hb); clear HO142; clear HO145; clear HO150; clear HB; have HO142 := n0_; have HO145 := n1_; have HO150 := n2_; have HO153 := n3_; have HB := n4_; clear n0_ n1_ n2_ n3_ n4_; (try clear hb); (try clear hb2); (try clear hk); (try clear hi); (try clear ho0); obtain ⟨Ao23, co23, eo23⟩ := Kd.R_slice HO153.out; subst eo23; obtain ⟨Ao24, co24, eo24⟩ := Kd.R_slice HO150.out; subst eo24) | ((with_reducible refine gate_callee (f := 25) rfl ?_); refine goesL_ (some 60) rfl rfl Try.func25 (by kernel_rfl) rfl #[.slice Ao23 t151.length co23, .slice Ao24 t147.length co24] rfl (by (try simp only [List.map_toArray, List.map_cons, List.map_nil]); first | done | rfl | (simp only [List.length_drop, List.length_take]; rfl)) ?_; (with_reducible refine (laws_same7.calls kj4 _ _ t151 _ _ t147 true _ ?side1 ?side2 ?side3 ?side4 A14.out).mono ?_); (case side1 => repeat (first | exact (Kd.R_reads' HO153.out).2.2 | (with_reducible refine Kd.C_alloc ?_ _) | (with_reducible refine Kd.C_drewN ?_ _) | (with_reducible refine Kd.C_drew ?_))); (case side2 => exact (Kd.R_reads' HO153.out).2.1); (case side3 => repeat (first | exact (Kd.R_reads' HO150.out).2.2 | (with_reducible refine Kd.C_alloc ?_ _) | (with_reducible refine Kd.C_drewN ?_ _) | (with_reducible refine Kd.C_drew ?_))); (case side4 => exact (Kd.R_reads' HO150.out).2.1); rintro e w' ⟨rfl, ⟨nd, rfl⟩⟩; refine ⟨_, rfl, ?_⟩) | (go_at_call 27; (with_reducible refine (impl_UntilStep.calls kj4 3 6 2 t155 _ A16.out).mono ?_); rintro e w25 ⟨v156, rfl, ho0, hb⟩; have n0_ := Aside0.mk (Kd.R_below (by (with_reducible repeat (first | apply Kd.R_alloc | apply Kd.R_drewN | apply Kd.R_drew)); exact HO142.out) hb); have n1_ := Aside0.mk (Kd.R_elder' (by (with_reducible repeat (first | apply Kd.R_alloc | apply Kd.R_drewN | apply Kd.R_drew)); exact HO145.out) (Kd.R_base ho0) hb); have n2_ := Aside0.mk (Kd.R_below (by (with_reducible repeat (first | apply Kd.R_alloc | apply Kd.R_drewN | apply Kd.R_drew)); exact HO150.out) hb); have n3_ := Aside0.mk (Kd.R_elder' (by (with_reducible repeat (first | apply Kd.R_alloc | apply Kd.R_drewN | apply Kd.R_drew)); exact HO153.out) (Kd.R_base ho0) hb); have n4_ := Aside0.mk (Kd.R_lower (Kd.R_new' (Kd.R_new' ho0 (Kd.R_lt (by (with_reducible repeat (first | apply Kd.R_alloc | apply Kd.R_drewN | apply Kd.R_drew)); exact HO145.out))) (Kd.R_lt (by (with_reducible repeat (first | apply Kd.R_alloc | apply Kd.R_drewN | apply Kd.R_drew)); exact HO153.out))) (below_size (by repeat (first | (with_reducible first | exact HB.out | apply below_alloc | apply pw_below_drewN | apply below_drew1) | exact HB.out)))); have n5_ := Aside0.mk (below_step (by repeat (first | (with_reducible first | exact HB.out | apply below_alloc | apply pw_below_drewN | apply below_drew1) | exact HB.out)) hb); clear HO142; clear HO145; clear HO150; clear HO153; clear HB; have HO142 := n0_; have HO145 := n1_; have HO150 := n2_; have HO153 := n3_; have HO157 := n4_; have HB := n5_; clear n0_ n1_ n2_ n3_ n4_ n5_; (try clear hb); (try clear hb2); (try clear hk); (try clear hi); (try clear ho0); obtain ⟨Ao26, co26, eo26⟩ := Kd.R_slice HO157.out; subst eo26))
            go_ret
            exact ⟨by first | rfl | (simp [errW_none, errW_some] <;> rfl) | (simp [*, errW_none, errW_some] <;> rfl), by repeat (first | (with_reducible first | exact HB.out | apply below_alloc | apply pw_below_drewN | apply below_drew1) | exact HB.out)⟩
          · replace c15 := Bool.eq_false_iff.mpr c15
            subst c15
            have H1 : (some false) = some r := by rw [if_neg (show ¬ (false = true) by decide)] at H; exact H
            clear H
            have H := H1
            clear H1
            obtain rfl := Option.some.inj H
            go_wp2_with (first | ((with_reducible refine gate_callee (f := 24) rfl ?_); refine goesL_ (some 35) rfl rfl Try.func24 (by kernel_rfl) rfl #[.int .i64 0, .int .i64 (Int.tmod (wrap64 (a0)) 301), .int .i64 x13_4] rfl (by (try simp only [List.map_toArray, List.map_cons, List.map_nil]); first | done | rfl | (simp only [List.length_drop, List.length_take]; rfl)) ?_; (with_reducible refine (spec_Row.calls kj4 0 (Int.tmod (wrap64 (a0)) 301) x13_4 t139 t140 _ A7.out).mono ?_); rintro e w27 ⟨v141, rfl, ho0, hb⟩; refine ⟨_, rfl, ?_⟩; have n0_ := Aside0.mk (Kd.R_lower ho0 (below_size (by repeat (first | (with_reducible first | exact HB.out | apply below_alloc | apply pw_below_drewN | apply below_drew1) | exact HB.out)))); have n1_ := Aside0.mk (below_step (by repeat (first | (with_reducible first | exact HB.out | apply below_alloc | apply pw_below_drewN | apply below_drew1) | exact HB.out)) hb); clear HB; have HO142 := n0_; have HB := n1_; clear n0_ n1_; (try clear hb); (try clear hb2); (try clear hk); (try clear hi); (try clear ho0)) | ((with_reducible refine gate_callee (f := 26) rfl ?_); refine goesL_ (some 39) rfl rfl Try.func26 (by kernel_rfl) rfl #[.int .i64 (Int.tmod (wrap64 (a0)) 301)] rfl (by (try simp only [List.map_toArray, List.map_cons, List.map_nil]); first | done | rfl | (simp only [List.length_drop, List.length_take]; rfl)) ?_; (with_reducible refine (impl_Until.calls kj4 (Int.tmod (wrap64 (a0)) 301) t143 _ A8.out).mono ?_); rintro e w28 ⟨v144, rfl, ho0, hb⟩; refine ⟨_, rfl, ?_⟩; have n0_ := Aside0.mk (Kd.R_below (by (with_reducible repeat (first | apply Kd.R_alloc | apply Kd.R_drewN | apply Kd.R_drew)); exact HO142.out) hb); have n1_ := Aside0.mk (Kd.R_lower ho0 (below_size (by repeat (first | (with_reducible first | exact HB.out | apply below_alloc | apply pw_below_drewN | apply below_drew1) | exact HB.out)))); have n2_ := Aside0.mk (below_step (by repeat (first | (with_reducible first | exact HB.out | apply below_alloc | apply pw_below_drewN | apply below_drew1) | exact HB.out)) hb); clear HO142; clear HB; have HO142 := n0_; have HO145 := n1_; have HB := n2_; clear n0_ n1_ n2_; (try clear hb); (try clear hb2); (try clear hk); (try clear hi); (try clear ho0); obtain ⟨Ao29, co29, eo29⟩ := Kd.R_slice HO145.out; subst eo29; obtain ⟨Ao30, co30, eo30⟩ := Kd.R_slice HO142.out; subst eo30) | ((with_reducible refine gate_callee (f := 25) rfl ?_); refine goesL_ (some 41) rfl rfl Try.func25 (by kernel_rfl) rfl #[.slice Ao29 t143.length co29, .slice Ao30 t139.length co30] rfl (by (try simp only [List.map_toArray, List.map_cons, List.map_nil]); first | done | rfl | (simp only [List.length_drop, List.length_take]; rfl)) ?_; (with_reducible refine (laws_same7.calls kj4 _ _ t143 _ _ t139 true _ ?side1 ?side2 ?side3 ?side4 A9.out).mono ?_); (case side1 => repeat (first | exact (Kd.R_reads' HO145.out).2.2 | (with_reducible refine Kd.C_alloc ?_ _) | (with_reducible refine Kd.C_drewN ?_ _) | (with_reducible refine Kd.C_drew ?_))); (case side2 => exact (Kd.R_reads' HO145.out).2.1); (case side3 => repeat (first | exact (Kd.R_reads' HO142.out).2.2 | (with_reducible refine Kd.C_alloc ?_ _) | (with_reducible refine Kd.C_drewN ?_ _) | (with_reducible refine Kd.C_drew ?_))); (case side4 => exact (Kd.R_reads' HO142.out).2.1); rintro e w' ⟨rfl, ⟨nd, rfl⟩⟩; refine ⟨_, rfl, ?_⟩) | ((with_reducible refine gate_callee (f := 24) rfl ?_); refine goesL_ (some 47) rfl rfl Try.func24 (by kernel_rfl) rfl #[.int .i64 (Int.tmod (wrap64 (a1)) 301), .int .i64 (Int.tmod (wrap64 (a2)) 301), .int .i64 (Int.tmod (wrap64 (a3)) 301)] rfl (by (try simp only [List.map_toArray, List.map_cons, List.map_nil]); first | done | rfl | (simp only [List.length_drop, List.length_take]; rfl)) ?_; (with_reducible refine (spec_Row.calls kj4 (Int.tmod (wrap64 (a1)) 301) (Int.tmod (wrap64 (a2)) 301) (Int.tmod (wrap64 (a3)) 301) t147 true _ A11.out).mono ?_); rintro e w31 ⟨v149, rfl, ho0, hb⟩; refine ⟨_, rfl, ?_⟩; have n0_ := Aside0.mk (Kd.R_elder' (by (with_reducible repeat (first | apply Kd.R_alloc | apply Kd.R_drewN | apply Kd.R_drew)); exact HO142.out) (Kd.R_base ho0) hb); have n1_ := Aside0.mk (Kd.R_below (by (with_reducible repeat (first | apply Kd.R_alloc | apply Kd.R_drewN | apply Kd.R_drew)); exact HO145.out) hb); have n2_ := Aside0.mk (Kd.R_lower (Kd.R_new' ho0 (Kd.R_lt (by (with_reducible repeat (first | apply Kd.R_alloc | apply Kd.R_drewN | apply Kd.R_drew)); exact HO142.out))) (below_size (by repeat (first | (with_reducible first | exact HB.out | apply below_alloc | apply pw_below_drewN | apply below_drew1) | exact HB.out)))); have n3_ := Aside0.mk (below_step (by repeat (first | (with_reducible first | exact HB.out | apply below_alloc | apply pw_below_drewN | apply below_drew1) | exact HB.out)) hb); clear HO142; clear HO145; clear HB; have HO142 := n0_; have HO145 := n1_; have HO150 := n2_; have HB := n3_; clear n0_ n1_ n2_ n3_; (try clear hb); (try clear hb2); (try clear hk); (try clear hi); (try clear ho0)) | ((with_reducible refine gate_callee (f := 27) rfl ?_); refine goesL_ (some 58) rfl rfl Try.func27 (by kernel_rfl) rfl #[.int .i64 (Int.tmod (wrap64 (a1)) 301), .int .i64 (Int.tmod (wrap64 (a2)) 301), .int .i64 (Int.tmod (wrap64 (a3)) 301)] rfl (by (try simp only [List.map_toArray, List.map_cons, List.map_nil]); first | done | rfl | (simp only [List.length_drop, List.length_take]; rfl)) ?_; (with_reducible refine (impl_UntilStep.calls kj4 (Int.tmod (wrap64 (a1)) 301) (Int.tmod (wrap64 (a2)) 301) (Int.tmod (wrap64 (a3)) 301) t151 _ A13.out).mono ?_); rintro e w32 ⟨v152, rfl, ho0, hb⟩; refine ⟨_, rfl, ?_⟩; have n0_ := Aside0.mk (Kd.R_below (by (with_reducible repeat (first | apply Kd.R_alloc | apply Kd.R_drewN | apply Kd.R_drew)); exact HO142.out) hb); have n1_ := Aside0.mk (Kd.R_elder' (by (with_reducible repeat (first | apply Kd.R_alloc | apply Kd.R_drewN | apply Kd.R_drew)); exact HO145.out) (Kd.R_base ho0) hb); have n2_ := Aside0.mk (Kd.R_below (by (with_reducible repeat (first | apply Kd.R_alloc | apply Kd.R_drewN | apply Kd.R_drew)); exact HO150.out) hb); have n3_ := Aside0.mk (Kd.R_lower (Kd.R_new' ho0 (Kd.R_lt (by (with_reducible repeat (first | apply Kd.R_alloc | apply Kd.R_drewN | apply Kd.R_drew)); exact HO145.out))) (below_size (by repeat (first | (with_reducible first | exact HB.out | apply below_alloc | apply pw_below_drewN | apply below_drew1) | exact HB.out)))); have n4_ := Aside0.mk (below_step (by repeat (first | (with_reducible first | exact HB.out | apply below_alloc | apply pw_below_drewN | apply below_drew1) | exact HB.out)) hb); clear HO142; clear HO145; clear HO150; clear HB; have HO142 := n0_; have HO145 := n1_; have HO150 := n2_; have HO153 := n3_; have HB := n4_; clear n0_ n1_ n2_ n3_ n4_; (try clear hb); (try clear hb2); (try clear hk); (try clear hi); (try clear ho0); obtain ⟨Ao33, co33, eo33⟩ := Kd.R_slice HO153.out; subst eo33; obtain ⟨Ao34, co34, eo34⟩ := Kd.R_slice HO150.out; subst eo34) | ((with_reducible refine gate_callee (f := 25) rfl ?_); refine goesL_ (some 60) rfl rfl Try.func25 (by kernel_rfl) rfl #[.slice Ao33 t151.length co33, .slice Ao34 t147.length co34] rfl (by (try simp only [List.map_toArray, List.map_cons, List.map_nil]); first | done | rfl | (simp only [List.length_drop, List.length_take]; rfl)) ?_; (with_reducible refine (laws_same7.calls kj4 _ _ t151 _ _ t147 false _ ?side1 ?side2 ?side3 ?side4 A14.out).mono ?_); (case side1 => repeat (first | exact (Kd.R_reads' HO153.out).2.2 | (with_reducible refine Kd.C_alloc ?_ _) | (with_reducible refine Kd.C_drewN ?_ _) | (with_reducible refine Kd.C_drew ?_))); (case side2 => exact (Kd.R_reads' HO153.out).2.1); (case side3 => repeat (first | exact (Kd.R_reads' HO150.out).2.2 | (with_reducible refine Kd.C_alloc ?_ _) | (with_reducible refine Kd.C_drewN ?_ _) | (with_reducible refine Kd.C_drew ?_))); (case side4 => exact (Kd.R_reads' HO150.out).2.1); rintro e w' ⟨rfl, ⟨nd, rfl⟩⟩; refine ⟨_, rfl, ?_⟩))
            go_ret
            exact ⟨by first | rfl | (simp [errW_none, errW_some] <;> rfl) | (simp [*, errW_none, errW_some] <;> rfl), by repeat (first | (with_reducible first | exact HB.out | apply below_alloc | apply pw_below_drewN | apply below_drew1) | exact HB.out)⟩
        · replace c12 := Bool.eq_false_iff.mpr c12
          subst c12
          have H1 : ((impl_Until.f kj4 2).bind fun t158 => (some ((t158.length : Int) == 2))) = some r := by rw [if_neg (show ¬ (false = true) by decide)] at H; exact H
          clear H
          have H := H1
          clear H1
          replace H := Option.bind_eq_some_iff.mp H
          obtain ⟨t158, A350, H⟩ := H
          replace H : (some ((t158.length : Int) == 2)) = some r := H
          have A35 := Aside0.mk A350
          clear A350
          obtain rfl := Option.some.inj H
          go_wp2_with (first | ((with_reducible refine gate_callee (f := 24) rfl ?_); refine goesL_ (some 35) rfl rfl Try.func24 (by kernel_rfl) rfl #[.int .i64 0, .int .i64 (Int.tmod (wrap64 (a0)) 301), .int .i64 x13_4] rfl (by (try simp only [List.map_toArray, List.map_cons, List.map_nil]); first | done | rfl | (simp only [List.length_drop, List.length_take]; rfl)) ?_; (with_reducible refine (spec_Row.calls kj4 0 (Int.tmod (wrap64 (a0)) 301) x13_4 t139 t140 _ A7.out).mono ?_); rintro e w36 ⟨v141, rfl, ho0, hb⟩; refine ⟨_, rfl, ?_⟩; have n0_ := Aside0.mk (Kd.R_lower ho0 (below_size (by repeat (first | (with_reducible first | exact HB.out | apply below_alloc | apply pw_below_drewN | apply below_drew1) | exact HB.out)))); have n1_ := Aside0.mk (below_step (by repeat (first | (with_reducible first | exact HB.out | apply below_alloc | apply pw_below_drewN | apply below_drew1) | exact HB.out)) hb); clear HB; have HO142 := n0_; have HB := n1_; clear n0_ n1_; (try clear hb); (try clear hb2); (try clear hk); (try clear hi); (try clear ho0)) | ((with_reducible refine gate_callee (f := 26) rfl ?_); refine goesL_ (some 39) rfl rfl Try.func26 (by kernel_rfl) rfl #[.int .i64 (Int.tmod (wrap64 (a0)) 301)] rfl (by (try simp only [List.map_toArray, List.map_cons, List.map_nil]); first | done | rfl | (simp only [List.length_drop, List.length_take]; rfl)) ?_; (with_reducible refine (impl_Until.calls kj4 (Int.tmod (wrap64 (a0)) 301) t143 _ A8.out).mono ?_); rintro e w37 ⟨v144, rfl, ho0, hb⟩; refine ⟨_, rfl, ?_⟩; have n0_ := Aside0.mk (Kd.R_below (by (with_reducible repeat (first | apply Kd.R_alloc | apply Kd.R_drewN | apply Kd.R_drew)); exact HO142.out) hb); have n1_ := Aside0.mk (Kd.R_lower ho0 (below_size (by repeat (first | (with_reducible first | exact HB.out | apply below_alloc | apply pw_below_drewN | apply below_drew1) | exact HB.out)))); have n2_ := Aside0.mk (below_step (by repeat (first | (with_reducible first | exact HB.out | apply below_alloc | apply pw_below_drewN | apply below_drew1) | exact HB.out)) hb); clear HO142; clear HB; have HO142 := n0_; have HO145 := n1_; have HB := n2_; clear n0_ n1_ n2_; (try clear hb); (try clear hb2); (try clear hk); (try clear hi); (try clear ho0); obtain ⟨Ao38, co38, eo38⟩ := Kd.R_slice HO145.out; subst eo38; obtain ⟨Ao39, co39, eo39⟩ := Kd.R_slice HO142.out; subst eo39) | ((with_reducible refine gate_callee (f := 25) rfl ?_); refine goesL_ (some 41) rfl rfl Try.func25 (by kernel_rfl) rfl #[.slice Ao38 t143.length co38, .slice Ao39 t139.length co39] rfl (by (try simp only [List.map_toArray, List.map_cons, List.map_nil]); first | done | rfl | (simp only [List.length_drop, List.length_take]; rfl)) ?_; (with_reducible refine (laws_same7.calls kj4 _ _ t143 _ _ t139 true _ ?side1 ?side2 ?side3 ?side4 A9.out).mono ?_); (case side1 => repeat (first | exact (Kd.R_reads' HO145.out).2.2 | (with_reducible refine Kd.C_alloc ?_ _) | (with_reducible refine Kd.C_drewN ?_ _) | (with_reducible refine Kd.C_drew ?_))); (case side2 => exact (Kd.R_reads' HO145.out).2.1); (case side3 => repeat (first | exact (Kd.R_reads' HO142.out).2.2 | (with_reducible refine Kd.C_alloc ?_ _) | (with_reducible refine Kd.C_drewN ?_ _) | (with_reducible refine Kd.C_drew ?_))); (case side4 => exact (Kd.R_reads' HO142.out).2.1); rintro e w' ⟨rfl, ⟨nd, rfl⟩⟩; refine ⟨_, rfl, ?_⟩) | ((with_reducible refine gate_callee (f := 24) rfl ?_); refine goesL_ (some 47) rfl rfl Try.func24 (by kernel_rfl) rfl #[.int .i64 (Int.tmod (wrap64 (a1)) 301), .int .i64 (Int.tmod (wrap64 (a2)) 301), .int .i64 (Int.tmod (wrap64 (a3)) 301)] rfl (by (try simp only [List.map_toArray, List.map_cons, List.map_nil]); first | done | rfl | (simp only [List.length_drop, List.length_take]; rfl)) ?_; (with_reducible refine (spec_Row.calls kj4 (Int.tmod (wrap64 (a1)) 301) (Int.tmod (wrap64 (a2)) 301) (Int.tmod (wrap64 (a3)) 301) t147 false _ A11.out).mono ?_); rintro e w40 ⟨v149, rfl, ho0, hb⟩; refine ⟨_, rfl, ?_⟩; have n0_ := Aside0.mk (Kd.R_elder' (by (with_reducible repeat (first | apply Kd.R_alloc | apply Kd.R_drewN | apply Kd.R_drew)); exact HO142.out) (Kd.R_base ho0) hb); have n1_ := Aside0.mk (Kd.R_below (by (with_reducible repeat (first | apply Kd.R_alloc | apply Kd.R_drewN | apply Kd.R_drew)); exact HO145.out) hb); have n2_ := Aside0.mk (Kd.R_lower (Kd.R_new' ho0 (Kd.R_lt (by (with_reducible repeat (first | apply Kd.R_alloc | apply Kd.R_drewN | apply Kd.R_drew)); exact HO142.out))) (below_size (by repeat (first | (with_reducible first | exact HB.out | apply below_alloc | apply pw_below_drewN | apply below_drew1) | exact HB.out)))); have n3_ := Aside0.mk (below_step (by repeat (first | (with_reducible first | exact HB.out | apply below_alloc | apply pw_below_drewN | apply below_drew1) | exact HB.out)) hb); clear HO142; clear HO145; clear HB; have HO142 := n0_; have HO145 := n1_; have HO150 := n2_; have HB := n3_; clear n0_ n1_ n2_ n3_; (try clear hb); (try clear hb2); (try clear hk); (try clear hi); (try clear ho0)) | ((with_reducible refine gate_callee (f := 26) rfl ?_); refine goesL_ (some 52) rfl rfl Try.func26 (by kernel_rfl) rfl #[.int .i64 2] rfl (by (try simp only [List.map_toArray, List.map_cons, List.map_nil]); first | done | rfl | (simp only [List.length_drop, List.length_take]; rfl)) ?_; (with_reducible refine (impl_Until.calls kj4 2 t158 _ A35.out).mono ?_); rintro e w41 ⟨v159, rfl, ho0, hb⟩; refine ⟨_, rfl, ?_⟩; have n0_ := Aside0.mk (Kd.R_below (by (with_reducible repeat (first | apply Kd.R_alloc | apply Kd.R_drewN | apply Kd.R_drew)); exact HO142.out) hb); have n1_ := Aside0.mk (Kd.R_elder' (by (with_reducible repeat (first | apply Kd.R_alloc | apply Kd.R_drewN | apply Kd.R_drew)); exact HO145.out) (Kd.R_base ho0) hb); have n2_ := Aside0.mk (Kd.R_below (by (with_reducible repeat (first | apply Kd.R_alloc | apply Kd.R_drewN | apply Kd.R_drew)); exact HO150.out) hb); have n3_ := Aside0.mk (Kd.R_lower (Kd.R_new' ho0 (Kd.R_lt (by (with_reducible repeat (first | apply Kd.R_alloc | apply Kd.R_drewN | apply Kd.R_drew)); exact HO145.out))) (below_size (by repeat (first | (with_reducible first | exact HB.out | apply below_alloc | apply pw_below_drewN | apply below_drew1) | exact HB.out)))); have n4_ := Aside0.mk (below_step (by repeat (first | (with_reducible first | exact HB.out | apply below_alloc | apply pw_below_drewN | apply below_drew1) | exact HB.out)) hb); clear HO142; clear HO145; clear HO150; clear HB; have HO142 := n0_; have HO145 := n1_; have HO150 := n2_; have HO160 := n3_; have HB := n4_; clear n0_ n1_ n2_ n3_ n4_; (try clear hb); (try clear hb2); (try clear hk); (try clear hi); (try clear ho0); obtain ⟨Ao42, co42, eo42⟩ := Kd.R_slice HO160.out; subst eo42))
          go_ret
          exact ⟨by first | rfl | (simp [errW_none, errW_some] <;> rfl) | (simp [*, errW_none, errW_some] <;> rfl), by repeat (first | (with_reducible first | exact HB.out | apply below_alloc | apply pw_below_drewN | apply below_drew1) | exact HB.out)⟩
      · replace c10 := Bool.eq_false_iff.mpr c10
        subst c10
        have H1 : (some false) = some r := by rw [if_neg (show ¬ (false = true) by decide)] at H; exact H
        clear H
        have H := H1
        clear H1
        obtain rfl := Option.some.inj H
        go_wp2_with (first | ((with_reducible refine gate_callee (f := 24) rfl ?_); refine goesL_ (some 35) rfl rfl Try.func24 (by kernel_rfl) rfl #[.int .i64 0, .int .i64 (Int.tmod (wrap64 (a0)) 301), .int .i64 x13_4] rfl (by (try simp only [List.map_toArray, List.map_cons, List.map_nil]); first | done | rfl | (simp only [List.length_drop, List.length_take]; rfl)) ?_; (with_reducible refine (spec_Row.calls kj4 0 (Int.tmod (wrap64 (a0)) 301) x13_4 t139 t140 _ A7.out).mono ?_); rintro e w43 ⟨v141, rfl, ho0, hb⟩; refine ⟨_, rfl, ?_⟩; have n0_ := Aside0.mk (Kd.R_lower ho0 (below_size (by repeat (first | (with_reducible first | exact HB.out | apply below_alloc | apply pw_below_drewN | apply below_drew1) | exact HB.out)))); have n1_ := Aside0.mk (below_step (by repeat (first | (with_reducible first | exact HB.out | apply below_alloc | apply pw_below_drewN | apply below_drew1) | exact HB.out)) hb); clear HB; have HO142 := n0_; have HB := n1_; clear n0_ n1_; (try clear hb); (try clear hb2); (try clear hk); (try clear hi); (try clear ho0)) | ((with_reducible refine gate_callee (f := 26) rfl ?_); refine goesL_ (some 39) rfl rfl Try.func26 (by kernel_rfl) rfl #[.int .i64 (Int.tmod (wrap64 (a0)) 301)] rfl (by (try simp only [List.map_toArray, List.map_cons, List.map_nil]); first | done | rfl | (simp only [List.length_drop, List.length_take]; rfl)) ?_; (with_reducible refine (impl_Until.calls kj4 (Int.tmod (wrap64 (a0)) 301) t143 _ A8.out).mono ?_); rintro e w44 ⟨v144, rfl, ho0, hb⟩; refine ⟨_, rfl, ?_⟩; have n0_ := Aside0.mk (Kd.R_below (by (with_reducible repeat (first | apply Kd.R_alloc | apply Kd.R_drewN | apply Kd.R_drew)); exact HO142.out) hb); have n1_ := Aside0.mk (Kd.R_lower ho0 (below_size (by repeat (first | (with_reducible first | exact HB.out | apply below_alloc | apply pw_below_drewN | apply below_drew1) | exact HB.out)))); have n2_ := Aside0.mk (below_step (by repeat (first | (with_reducible first | exact HB.out | apply below_alloc | apply pw_below_drewN | apply below_drew1) | exact HB.out)) hb); clear HO142; clear HB; have HO142 := n0_; have HO145 := n1_; have HB := n2_; clear n0_ n1_ n2_; (try clear hb); (try clear hb2); (try clear hk); (try clear hi); (try clear ho0); obtain ⟨Ao45, co45, eo45⟩ := Kd.R_slice HO145.out; subst eo45; obtain ⟨Ao46, co46, eo46⟩ := Kd.R_slice HO142.out; subst eo46) | ((with_reducible refine gate_callee (f := 25) rfl ?_); refine goesL_ (some 41) rfl rfl Try.func25 (by kernel_rfl) rfl #[.slice Ao45 t143.length co45, .slice Ao46 t139.length co46] rfl (by (try simp only [List.map_toArray, List.map_cons, List.map_nil]); first | done | rfl | (simp only [List.length_drop, List.length_take]; rfl)) ?_; (with_reducible refine (laws_same7.calls kj4 _ _ t143 _ _ t139 false _ ?side1 ?side2 ?side3 ?side4 A9.out).mono ?_); (case side1 => repeat (first | exact (Kd.R_reads' HO145.out).2.2 | (with_reducible refine Kd.C_alloc ?_ _) | (with_reducible refine Kd.C_drewN ?_ _) | (with_reducible refine Kd.C_drew ?_))); (case side2 => exact (Kd.R_reads' HO145.out).2.1); (case side3 => repeat (first | exact (Kd.R_reads' HO142.out).2.2 | (with_reducible refine Kd.C_alloc ?_ _) | (with_reducible refine Kd.C_drewN ?_ _) | (with_reducible refine Kd.C_drew ?_))); (case side4 => exact (Kd.R_reads' HO142.out).2.1); rintro e w' ⟨rfl, ⟨nd, rfl⟩⟩; refine ⟨_, rfl, ?_⟩))
        go_ret
        exact ⟨by first | rfl | (simp [errW_none, errW_some] <;> rfl) | (simp [*, errW_none, errW_some] <;> rfl), by repeat (first | (with_reducible first | exact HB.out | apply below_alloc | apply pw_below_drewN | apply below_drew1) | exact HB.out)⟩

/-- THE ONE PURE STATEMENT of laws_FnUntil: yours. -/
def laws_FnUntil.Pure : Prop := ∀ (a0 : Int) (a1 : Int) (a2 : Int) (a3 : Int), (Lit.int .i16 a0).wf = true → (Lit.int .i16 a1).wf = true → (Lit.int .i16 a2).wf = true → (Lit.int .i16 a3).wf = true → ∃ k, laws_FnUntil.f k a0 a1 a2 a3 = some true
theorem laws_FnUntil.walk (P : laws_FnUntil.Pure) (a0 : Int) (a1 : Int) (a2 : Int) (a3 : Int) (w : World) (w0 : (Lit.int .i16 a0).wf = true) (w1 : (Lit.int .i16 a1).wf = true) (w2 : (Lit.int .i16 a2).wf = true) (w3 : (Lit.int .i16 a3).wf = true) :
    Calls Try.prog 8 #[.int .i16 a0, .int .i16 a1, .int .i16 a2, .int .i16 a3] w fun e w' => e = .returned (.bool true) ∧ Below w.heap.size w w' := by
  obtain ⟨k, h⟩ := P a0 a1 a2 a3 w0 w1 w2 w3
  refine (laws_FnUntil.calls k a0 a1 a2 a3 true w h).mono ?_
  rintro e w' ⟨rfl, hd⟩
  exact ⟨rfl, hd⟩

end Go.Proofs.Ytjpocldnibmopaa.PFnUntil
