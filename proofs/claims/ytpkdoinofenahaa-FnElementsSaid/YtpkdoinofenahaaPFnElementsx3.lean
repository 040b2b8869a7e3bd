-- Written by gprint.py (a program of this session, over the kit's print) out of Lean's own print of the program.
import Derived.Test.YtpkdoinofenahaaPFnElementsx0
import Derived.Test.YtpkdoinofenahaaPFnElementsx1
import Derived.Test.YtpkdoinofenahaaPFnElementsx2
namespace Go.Proofs.Ytpkdoinofenahaa.PFnElements
open Go.Proofs.Ytpkdoinofenahaa.Giv
open Go.RowKit Go.Proofs.YtpkdoinofenahaaW.PrintWords Go.Proofs.YtpkdoinofenahaaW.PrintLast Go.Proofs.YtpkdoinofenahaaW.PrintMore
attribute [local go_sem] max2_int min2_int max_two min_two max_three min_three max_four min_four   -- for this text's walks alone
set_option linter.unusedVariables false
set_option linter.unusedSimpArgs false

/-! ### spec_Clean: function 18 -/
mutual
def spec_Clean.l0 : Nat → Bool → List ByteArray → List ByteArray → Int → Int → Option (ByteArray)
  | 0, _, _, _, _, _ => none
  | k + 1, x3, x4, x5, x13, x14 => if x14 < x13 then (if 0 ≤ x14 then (if x14 < (x5.length : Int) then (if (rdOf ByteArray.empty x5 x14).toList = ([] : List UInt8) then (spec_Clean.j1 k x3 x4 x5 x14 x13 x14 true) else (spec_Clean.j1 k x3 x4 x5 x14 x13 x14 ((rdOf ByteArray.empty x5 x14).toList == ([46] : List UInt8)))) else (none)) else (none)) else ((spec_Joined.f k (⟨#[47]⟩ : ByteArray) x4).bind fun t147 => (if x3 = true then (if 1 + t147.size ≤ 9223372036854775807 then (some ((⟨#[47]⟩ : ByteArray) ++ t147)) else (none)) else (if t147.toList = ([] : List UInt8) then (some (⟨#[46]⟩ : ByteArray)) else (some t147))))
def spec_Clean.j1 : Nat → Bool → List ByteArray → List ByteArray → Int → Int → Int → Bool → Option (ByteArray)
  | 0, _, _, _, _, _, _, _ => none
  | k + 1, x3, x4, x5, x6, x13, x14, x17 => if x17 = true then (spec_Clean.l0 k x3 x4 x5 x13 (wrap64 (x14 + 1))) else (if 0 ≤ x6 then (if x6 < (x5.length : Int) then (if (rdOf ByteArray.empty x5 x6).toList = ([46, 46] : List UInt8) then (if (x4.length : Int) > 0 then (if 0 ≤ (wrap64 ((x4.length : Int) - 1)) then (if (wrap64 ((x4.length : Int) - 1)) < (x4.length : Int) then (spec_Clean.j2 k x3 x4 x5 x13 x14 ((rdOf ByteArray.empty x4 (wrap64 ((x4.length : Int) - 1))).toList != ([46, 46] : List UInt8))) else (none)) else (none)) else (spec_Clean.j2 k x3 x4 x5 x13 x14 false)) else (if x4.length < 8796093022208 then (spec_Clean.l0 k x3 (x4 ++ [rdOf ByteArray.empty x5 x6]) x5 x13 (wrap64 (x14 + 1))) else (none))) else (none)) else (none))
def spec_Clean.j2 : Nat → Bool → List ByteArray → List ByteArray → Int → Int → Bool → Option (ByteArray)
  | 0, _, _, _, _, _, _ => none
  | k + 1, x3, x4, x5, x13, x14, x43 => if x43 = true then (if 0 ≤ (wrap64 ((x4.length : Int) - 1)) then (if (wrap64 ((x4.length : Int) - 1)) ≤ (x4.length : Int) then (spec_Clean.l0 k x3 (x4.take ((wrap64 ((x4.length : Int) - 1)) : Int).toNat) x5 x13 (wrap64 (x14 + 1))) else (none)) else (none)) else (if x3 = true then (spec_Clean.l0 k x3 x4 x5 x13 (wrap64 (x14 + 1))) else (if x4.length < 8796093022208 then (spec_Clean.l0 k x3 (x4 ++ [(⟨#[46, 46]⟩ : ByteArray)]) x5 x13 (wrap64 (x14 + 1))) else (none)))
end
def spec_Clean.f (k : Nat) (a0 : ByteArray) : Option (ByteArray) := (spec_Begins.f (⟨#[47]⟩ : ByteArray) a0).bind fun t129 => ((spec_SplitList.f k (⟨#[47]⟩ : ByteArray) a0).bind fun t130 => (spec_Clean.l0 k t129 ([] : List ByteArray) t130 (t130.length : Int) 0))
theorem spec_Clean.mono_l : ∀ k, (∀ y0 y1 y2 y3 y4, LeO (spec_Clean.l0 k y0 y1 y2 y3 y4) (spec_Clean.l0 (k + 1) y0 y1 y2 y3 y4)) ∧ (∀ y0 y1 y2 y3 y4 y5 y6, LeO (spec_Clean.j1 k y0 y1 y2 y3 y4 y5 y6) (spec_Clean.j1 (k + 1) y0 y1 y2 y3 y4 y5 y6)) ∧ (∀ y0 y1 y2 y3 y4 y5, LeO (spec_Clean.j2 k y0 y1 y2 y3 y4 y5) (spec_Clean.j2 (k + 1) y0 y1 y2 y3 y4 y5))
  | 0 => ⟨fun _ _ _ _ _ r h => by simp [spec_Clean.l0] at h, fun _ _ _ _ _ _ _ r h => by simp [spec_Clean.j1] at h, fun _ _ _ _ _ _ r h => by simp [spec_Clean.j2] at h⟩
  | k + 1 => by
    obtain ⟨ih0, ih1, ih2⟩ := spec_Clean.mono_l k
    refine ⟨?_, ?_, ?_⟩
    · intro y0 y1 y2 y3 y4
      unfold spec_Clean.l0
      repeat' first
      | (with_reducible exact ih0 _ _ _ _ _)
      | (with_reducible exact ih1 _ _ _ _ _ _ _)
      | (with_reducible exact ih2 _ _ _ _ _ _)
      | (with_reducible exact spec_Joined.mono _ _ _)
      | (with_reducible exact spec_SplitList.mono _ _ _)
      | (with_reducible exact LeO.refl _)
      | (with_reducible exact LeO.none _)
      | (with_reducible refine LeO.ite ?_ ?_)
      | (with_reducible refine LeO.bind ?_ (fun _ => ?_))
      | exact ih0 _ _ _ _ _
      | exact ih1 _ _ _ _ _ _ _
      | exact ih2 _ _ _ _ _ _
      | exact spec_Joined.mono _ _ _
      | exact spec_SplitList.mono _ _ _
      | exact LeO.none _
      | refine LeO.ite ?_ ?_
      | refine LeO.bind ?_ (fun _ => ?_)
    · intro y0 y1 y2 y3 y4 y5 y6
      unfold spec_Clean.j1
      repeat' first
      | (with_reducible exact ih0 _ _ _ _ _)
      | (with_reducible exact ih1 _ _ _ _ _ _ _)
      | (with_reducible exact ih2 _ _ _ _ _ _)
      | (with_reducible exact spec_Joined.mono _ _ _)
      | (with_reducible exact spec_SplitList.mono _ _ _)
      | (with_reducible exact LeO.refl _)
      | (with_reducible exact LeO.none _)
      | (with_reducible refine LeO.ite ?_ ?_)
      | (with_reducible refine LeO.bind ?_ (fun _ => ?_))
      | exact ih0 _ _ _ _ _
      | exact ih1 _ _ _ _ _ _ _
      | exact ih2 _ _ _ _ _ _
      | exact spec_Joined.mono _ _ _
      | exact spec_SplitList.mono _ _ _
      | exact LeO.none _
      | refine LeO.ite ?_ ?_
      | refine LeO.bind ?_ (fun _ => ?_)
    · intro y0 y1 y2 y3 y4 y5
      unfold spec_Clean.j2
      repeat' first
      | (with_reducible exact ih0 _ _ _ _ _)
      | (with_reducible exact ih1 _ _ _ _ _ _ _)
      | (with_reducible exact ih2 _ _ _ _ _ _)
      | (with_reducible exact spec_Joined.mono _ _ _)
      | (with_reducible exact spec_SplitList.mono _ _ _)
      | (with_reducible exact LeO.refl _)
      | (with_reducible exact LeO.none _)
      | (with_reducible refine LeO.ite ?_ ?_)
      | (with_reducible refine LeO.bind ?_ (fun _ => ?_))
      | exact ih0 _ _ _ _ _
      | exact ih1 _ _ _ _ _ _ _
      | exact ih2 _ _ _ _ _ _
      | exact spec_Joined.mono _ _ _
      | exact spec_SplitList.mono _ _ _
      | exact LeO.none _
      | refine LeO.ite ?_ ?_
      | refine LeO.bind ?_ (fun _ => ?_)
theorem spec_Clean.mono : ∀ a0 k, LeO (spec_Clean.f k a0) (spec_Clean.f (k + 1) a0) := by
  intro a0 k
  obtain ⟨ih0, ih1, ih2⟩ := spec_Clean.mono_l k
  unfold spec_Clean.f
  repeat' first
      | (with_reducible exact ih0 _ _ _ _ _)
      | (with_reducible exact ih1 _ _ _ _ _ _ _)
      | (with_reducible exact ih2 _ _ _ _ _ _)
      | (with_reducible exact spec_Joined.mono _ _ _)
      | (with_reducible exact spec_SplitList.mono _ _ _)
      | (with_reducible exact LeO.refl _)
      | (with_reducible exact LeO.none _)
      | (with_reducible refine LeO.ite ?_ ?_)
      | (with_reducible refine LeO.bind ?_ (fun _ => ?_))
      | exact ih0 _ _ _ _ _
      | exact ih1 _ _ _ _ _ _ _
      | exact ih2 _ _ _ _ _ _
      | exact spec_Joined.mono _ _ _
      | exact spec_SplitList.mono _ _ _
      | exact LeO.none _
      | refine LeO.ite ?_ ?_
      | refine LeO.bind ?_ (fun _ => ?_)
set_option maxHeartbeats 8000000 in
set_option maxRecDepth 100000 in
theorem spec_Clean.calls (k : Nat) (a0 : ByteArray) (r : ByteArray) (w : World) (h : spec_Clean.f k a0 = some r) :
    Calls Try.prog 18 #[.string a0] w fun e w' => e = .returned (.string r) ∧ Below w.heap.size w w' := by
  have HB := Aside0.mk (Below.refl w.heap.size w)
  have H : ((spec_Begins.f (⟨#[47]⟩ : ByteArray) a0).bind fun t129 => ((spec_SplitList.f k (⟨#[47]⟩ : ByteArray) a0).bind fun t130 => (spec_Clean.l0 k t129 ([] : List ByteArray) t130 (t130.length : Int) 0))) = some r := h
  clear h
  replace H := Option.bind_eq_some_iff.mp H
  obtain ⟨t129, A20, H⟩ := H
  replace H : ((spec_SplitList.f k (⟨#[47]⟩ : ByteArray) a0).bind fun t130 => (spec_Clean.l0 k t129 ([] : List ByteArray) t130 (t130.length : Int) 0)) = some r := H
  have A2 := Aside0.mk A20
  clear A20
  replace H := Option.bind_eq_some_iff.mp H
  obtain ⟨t130, A30, H⟩ := H
  replace H : (spec_Clean.l0 k t129 ([] : List ByteArray) t130 (t130.length : Int) 0) = some r := H
  have A3 := Aside0.mk A30
  clear A30
  have H' := Aside0.mk H
  clear H
  go_enter Try.func18, Try.ntmps18
  go_wp2_with (first | ((with_reducible refine gate_callee (f := 12) rfl ?_); refine goesL_ (some 9) rfl rfl Try.func12 (by kernel_rfl) rfl #[.string (⟨#[47]⟩ : ByteArray), .string a0] rfl (by (try simp only [List.map_toArray, List.map_cons, List.map_nil]); first | done | rfl | (simp only [List.length_drop, List.length_take]; rfl)) ?_; (with_reducible refine (spec_Begins.calls (⟨#[47]⟩ : ByteArray) a0 t129 _ A2.out).mono ?_); rintro e w' ⟨rfl, ⟨nd, rfl⟩⟩; refine ⟨_, rfl, ?_⟩) | ((with_reducible refine gate_callee (f := 16) rfl ?_); refine goesL_ (some 11) rfl rfl Try.func16 (by kernel_rfl) rfl #[.string (⟨#[47]⟩ : ByteArray), .string a0] rfl (by (try simp only [List.map_toArray, List.map_cons, List.map_nil]); first | done | rfl | (simp only [List.length_drop, List.length_take]; rfl)) ?_; (with_reducible refine (spec_SplitList.calls k (⟨#[47]⟩ : ByteArray) a0 t130 _ A3.out).mono ?_); rintro e w4 ⟨v131, rfl, ho0, hb⟩; refine ⟨_, rfl, ?_⟩; have n0_ := Aside0.mk (Kd.R_lower ho0 (below_size (by repeat (first | (with_reducible first | exact HB.out | apply below_alloc | apply pw_below_drewN | apply below_drew1) | exact HB.out)))); have n1_ := Aside0.mk (below_step (by repeat (first | (with_reducible first | exact HB.out | apply below_alloc | apply pw_below_drewN | apply below_drew1) | exact HB.out)) hb); clear HB; have HO132 := n0_; have HB := n1_; clear n0_ n1_; (try clear hb); (try clear hb2); (try clear hk); (try clear hi); (try clear ho0); obtain ⟨Ao5, co5, eo5⟩ := Kd.R_slice HO132.out; subst eo5))
  go_loopg [4, 14] k (fun kq v4 v14 w' => ∃ (x4_1 : List ByteArray) (x14_1 : Int), v14 = .int .i64 x14_1 ∧ Aside0 (spec_Clean.l0 kq t129 x4_1 t130 (t130.length : Int) x14_1 = some r) ∧ Aside0 (kq ≤ k) ∧ Aside0 (Kd.R Kd.string 9 w' w.heap.size (fun k_ => some k_ ≠ ((.slice Ao5 t130.length co5) : Value).ownBlock) v4 x4_1) ∧ Aside0 (Kd.R Kd.string 9 w' w.heap.size (fun k_ => some k_ ≠ (v4 : Value).ownBlock) (.slice Ao5 t130.length co5) t130) ∧ Aside0 (Below w.heap.size w w'))
  case atStart => exact ⟨(([] : List ByteArray)), (0), (by first | rfl | (simp; done) | (simp [*]; done)), H', ⟨Nat.le_refl _⟩, ⟨by first | exact Kd.R_nil _ _ _ _ _ | exact Kd.N_nil _ _ _ _ _ | exact Kd.V_nil _ _ _ _ _ | exact Kd.Q_nil _ _ _ _ _ | exact Kd.S_nil _ _ _ _ _⟩, ⟨by (with_reducible repeat (first | apply Kd.R_alloc | apply Kd.R_drewN | apply Kd.R_drew)); exact Kd.R_mono HO132.out (fun _ hk => (by simp [Value.ownBlock]))⟩, ⟨by repeat (first | (with_reducible first | exact HB.out | apply below_alloc | apply pw_below_drewN | apply below_drew1) | exact HB.out)⟩⟩
  case round =>
    clear H'
    try clear c1
    try clear p2
    obtain ⟨x4_1, x14_1, rfl, HA, HK1, HO_4, HO_5, HB⟩ := hrel
    cases gk with
    | zero => exact absurd HA.out (by simp [spec_Clean.l0])
    | succ k1 =>
      have H := HA.out
      clear HA
      simp only [spec_Clean.l0] at H
      by_cases c6 : x14_1 < (t130.length : Int)
      · rw [if_pos c6] at H
        have c6b0 : decide (x14_1 < (t130.length : Int)) = true := decide_eq_true c6
        clear c6
        have HC7 := Aside0.mk H
        clear H
        go_upto_region 7 with (fail)
        go_cut [17] (fun v17 wc => ∃ (kq : Nat) (x17_6 : Bool), v17 = .bool x17_6 ∧ Aside0 (spec_Clean.j1 kq t129 x4_1 t130 x14_1 (t130.length : Int) x14_1 x17_6 = some r) ∧ Aside0 (kq ≤ k1) ∧ Aside0 (Kd.R Kd.string 9 wc w.heap.size (fun k_ => some k_ ≠ ((.slice Ao5 t130.length co5) : Value).ownBlock) u4 x4_1) ∧ Aside0 (Kd.R Kd.string 9 wc w.heap.size (fun k_ => some k_ ≠ (u4 : Value).ownBlock) (.slice Ao5 t130.length co5) t130) ∧ Aside0 (Below w.heap.size w wc))
        case first =>
          have H := HC7.out
          clear HC7
          by_cases c8 : 0 ≤ x14_1
          · rw [if_pos c8] at H
            have c8b0 : decide (0 ≤ x14_1) = true := decide_eq_true c8
            clear c8
            (first | rw [c8b0] | (simp only [i64_w, i32_w]; rw [c8b0]) | skip)
            by_cases c9 : x14_1 < (t130.length : Int)
            · rw [if_pos c9] at H
              have c9b0 : decide (x14_1 < (t130.length : Int)) = true := decide_eq_true c9
              clear c9
              by_cases c10 : (rdOf ByteArray.empty t130 x14_1).toList = ([] : List UInt8)
              · rw [if_pos c10] at H
                have c10b0 : ((rdOf ByteArray.empty t130 x14_1).toList == ([] : List UInt8)) = true := beq_iff_eq.mpr c10
                have c10b1 : ((rdOf ByteArray.empty t130 x14_1).toList != ([] : List UInt8)) = false := bne_eq_false_iff_eq.mpr c10
                clear c10
                have H' := Aside0.mk H
                clear H
                have p133 : 0 ≤ (x14_1 : Int) := of_decide_eq_true (by first | (with_reducible assumption) | assumption)
                have q133 : x14_1 < (t130.length : Int) := of_decide_eq_true (by first | (with_reducible assumption) | assumption)
                obtain ⟨ad133, e133, hx133_0⟩ := Kd.at_string (Kd.R_reads' HO_5.out).2.2 x14_1 p133 q133
                cases e133
                replace p133 := eq_true p133
                replace q133 := eq_true q133
                go_wp2
                go_meet
                case rel => exact ⟨_, (true), (by first | rfl | (simp; done) | (simp [*]; done)), H', ⟨by have := HK1.out; first | omega | exact Nat.le_refl _⟩, ⟨by (with_reducible repeat (first | apply Kd.R_alloc | apply Kd.R_drewN | apply Kd.R_drew)); first | exact HO_4.out | (have h_ := HO_4.out; simp only [Txt.own_map] at h_ ⊢; exact h_)⟩, ⟨by (with_reducible repeat (first | apply Kd.R_alloc | apply Kd.R_drewN | apply Kd.R_drew)); first | exact HO_5.out | (have h_ := HO_5.out; simp only [Txt.own_map] at h_ ⊢; exact h_)⟩, ⟨by repeat (first | (with_reducible first | exact HB.out | apply below_alloc | apply pw_below_drewN | apply below_drew1) | exact HB.out)⟩⟩
              · rw [if_neg c10] at H
                have c10b0 : ((rdOf ByteArray.empty t130 x14_1).toList == ([] : List UInt8)) = false := beq_eq_false_iff_ne.mpr c10
                have c10b1 : ((rdOf ByteArray.empty t130 x14_1).toList != ([] : List UInt8)) = true := bne_iff_ne.mpr c10
                have H' := Aside0.mk H
                clear H
                have p133 : 0 ≤ (x14_1 : Int) := of_decide_eq_true (by first | (with_reducible assumption) | assumption)
                have q133 : x14_1 < (t130.length : Int) := of_decide_eq_true (by first | (with_reducible assumption) | assumption)
                obtain ⟨ad133, e133, hx133_0⟩ := Kd.at_string (Kd.R_reads' HO_5.out).2.2 x14_1 p133 q133
                cases e133
                replace p133 := eq_true p133
                replace q133 := eq_true q133
                have p134 : 0 ≤ (x14_1 : Int) := of_decide_eq_true (by first | (with_reducible assumption) | assumption)
                have q134 : x14_1 < (t130.length : Int) := of_decide_eq_true (by first | (with_reducible assumption) | assumption)
                obtain ⟨ad134, e134, hx134_0⟩ := Kd.at_string (Kd.R_reads' HO_5.out).2.2 x14_1 p134 q134
                obtain rfl : ad133 = ad134 := (by injection e134)
                replace p134 := eq_true p134
                replace q134 := eq_true q134
                go_wp2
                go_meet
                case rel => exact ⟨_, (((rdOf ByteArray.empty t130 x14_1).toList == ([46] : List UInt8))), (by first | rfl | (simp; done) | (simp [*]; done)), H', ⟨by have := HK1.out; first | omega | exact Nat.le_refl _⟩, ⟨by (with_reducible repeat (first | apply Kd.R_alloc | apply Kd.R_drewN | apply Kd.R_drew)); first | exact HO_4.out | (have h_ := HO_4.out; simp only [Txt.own_map] at h_ ⊢; exact h_)⟩, ⟨by (with_reducible repeat (first | apply Kd.R_alloc | apply Kd.R_drewN | apply Kd.R_drew)); first | exact HO_5.out | (have h_ := HO_5.out; simp only [Txt.own_map] at h_ ⊢; exact h_)⟩, ⟨by repeat (first | (with_reducible first | exact HB.out | apply below_alloc | apply pw_below_drewN | apply below_drew1) | exact HB.out)⟩⟩
            · rw [if_neg c9] at H
              exact absurd H (by simp)
          · rw [if_neg c8] at H
            exact absurd H (by simp)
        case rest =>
          clear HC7
          try clear c1
          try clear p1
          try clear q1
          try clear hx1
          try clear p2
          try clear c6
          try clear c6b0
          try clear c8
          try clear c8b0
          try clear c9
          try clear c9b0
          try clear c10
          try clear c10b0
          try clear c10b1
          try clear hx133_0
          try clear hx134_0
          try clear p133
          try clear p134
          try clear p2
          try clear q133
          try clear q134
          obtain ⟨kq, x17_6, rfl, HA, HJ6, HO_4, HO_5, HB⟩ := hcut
          cases kq with
          | zero => exact absurd HA.out (by simp [spec_Clean.j1])
          | succ kj6 =>
            have H := HA.out
            clear HA
            simp only [spec_Clean.j1] at H
            by_cases c11 : x17_6 = true
            · subst c11
              have H1 : (spec_Clean.l0 kj6 t129 x4_1 t130 (t130.length : Int) (wrap64 (x14_1 + 1))) = some r := by rw [if_pos rfl] at H; exact H
              clear H
              have H := H1
              clear H1
              have H' := Aside0.mk H
              clear H
              go_wp2
              go_roundg kj6
              case measure => have := HK1.out; have := HJ6.out; omega
              case rel => exact ⟨(x4_1), (wrap64 (x14_1 + 1)), (by first | rfl | (simp; done) | (simp [*]; done)), H', ⟨by have := HK1.out; have := HJ6.out; omega⟩, ⟨by (with_reducible repeat (first | apply Kd.R_alloc | apply Kd.R_drewN | apply Kd.R_drew)); first | exact HO_4.out | (have h_ := HO_4.out; simp only [Txt.own_map] at h_ ⊢; exact h_)⟩, ⟨by (with_reducible repeat (first | apply Kd.R_alloc | apply Kd.R_drewN | apply Kd.R_drew)); first | exact HO_5.out | (have h_ := HO_5.out; simp only [Txt.own_map] at h_ ⊢; exact h_)⟩, ⟨by repeat (first | (with_reducible first | exact HB.out | apply below_alloc | apply pw_below_drewN | apply below_drew1) | exact HB.out)⟩⟩
            · replace c11 := Bool.eq_false_iff.mpr c11
              subst c11
              have H1 : (if 0 ≤ x14_1 then (if x14_1 < (t130.length : Int) then (if (rdOf ByteArray.empty t130 x14_1).toList = ([46, 46] : List UInt8) then (if (x4_1.length : Int) > 0 then (if 0 ≤ (wrap64 ((x4_1.length : Int) - 1)) then (if (wrap64 ((x4_1.length : Int) - 1)) < (x4_1.length : Int) then (spec_Clean.j2 kj6 t129 x4_1 t130 (t130.length : Int) x14_1 ((rdOf ByteArray.empty x4_1 (wrap64 ((x4_1.length : Int) - 1))).toList != ([46, 46] : List UInt8))) else (none)) else (none)) else (spec_Clean.j2 kj6 t129 x4_1 t130 (t130.length : Int) x14_1 false)) else (if x4_1.length < 8796093022208 then (spec_Clean.l0 kj6 t129 (x4_1 ++ [rdOf ByteArray.empty t130 x14_1]) t130 (t130.length : Int) (wrap64 (x14_1 + 1))) else (none))) else (none)) else (none)) = some r := by rw [if_neg (show ¬ (false = true) by decide)] at H; exact H
              clear H
              have H := H1
              clear H1
              by_cases c12 : 0 ≤ x14_1
              · rw [if_pos c12] at H
                have c12b0 : decide (0 ≤ x14_1) = true := decide_eq_true c12
                clear c12
                by_cases c13 : x14_1 < (t130.length : Int)
                · rw [if_pos c13] at H
                  have c13b0 : decide (x14_1 < (t130.length : Int)) = true := decide_eq_true c13
                  clear c13
                  by_cases c14 : (rdOf ByteArray.empty t130 x14_1).toList = ([46, 46] : List UInt8)
                  · rw [if_pos c14] at H
                    have c14b0 : ((rdOf ByteArray.empty t130 x14_1).toList == ([46, 46] : List UInt8)) = true := beq_iff_eq.mpr c14
                    have c14b1 : ((rdOf ByteArray.empty t130 x14_1).toList != ([46, 46] : List UInt8)) = false := bne_eq_false_iff_eq.mpr c14
                    clear c14
                    have HC15 := Aside0.mk H
                    clear H
                    have p135 : 0 ≤ (x14_1 : Int) := of_decide_eq_true (by first | (with_reducible assumption) | assumption)
                    have q135 : x14_1 < (t130.length : Int) := of_decide_eq_true (by first | (with_reducible assumption) | assumption)
                    obtain ⟨ad135, e135, hx135_0⟩ := Kd.at_string (Kd.R_reads' HO_5.out).2.2 x14_1 p135 q135
                    cases e135
                    replace p135 := eq_true p135
                    replace q135 := eq_true q135
                    go_upto_region 10 with (fail)
                    go_cut [43] (fun v43 wc => ∃ (kq : Nat) (x43_14 : Bool), v43 = .bool x43_14 ∧ Aside0 (spec_Clean.j2 kq t129 x4_1 t130 (t130.length : Int) x14_1 x43_14 = some r) ∧ Aside0 (kq ≤ kj6) ∧ Aside0 (Kd.R Kd.string 9 wc w.heap.size (fun k_ => some k_ ≠ ((.slice (some ad135) t130.length co5) : Value).ownBlock) u4 x4_1) ∧ Aside0 (Kd.R Kd.string 9 wc w.heap.size (fun k_ => some k_ ≠ (u4 : Value).ownBlock) (.slice (some ad135) t130.length co5) t130) ∧ Aside0 (Below w.heap.size w wc))
                    case first =>
                      have H := HC15.out
                      clear HC15
                      by_cases c16 : (x4_1.length : Int) > 0
                      · rw [if_pos c16] at H
                        have c16b0 : decide (0 < (x4_1.length : Int)) = true := decide_eq_true c16
                        have c16b1 : decide (0 < x4_1.length) = true := decide_eq_true (by omega)
                        clear c16
                        (first | rw [c16b0] | (simp only [i64_w, i32_w]; rw [c16b0]) | skip)
                        obtain ⟨ji17, hji17⟩ : ∃ j_ : Int, (wrap64 ((x4_1.length : Int) - 1)) = j_ := ⟨_, rfl⟩
                        replace H : (if 0 ≤ (ji17) then (if (ji17) < (x4_1.length : Int) then (spec_Clean.j2 kj6 t129 x4_1 t130 (t130.length : Int) x14_1 ((rdOf ByteArray.empty x4_1 (ji17)).toList != ([46, 46] : List UInt8))) else (none)) else (none)) = some r := by first | (rw [hji17] at H; exact H) | (simp only [hji17] at H ⊢; exact H)
                        have hji17w : (IntKind.i64.wrap ((x4_1.length : Int) - 1)) = ji17 := (i64_w _).trans hji17
                        by_cases c18 : 0 ≤ (ji17)
                        · rw [if_pos c18] at H
                          have c18b0 : decide (0 ≤ (ji17)) = true := decide_eq_true c18
                          clear c18
                          by_cases c19 : (ji17) < (x4_1.length : Int)
                          · rw [if_pos c19] at H
                            have c19b0 : decide ((ji17) < (x4_1.length : Int)) = true := decide_eq_true c19
                            clear c19
                            have H' := Aside0.mk H
                            clear H
                            obtain ⟨Ao20, co20, eo20⟩ := Kd.R_slice HO_4.out
                            subst eo20
                            have p136 : 0 ≤ ((ji17) : Int) := of_decide_eq_true (by first | (with_reducible assumption) | assumption)
                            have q136 : (ji17) < (x4_1.length : Int) := of_decide_eq_true (by first | (with_reducible assumption) | assumption)
                            obtain ⟨ad136, e136, hx136_0⟩ := Kd.at_string (Kd.R_reads' HO_4.out).2.2 (ji17) p136 q136
                            cases e136
                            replace p136 := eq_true p136
                            replace q136 := eq_true q136
                            go_wp2
                            go_meet
                            case rel => exact ⟨_, (((rdOf ByteArray.empty x4_1 (ji17)).toList != ([46, 46] : List UInt8))), (by first | rfl | (simp; done) | (simp only [← hji17] <;> (first | rfl | simp)) | (simp [*]; done)), H', ⟨by have := HK1.out; have := HJ6.out; first | omega | exact Nat.le_refl _⟩, ⟨by (with_reducible repeat (first | apply Kd.R_alloc | apply Kd.R_drewN | apply Kd.R_drew)); first | exact HO_4.out | (have h_ := HO_4.out; simp only [Txt.own_map] at h_ ⊢; exact h_)⟩, ⟨by (with_reducible repeat (first | apply Kd.R_alloc | apply Kd.R_drewN | apply Kd.R_drew)); first | exact HO_5.out | (have h_ := HO_5.out; simp only [Txt.own_map] at h_ ⊢; exact h_)⟩, ⟨by repeat (first | (with_reducible first | exact HB.out | apply below_alloc | apply pw_below_drewN | apply below_drew1) | exact HB.out)⟩⟩
                          · rw [if_neg c19] at H
                            exact absurd H (by simp)
                        · rw [if_neg c18] at H
                          exact absurd H (by simp)
                      · rw [if_neg c16] at H
                        have c16b0 : decide (0 < (x4_1.length : Int)) = false := decide_eq_false c16
                        have c16b1 : decide (0 < x4_1.length) = false := decide_eq_false (by omega)
                        clear c16
                        (first | rw [c16b0] | (simp only [i64_w, i32_w]; rw [c16b0]) | skip)
                        have H' := Aside0.mk H
                        clear H
                        obtain ⟨Ao21, co21, eo21⟩ := Kd.R_slice HO_4.out
                        subst eo21
                        go_wp2
                        go_meet
                        case rel => exact ⟨_, (false), (by first | rfl | (simp; done) | (simp [*]; done)), H', ⟨by have := HK1.out; have := HJ6.out; first | omega | exact Nat.le_refl _⟩, ⟨by (with_reducible repeat (first | apply Kd.R_alloc | apply Kd.R_drewN | apply Kd.R_drew)); first | exact HO_4.out | (have h_ := HO_4.out; simp only [Txt.own_map] at h_ ⊢; exact h_)⟩, ⟨by (with_reducible repeat (first | apply Kd.R_alloc | apply Kd.R_drewN | apply Kd.R_drew)); first | exact HO_5.out | (have h_ := HO_5.out; simp only [Txt.own_map] at h_ ⊢; exact h_)⟩, ⟨by repeat (first | (with_reducible first | exact HB.out | apply below_alloc | apply pw_below_drewN | apply below_drew1) | exact HB.out)⟩⟩
                    case rest =>
                      clear HC15
                      try clear c1
                      try clear p1
                      try clear q1
                      try clear hx1
                      try clear p2
                      try clear c6
                      try clear c6b0
                      try clear p6
                      try clear c8
                      try clear c8b0
                      try clear c9
                      try clear c9b0
                      try clear c10
                      try clear c10b0
                      try clear c10b1
                      try clear c11
                      try clear c12
                      try clear c12b0
                      try clear c13
                      try clear c13b0
                      try clear p13
                      try clear q13
                      try clear hx13
                      try clear c14
                      try clear c14b0
                      try clear c14b1
                      try clear c16
                      try clear c16b0
                      try clear c16b1
                      try clear c18
                      try clear c18b0
                      try clear c19
                      try clear c19b0
                      try clear hx133_0
                      try clear hx134_0
                      try clear hx135_0
                      try clear hx136_0
                      try clear p1
                      try clear p133
                      try clear p134
                      try clear p135
                      try clear p136
                      try clear p2
                      try clear q1
                      try clear q133
                      try clear q134
                      try clear q135
                      try clear q136
                      obtain ⟨kq, x43_14, rfl, HA, HJ14, HO_4, HO_5, HB⟩ := hcut
                      cases kq with
                      | zero => exact absurd HA.out (by simp [spec_Clean.j2])
                      | succ kj14 =>
                        have H := HA.out
                        clear HA
                        simp only [spec_Clean.j2] at H
                        by_cases c22 : x43_14 = true
                        · subst c22
                          have H1 : (if 0 ≤ (wrap64 ((x4_1.length : Int) - 1)) then (if (wrap64 ((x4_1.length : Int) - 1)) ≤ (x4_1.length : Int) then (spec_Clean.l0 kj14 t129 (x4_1.take ((wrap64 ((x4_1.length : Int) - 1)) : Int).toNat) t130 (t130.length : Int) (wrap64 (x14_1 + 1))) else (none)) else (none)) = some r := by rw [if_pos rfl] at H; exact H
                          clear H
                          have H := H1
                          clear H1
                          obtain ⟨ji23, hji23⟩ : ∃ j_ : Int, (wrap64 ((x4_1.length : Int) - 1)) = j_ := ⟨_, rfl⟩
                          replace H : (if 0 ≤ (ji23) then (if (ji23) ≤ (x4_1.length : Int) then (spec_Clean.l0 kj14 t129 (x4_1.take ((ji23) : Int).toNat) t130 (t130.length : Int) (wrap64 (x14_1 + 1))) else (none)) else (none)) = some r := by first | (rw [hji23] at H; exact H) | (simp only [hji23] at H ⊢; exact H)
                          have hji23w : (IntKind.i64.wrap ((x4_1.length : Int) - 1)) = ji23 := (i64_w _).trans hji23
                          by_cases c24 : 0 ≤ (ji23)
                          · rw [if_pos c24] at H
                            have c24b0 := eq_true c24
                            have c24b1 : decide (0 ≤ (ji23)) = true := decide_eq_true c24
                            clear c24
                            by_cases c25 : (ji23) ≤ (x4_1.length : Int)
                            · rw [if_pos c25] at H
                              have c25b0 := eq_true c25
                              have c25b1 : decide ((ji23) ≤ (x4_1.length : Int)) = true := decide_eq_true c25
                              clear c25
                              obtain ⟨y137, hy137⟩ : ∃ y_ : List ByteArray, y_ = (x4_1.take ((ji23) : Int).toNat) := ⟨_, rfl⟩
                              replace H : (spec_Clean.l0 kj14 t129 y137 t130 (t130.length : Int) (wrap64 (x14_1 + 1))) = some r := by first | (rw [hy137]; with_reducible exact H) | (have H2_ := (Option.bind_some _ _).symm.trans H; rw [hy137]; with_reducible exact H2_) | (have H2_ := (Option.bind_some _ _).symm.trans H; with_reducible exact H2_) | with_reducible exact H | (rw [hy137]; exact H) | exact H
                              have Ny137 := Aside0.mk hy137
                              clear hy137
                              have H' := Aside0.mk H
                              clear H
                              obtain ⟨Ao26, co26, eo26⟩ := Kd.R_slice HO_4.out
                              subst eo26
                              have q27 : ((ji23) : Int) ≤ ((x4_1.length : Int) : Int) := of_decide_eq_true (by first | (with_reducible assumption) | assumption)
                              obtain ⟨i027, hi027, _, hsz27, _⟩ := info_parts info9
                              have hcut27 := cut_to (P := Try.prog) 29 9 .i64 Try.underlying29 hi027 Ao26 x4_1.length co26 (ji23) (of_decide_eq_true (by first | (with_reducible assumption) | assumption)) q27 (Kd.R_reads' HO_4.out).2.1
                              have hr27 := Kd.R_take (m := ((ji23) : Int).toNat) HO_4.out (by omega)
                              have hy27 : y137.length = ((ji23) : Int).toNat := (by rw [Ny137.out, List.length_take]; omega)
                              rw [← Ny137.out] at hr27
                              rw [← hy27] at hr27 hcut27
                              clear hy27 hi027 hsz27 HO_4
                              have HO139 := Aside0.mk hr27
                              clear hr27
                              replace q27 := eq_true q27
                              go_wp2
                              go_roundg kj14
                              case measure => have := HK1.out; have := HJ6.out; have := HJ14.out; omega
                              case rel => exact ⟨(y137), (wrap64 (x14_1 + 1)), (by first | rfl | (simp; done) | (simp [*]; done)), H', ⟨by have := HK1.out; have := HJ6.out; have := HJ14.out; omega⟩, ⟨by (with_reducible repeat (first | apply Kd.R_alloc | apply Kd.R_drewN | apply Kd.R_drew)); first | exact HO139.out | (have h_ := HO139.out; simp only [Txt.own_map] at h_ ⊢; exact h_)⟩, ⟨by (with_reducible repeat (first | apply Kd.R_alloc | apply Kd.R_drewN | apply Kd.R_drew)); first | exact HO_5.out | (have h_ := HO_5.out; simp only [Txt.own_map] at h_ ⊢; exact h_)⟩, ⟨by repeat (first | (with_reducible first | exact HB.out | apply below_alloc | apply pw_below_drewN | apply below_drew1) | exact HB.out)⟩⟩
                            · rw [if_neg c25] at H
                              exact absurd H (by simp)
                          · rw [if_neg c24] at H
                            exact absurd H (by simp)
                        · replace c22 := Bool.eq_false_iff.mpr c22
                          subst c22
                          have H1 : (if t129 = true then (spec_Clean.l0 kj14 t129 x4_1 t130 (t130.length : Int) (wrap64 (x14_1 + 1))) else (if x4_1.length < 8796093022208 then (spec_Clean.l0 kj14 t129 (x4_1 ++ [(⟨#[46, 46]⟩ : ByteArray)]) t130 (t130.length : Int) (wrap64 (x14_1 + 1))) else (none))) = some r := by rw [if_neg (show ¬ (false = true) by decide)] at H; exact H
                          clear H
                          have H := H1
                          clear H1
                          by_cases c28 : t129 = true
                          · subst c28
                            have H1 : (spec_Clean.l0 kj14 true x4_1 t130 (t130.length : Int) (wrap64 (x14_1 + 1))) = some r := by rw [if_pos rfl] at H; exact H
                            clear H
                            have H := H1
                            clear H1
                            have H' := Aside0.mk H
                            clear H
                            go_wp2
                            go_roundg kj14
                            case measure => have := HK1.out; have := HJ6.out; have := HJ14.out; omega
                            case rel => exact ⟨(x4_1), (wrap64 (x14_1 + 1)), (by first | rfl | (simp; done) | (simp [*]; done)), H', ⟨by have := HK1.out; have := HJ6.out; have := HJ14.out; omega⟩, ⟨by (with_reducible repeat (first | apply Kd.R_alloc | apply Kd.R_drewN | apply Kd.R_drew)); first | exact HO_4.out | (have h_ := HO_4.out; simp only [Txt.own_map] at h_ ⊢; exact h_)⟩, ⟨by (with_reducible repeat (first | apply Kd.R_alloc | apply Kd.R_drewN | apply Kd.R_drew)); first | exact HO_5.out | (have h_ := HO_5.out; simp only [Txt.own_map] at h_ ⊢; exact h_)⟩, ⟨by repeat (first | (with_reducible first | exact HB.out | apply below_alloc | apply pw_below_drewN | apply below_drew1) | exact HB.out)⟩⟩
                          · replace c28 := Bool.eq_false_iff.mpr c28
                            subst c28
                            have H1 : (if x4_1.length < 8796093022208 then (spec_Clean.l0 kj14 false (x4_1 ++ [(⟨#[46, 46]⟩ : ByteArray)]) t130 (t130.length : Int) (wrap64 (x14_1 + 1))) else (none)) = some r := by rw [if_neg (show ¬ (false = true) by decide)] at H; exact H
                            clear H
                            have H := H1
                            clear H1
                            by_cases c29 : x4_1.length < 8796093022208
                            · rw [if_pos c29] at H
                              have LMc29 := Aside0.mk c29
                              clear c29
                              obtain ⟨y140, hy140⟩ : ∃ y_ : List ByteArray, y_ = (x4_1 ++ [(⟨#[46, 46]⟩ : ByteArray)]) := ⟨_, rfl⟩
                              replace H : (spec_Clean.l0 kj14 false y140 t130 (t130.length : Int) (wrap64 (x14_1 + 1))) = some r := by first | (rw [hy140]; with_reducible exact H) | (have H2_ := (Option.bind_some _ _).symm.trans H; rw [hy140]; with_reducible exact H2_) | (have H2_ := (Option.bind_some _ _).symm.trans H; with_reducible exact H2_) | with_reducible exact H | (rw [hy140]; exact H) | exact H
                              have Ny140 := Aside0.mk hy140
                              clear hy140
                              have H' := Aside0.mk H
                              clear H
                              go_wp2_with (first | ((with_reducible refine gate_builtin (b := .append) (xs := #[.tmp 64, .tmp 65]) rfl ?_); (try (refine gate_guard (by rfl) ?_; dsimp only)); at_builtin; refine Kd.R_append Kd.string (w0 := w) w.heap.size rfl (.tmp 64) (.tmp 65) 29 9 (.string ⟨#[]⟩) 16 rfl Try.underlying29 info9 rfl (by decide) (by omega) u4 x4_1 (⟨#[46, 46]⟩ : ByteArray) [.string (⟨#[46, 46]⟩ : ByteArray)] (fun k_ => some k_ ≠ (.slice (some ad135) t130.length co5 : Value).ownBlock) (fun _ => False) rfl rfl ?aP (fun _ hk => hk.elim) ?aF ?aO ?aB ?aS ?aL ?_; (case aP => exact rfl); (case aB => exact (by repeat (first | (with_reducible first | exact HB.out | apply below_alloc | apply pw_below_drewN | apply below_drew1) | exact HB.out))); (case aF => exact (fun k_ hk => Kd.fresh' (Kd.R_lt (by (with_reducible repeat (first | apply Kd.R_alloc | apply Kd.R_drewN | apply Kd.R_drew)); exact HO_5.out)) k_ hk)); (case aO => exact (by (with_reducible repeat (first | apply Kd.R_alloc | apply Kd.R_drewN | apply Kd.R_drew)); exact HO_4.out)); (case aS => exact (below_size (by repeat (first | (with_reducible first | exact HB.out | apply below_alloc | apply pw_below_drewN | apply below_drew1) | exact HB.out)))); (case aL => have := LMc29.out; omega); intro v141 w30 ho hb hg hat; rw [← Ny140.out] at ho; have n0_ := Aside0.mk (Kd.R_after (ok := (fun _ => True)) (by (with_reducible repeat (first | apply Kd.R_alloc | apply Kd.R_drewN | apply Kd.R_drew)); exact Kd.R_mono HO_5.out (fun _ hk => ⟨trivial, hk⟩)) hg hat); have n1_ := Aside0.mk (hb); have n2_ := Aside0.mk (ho); clear HO_5; clear HB; clear HO_4; have HO_5 := n0_; have HB := n1_; have HO142 := n2_; clear n0_ n1_ n2_; clear ho hb hg hat))
                              go_roundg kj14
                              case measure => have := HK1.out; have := HJ6.out; have := HJ14.out; omega
                              case rel => exact ⟨(y140), (wrap64 (x14_1 + 1)), (by first | rfl | (simp; done) | (simp [*]; done)), H', ⟨by have := HK1.out; have := HJ6.out; have := HJ14.out; omega⟩, ⟨by (with_reducible repeat (first | apply Kd.R_alloc | apply Kd.R_drewN | apply Kd.R_drew)); first | exact HO142.out | (have h_ := HO142.out; simp only [Txt.own_map] at h_ ⊢; exact h_)⟩, ⟨by (with_reducible repeat (first | apply Kd.R_alloc | apply Kd.R_drewN | apply Kd.R_drew)); exact Kd.R_mono HO_5.out (fun _ hk => hk.2)⟩, ⟨by repeat (first | (with_reducible first | exact HB.out | apply below_alloc | apply pw_below_drewN | apply below_drew1) | exact HB.out)⟩⟩
                            · rw [if_neg c29] at H
                              exact absurd H (by simp)
                  · rw [if_neg c14] at H
                    have c14b0 : ((rdOf ByteArray.empty t130 x14_1).toList == ([46, 46] : List UInt8)) = false := beq_eq_false_iff_ne.mpr c14
                    have c14b1 : ((rdOf ByteArray.empty t130 x14_1).toList != ([46, 46] : List UInt8)) = true := bne_iff_ne.mpr c14
                    by_cases c31 : x4_1.length < 8796093022208
                    · rw [if_pos c31] at H
                      have LMc31 := Aside0.mk c31
                      clear c31
                      obtain ⟨y144, hy144⟩ : ∃ y_ : List ByteArray, y_ = (x4_1 ++ [rdOf ByteArray.empty t130 x14_1]) := ⟨_, rfl⟩
                      replace H : (spec_Clean.l0 kj6 t129 y144 t130 (t130.length : Int) (wrap64 (x14_1 + 1))) = some r := by first | (rw [hy144]; with_reducible exact H) | (have H2_ := (Option.bind_some _ _).symm.trans H; rw [hy144]; with_reducible exact H2_) | (have H2_ := (Option.bind_some _ _).symm.trans H; with_reducible exact H2_) | with_reducible exact H | (rw [hy144]; exact H) | exact H
                      have Ny144 := Aside0.mk hy144
                      clear hy144
                      have H' := Aside0.mk H
                      clear H
                      have p135 : 0 ≤ (x14_1 : Int) := of_decide_eq_true (by first | (with_reducible assumption) | assumption)
                      have q135 : x14_1 < (t130.length : Int) := of_decide_eq_true (by first | (with_reducible assumption) | assumption)
                      obtain ⟨ad135, e135, hx135_0⟩ := Kd.at_string (Kd.R_reads' HO_5.out).2.2 x14_1 p135 q135
                      cases e135
                      replace p135 := eq_true p135
                      replace q135 := eq_true q135
                      have p143 : 0 ≤ (x14_1 : Int) := of_decide_eq_true (by first | (with_reducible assumption) | assumption)
                      have q143 : x14_1 < (t130.length : Int) := of_decide_eq_true (by first | (with_reducible assumption) | assumption)
                      obtain ⟨ad143, e143, hx143_0⟩ := Kd.at_string (Kd.R_reads' HO_5.out).2.2 x14_1 p143 q143
                      obtain rfl : ad135 = ad143 := (by injection e143)
                      replace p143 := eq_true p143
                      replace q143 := eq_true q143
                      go_wp2_with (first | ((with_reducible refine gate_builtin (b := .append) (xs := #[.tmp 36, .tmp 41]) rfl ?_); (try (refine gate_guard (by rfl) ?_; dsimp only)); at_builtin; refine Kd.R_append Kd.string (w0 := w) w.heap.size rfl (.tmp 36) (.tmp 41) 29 9 (.string ⟨#[]⟩) 16 rfl Try.underlying29 info9 rfl (by decide) (by omega) u4 x4_1 (rdOf ByteArray.empty t130 x14_1) [.string (rdOf ByteArray.empty t130 x14_1)] (fun k_ => some k_ ≠ (.slice (some ad135) t130.length co5 : Value).ownBlock) (fun _ => False) rfl rfl ?aP (fun _ hk => hk.elim) ?aF ?aO ?aB ?aS ?aL ?_; (case aP => exact rfl); (case aB => exact (by repeat (first | (with_reducible first | exact HB.out | apply below_alloc | apply pw_below_drewN | apply below_drew1) | exact HB.out))); (case aF => exact (fun k_ hk => Kd.fresh' (Kd.R_lt (by (with_reducible repeat (first | apply Kd.R_alloc | apply Kd.R_drewN | apply Kd.R_drew)); exact HO_5.out)) k_ hk)); (case aO => exact (by (with_reducible repeat (first | apply Kd.R_alloc | apply Kd.R_drewN | apply Kd.R_drew)); exact HO_4.out)); (case aS => exact (below_size (by repeat (first | (with_reducible first | exact HB.out | apply below_alloc | apply pw_below_drewN | apply below_drew1) | exact HB.out)))); (case aL => have := LMc31.out; omega); intro v145 w32 ho hb hg hat; rw [← Ny144.out] at ho; have n0_ := Aside0.mk (Kd.R_after (ok := (fun _ => True)) (by (with_reducible repeat (first | apply Kd.R_alloc | apply Kd.R_drewN | apply Kd.R_drew)); exact Kd.R_mono HO_5.out (fun _ hk => ⟨trivial, hk⟩)) hg hat); have n1_ := Aside0.mk (hb); have n2_ := Aside0.mk (ho); clear HO_5; clear HB; clear HO_4; have HO_5 := n0_; have HB := n1_; have HO146 := n2_; clear n0_ n1_ n2_; clear ho hb hg hat))
                      go_roundg kj6
                      case measure => have := HK1.out; have := HJ6.out; omega
                      case rel => exact ⟨(y144), (wrap64 (x14_1 + 1)), (by first | rfl | (simp; done) | (simp [*]; done)), H', ⟨by have := HK1.out; have := HJ6.out; omega⟩, ⟨by (with_reducible repeat (first | apply Kd.R_alloc | apply Kd.R_drewN | apply Kd.R_drew)); first | exact HO146.out | (have h_ := HO146.out; simp only [Txt.own_map] at h_ ⊢; exact h_)⟩, ⟨by (with_reducible repeat (first | apply Kd.R_alloc | apply Kd.R_drewN | apply Kd.R_drew)); exact Kd.R_mono HO_5.out (fun _ hk => hk.2)⟩, ⟨by repeat (first | (with_reducible first | exact HB.out | apply below_alloc | apply pw_below_drewN | apply below_drew1) | exact HB.out)⟩⟩
                    · rw [if_neg c31] at H
                      exact absurd H (by simp)
                · rw [if_neg c13] at H
                  exact absurd H (by simp)
              · rw [if_neg c12] at H
                exact absurd H (by simp)
      · rw [if_neg c6] at H
        have c6b0 : decide (x14_1 < (t130.length : Int)) = false := decide_eq_false c6
        clear c6
        replace H := Option.bind_eq_some_iff.mp H
        obtain ⟨t147, A330, H⟩ := H
        replace H : (if t129 = true then (if 1 + t147.size ≤ 9223372036854775807 then (some ((⟨#[47]⟩ : ByteArray) ++ t147)) else (none)) else (if t147.toList = ([] : List UInt8) then (some (⟨#[46]⟩ : ByteArray)) else (some t147))) = some r := H
        have A33 := Aside0.mk A330
        clear A330
        by_cases c34 : t129 = true
        · subst c34
          have H1 : (if 1 + t147.size ≤ 9223372036854775807 then (some ((⟨#[47]⟩ : ByteArray) ++ t147)) else (none)) = some r := by rw [if_pos rfl] at H; exact H
          clear H
          have H := H1
          clear H1
          by_cases c35 : 1 + t147.size ≤ 9223372036854775807
          · rw [if_pos c35] at H
            have c35b0 := eq_true c35
            have c35b1 : decide (1 + t147.size ≤ 9223372036854775807) = true := decide_eq_true c35
            try have c35b2 : (9223372036854775807 < 1 + t147.size) = False := eq_false (Nat.not_lt.2 c35)
            obtain rfl := Option.some.inj H
            obtain ⟨Ao36, co36, eo36⟩ := Kd.R_slice HO_4.out
            subst eo36
            go_wp2_with (first | ((with_reducible refine gate_callee (f := 28) rfl ?_); refine goesL_ (some 69) rfl rfl Try.func28 (by kernel_rfl) rfl #[.string (⟨#[47]⟩ : ByteArray), .slice Ao36 x4_1.length co36] rfl (by (try simp only [List.map_toArray, List.map_cons, List.map_nil]); first | done | rfl | (simp only [List.length_drop, List.length_take]; rfl)) ?_; (with_reducible refine (spec_Joined.calls k1 (⟨#[47]⟩ : ByteArray) _ _ x4_1 t147 _ ?side1 ?side2 A33.out).mono ?_); (case side1 => repeat (first | exact (Kd.R_reads' HO_4.out).2.2 | (with_reducible refine Kd.C_alloc ?_ _) | (with_reducible refine Kd.C_drewN ?_ _) | (with_reducible refine Kd.C_drew ?_))); (case side2 => exact (Kd.R_reads' HO_4.out).2.1); rintro e w' ⟨rfl, ⟨nd, rfl⟩⟩; refine ⟨_, rfl, ?_⟩))
            go_ret
            exact ⟨by first | rfl | (simp [errW_none, errW_some] <;> rfl) | (simp [*, errW_none, errW_some] <;> rfl), by repeat (first | (with_reducible first | exact HB.out | apply below_alloc | apply pw_below_drewN | apply below_drew1) | exact HB.out)⟩
          · rw [if_neg c35] at H
            exact absurd H (by simp)
        · replace c34 := Bool.eq_false_iff.mpr c34
          subst c34
          have H1 : (if t147.toList = ([] : List UInt8) then (some (⟨#[46]⟩ : ByteArray)) else (some t147)) = some r := by rw [if_neg (show ¬ (false = true) by decide)] at H; exact H
          clear H
          have H := H1
          clear H1
          by_cases c37 : t147.toList = ([] : List UInt8)
          · rw [if_pos c37] at H
            have c37b0 : (t147.toList == ([] : List UInt8)) = true := beq_iff_eq.mpr c37
            have c37b1 : (t147.toList != ([] : List UInt8)) = false := bne_eq_false_iff_eq.mpr c37
            clear c37
            obtain rfl := Option.some.inj H
            obtain ⟨Ao38, co38, eo38⟩ := Kd.R_slice HO_4.out
            subst eo38
            go_wp2_with (first | ((with_reducible refine gate_callee (f := 28) rfl ?_); refine goesL_ (some 69) rfl rfl Try.func28 (by kernel_rfl) rfl #[.string (⟨#[47]⟩ : ByteArray), .slice Ao38 x4_1.length co38] rfl (by (try simp only [List.map_toArray, List.map_cons, List.map_nil]); first | done | rfl | (simp only [List.length_drop, List.length_take]; rfl)) ?_; (with_reducible refine (spec_Joined.calls k1 (⟨#[47]⟩ : ByteArray) _ _ x4_1 t147 _ ?side1 ?side2 A33.out).mono ?_); (case side1 => repeat (first | exact (Kd.R_reads' HO_4.out).2.2 | (with_reducible refine Kd.C_alloc ?_ _) | (with_reducible refine Kd.C_drewN ?_ _) | (with_reducible refine Kd.C_drew ?_))); (case side2 => exact (Kd.R_reads' HO_4.out).2.1); rintro e w' ⟨rfl, ⟨nd, rfl⟩⟩; refine ⟨_, rfl, ?_⟩))
            go_ret
            exact ⟨by first | rfl | (simp [errW_none, errW_some] <;> rfl) | (simp [*, errW_none, errW_some] <;> rfl), by repeat (first | (with_reducible first | exact HB.out | apply below_alloc | apply pw_below_drewN | apply below_drew1) | exact HB.out)⟩
          · rw [if_neg c37] at H
            have c37b0 : (t147.toList == ([] : List UInt8)) = false := beq_eq_false_iff_ne.mpr c37
            have c37b1 : (t147.toList != ([] : List UInt8)) = true := bne_iff_ne.mpr c37
            obtain rfl := Option.some.inj H
            obtain ⟨Ao39, co39, eo39⟩ := Kd.R_slice HO_4.out
            subst eo39
            go_wp2_with (first | ((with_reducible refine gate_callee (f := 28) rfl ?_); refine goesL_ (some 69) rfl rfl Try.func28 (by kernel_rfl) rfl #[.string (⟨#[47]⟩ : ByteArray), .slice Ao39 x4_1.length co39] rfl (by (try simp only [List.map_toArray, List.map_cons, List.map_nil]); first | done | rfl | (simp only [List.length_drop, List.length_take]; rfl)) ?_; (with_reducible refine (spec_Joined.calls k1 (⟨#[47]⟩ : ByteArray) _ _ x4_1 t147 _ ?side1 ?side2 A33.out).mono ?_); (case side1 => repeat (first | exact (Kd.R_reads' HO_4.out).2.2 | (with_reducible refine Kd.C_alloc ?_ _) | (with_reducible refine Kd.C_drewN ?_ _) | (with_reducible refine Kd.C_drew ?_))); (case side2 => exact (Kd.R_reads' HO_4.out).2.1); rintro e w' ⟨rfl, ⟨nd, rfl⟩⟩; refine ⟨_, rfl, ?_⟩))
            go_ret
            exact ⟨by first | rfl | (simp [errW_none, errW_some] <;> rfl) | (simp [*, errW_none, errW_some] <;> rfl), by repeat (first | (with_reducible first | exact HB.out | apply below_alloc | apply pw_below_drewN | apply below_drew1) | exact HB.out)⟩

/-! ### spec_Dir: function 8 -/
def spec_Dir.l0 : Nat → ByteArray → Int → Option (ByteArray)
  | 0, _, _ => none
  | k + 1, x0, x3 => if x3 > 0 then (if 0 ≤ (wrap64 (x3 - 1)) then (if (wrap64 (x3 - 1)) < (x0.size : Int) then (if (bt x0 (wrap64 (x3 - 1))) = 47 then (if 0 ≤ x3 then (if x3 ≤ (x0.size : Int) then ((spec_Clean.f k (x0.extract 0 (x3 : Int).toNat)).bind fun t148 => (some t148)) else (none)) else (none)) else (spec_Dir.l0 k x0 (wrap64 (x3 - 1)))) else (none)) else (none)) else (if 0 ≤ x3 then (if x3 ≤ (x0.size : Int) then ((spec_Clean.f k (x0.extract 0 (x3 : Int).toNat)).bind fun t149 => (some t149)) else (none)) else (none))
def spec_Dir.f (k : Nat) (a0 : ByteArray) : Option (ByteArray) := spec_Dir.l0 k a0 (a0.size : Int)
theorem spec_Dir.mono_l : ∀ k, (∀ y0 y1, LeO (spec_Dir.l0 k y0 y1) (spec_Dir.l0 (k + 1) y0 y1))
  | 0 => fun _ _ r h => by simp [spec_Dir.l0] at h
  | k + 1 => by
    have ih0 := spec_Dir.mono_l k
    · intro y0 y1
      unfold spec_Dir.l0
      repeat' first
      | (with_reducible exact ih0 _ _)
      | (with_reducible exact spec_Clean.mono _ _)
      | (with_reducible exact LeO.refl _)
      | (with_reducible exact LeO.none _)
      | (with_reducible refine LeO.ite ?_ ?_)
      | (with_reducible refine LeO.bind ?_ (fun _ => ?_))
      | exact ih0 _ _
      | exact spec_Clean.mono _ _
      | exact LeO.none _
      | refine LeO.ite ?_ ?_
      | refine LeO.bind ?_ (fun _ => ?_)
theorem spec_Dir.mono : ∀ a0 k, LeO (spec_Dir.f k a0) (spec_Dir.f (k + 1) a0) := by
  intro a0 k
  have ih0 := spec_Dir.mono_l k
  unfold spec_Dir.f
  repeat' first
      | (with_reducible exact ih0 _ _)
      | (with_reducible exact spec_Clean.mono _ _)
      | (with_reducible exact LeO.refl _)
      | (with_reducible exact LeO.none _)
      | (with_reducible refine LeO.ite ?_ ?_)
      | (with_reducible refine LeO.bind ?_ (fun _ => ?_))
      | exact ih0 _ _
      | exact spec_Clean.mono _ _
      | exact LeO.none _
      | refine LeO.ite ?_ ?_
      | refine LeO.bind ?_ (fun _ => ?_)
set_option maxHeartbeats 8000000 in
set_option maxRecDepth 100000 in
theorem spec_Dir.calls (k : Nat) (a0 : ByteArray) (r : ByteArray) (w : World) (h : spec_Dir.f k a0 = some r) :
    Calls Try.prog 8 #[.string a0] w fun e w' => e = .returned (.string r) ∧ Below w.heap.size w w' := by
  have HB := Aside0.mk (Below.refl w.heap.size w)
  have H : (spec_Dir.l0 k a0 (a0.size : Int)) = some r := h
  clear h
  have H' := Aside0.mk H
  clear H
  go_enter Try.func8, Try.ntmps8
  go_wp2
  go_loopg [3] k (fun kq v3 w' => ∃ (x3_1 : Int), v3 = .int .i64 x3_1 ∧ Aside0 (spec_Dir.l0 kq a0 x3_1 = some r) ∧ Aside0 (kq ≤ k) ∧ Aside0 (Below w.heap.size w w'))
  case atStart => exact ⟨((a0.size : Int)), (by first | rfl | (simp; done) | (simp [*]; done)), H', ⟨Nat.le_refl _⟩, ⟨by repeat (first | (with_reducible first | exact HB.out | apply below_alloc | apply pw_below_drewN | apply below_drew1) | exact HB.out)⟩⟩
  case round =>
    clear H'
    obtain ⟨x3_1, rfl, HA, HK1, HB⟩ := hrel
    cases gk with
    | zero => exact absurd HA.out (by simp [spec_Dir.l0])
    | succ k1 =>
      have H := HA.out
      clear HA
      simp only [spec_Dir.l0] at H
      by_cases c2 : x3_1 > 0
      · rw [if_pos c2] at H
        have c2b0 : decide (0 < x3_1) = true := decide_eq_true c2
        clear c2
        obtain ⟨ji3, hji3⟩ : ∃ j_ : Int, (wrap64 (x3_1 - 1)) = j_ := ⟨_, rfl⟩
        replace H : (if 0 ≤ (ji3) then (if (ji3) < (a0.size : Int) then (if (bt a0 (ji3)) = 47 then (if 0 ≤ x3_1 then (if x3_1 ≤ (a0.size : Int) then ((spec_Clean.f k1 (a0.extract 0 (x3_1 : Int).toNat)).bind fun t148 => (some t148)) else (none)) else (none)) else (spec_Dir.l0 k1 a0 ji3)) else (none)) else (none)) = some r := by first | (rw [hji3] at H; exact H) | (simp only [hji3] at H ⊢; exact H)
        have hji3w : (IntKind.i64.wrap (x3_1 - 1)) = ji3 := (i64_w _).trans hji3
        by_cases c4 : 0 ≤ (ji3)
        · rw [if_pos c4] at H
          have c4b0 : decide (0 ≤ (ji3)) = true := decide_eq_true c4
          clear c4
          by_cases c5 : (ji3) < (a0.size : Int)
          · rw [if_pos c5] at H
            have c5b0 : decide ((ji3) < (a0.size : Int)) = true := decide_eq_true c5
            clear c5
            by_cases c7 : (bt a0 (ji3)) = 47
            · rw [if_pos c7] at H
              have c7b0 : ((bt a0 (ji3)) == 47) = true := beq_iff_eq.mpr c7
              have c7b1 : ((bt a0 (ji3)) != 47) = false := bne_eq_false_iff_eq.mpr c7
              clear c7
              by_cases c8 : 0 ≤ x3_1
              · rw [if_pos c8] at H
                have c8b0 := eq_true c8
                have c8b1 : decide (0 ≤ x3_1) = true := decide_eq_true c8
                clear c8
                by_cases c9 : x3_1 ≤ (a0.size : Int)
                · rw [if_pos c9] at H
                  have c9b0 := eq_true c9
                  have c9b1 : decide (x3_1 ≤ (a0.size : Int)) = true := decide_eq_true c9
                  clear c9
                  replace H := Option.bind_eq_some_iff.mp H
                  obtain ⟨t148, A100, H⟩ := H
                  replace H : (some t148) = some r := H
                  have A10 := Aside0.mk A100
                  clear A100
                  obtain rfl := Option.some.inj H
                  have p6 : 0 ≤ ((ji3) : Int) := of_decide_eq_true (by first | (with_reducible assumption) | assumption)
                  have q6 : (ji3) < (a0.size : Int) := of_decide_eq_true (by first | (with_reducible assumption) | assumption)
                  have hx6 := bt_at a0 (ji3)
                  replace p6 := eq_true p6
                  replace q6 := eq_true q6
                  go_wp2_with (first | ((with_reducible refine gate_callee (f := 18) rfl ?_); refine goesL_ (some 20) rfl rfl Try.func18 (by kernel_rfl) rfl #[.string (a0.extract 0 (x3_1 : Int).toNat)] rfl (by (try simp only [List.map_toArray, List.map_cons, List.map_nil]); first | done | rfl | (simp only [List.length_drop, List.length_take]; rfl)) ?_; (with_reducible refine (spec_Clean.calls k1 (a0.extract 0 (x3_1 : Int).toNat) t148 _ A10.out).mono ?_); rintro e w11 ⟨rfl, hb⟩; refine ⟨_, rfl, ?_⟩; have n0_ := Aside0.mk (below_step (by repeat (first | (with_reducible first | exact HB.out | apply below_alloc | apply pw_below_drewN | apply below_drew1) | exact HB.out)) hb); clear HB; have HB := n0_; clear n0_; (try clear hb); (try clear hb2); (try clear hk); (try clear hi)))
                  go_ret
                  exact ⟨by first | rfl | (simp [errW_none, errW_some] <;> rfl) | (simp only [← hji3]; first | rfl | (simp [errW_none, errW_some] <;> rfl)) | (simp [*, errW_none, errW_some] <;> rfl), by repeat (first | (with_reducible first | exact HB.out | apply below_alloc | apply pw_below_drewN | apply below_drew1) | exact HB.out)⟩
                · rw [if_neg c9] at H
                  exact absurd H (by simp)
              · rw [if_neg c8] at H
                exact absurd H (by simp)
            · rw [if_neg c7] at H
              have c7b0 : ((bt a0 (ji3)) == 47) = false := beq_eq_false_iff_ne.mpr c7
              have c7b1 : ((bt a0 (ji3)) != 47) = true := bne_iff_ne.mpr c7
              have H' := Aside0.mk H
              clear H
              have p6 : 0 ≤ ((ji3) : Int) := of_decide_eq_true (by first | (with_reducible assumption) | assumption)
              have q6 : (ji3) < (a0.size : Int) := of_decide_eq_true (by first | (with_reducible assumption) | assumption)
              have hx6 := bt_at a0 (ji3)
              replace p6 := eq_true p6
              replace q6 := eq_true q6
              go_wp2
              go_roundg k1
              case measure => have := HK1.out; omega
              case rel => exact ⟨(ji3), (by first | rfl | (simp; done) | (simp only [← hji3] <;> (first | rfl | simp)) | (simp [*]; done)), H', ⟨by have := HK1.out; omega⟩, ⟨by repeat (first | (with_reducible first | exact HB.out | apply below_alloc | apply pw_below_drewN | apply below_drew1) | exact HB.out)⟩⟩
          · rw [if_neg c5] at H
            exact absurd H (by simp)
        · rw [if_neg c4] at H
          exact absurd H (by simp)
      · rw [if_neg c2] at H
        have c2b0 : decide (0 < x3_1) = false := decide_eq_false c2
        clear c2
        by_cases c12 : 0 ≤ x3_1
        · rw [if_pos c12] at H
          have c12b0 := eq_true c12
          have c12b1 : decide (0 ≤ x3_1) = true := decide_eq_true c12
          clear c12
          by_cases c13 : x3_1 ≤ (a0.size : Int)
          · rw [if_pos c13] at H
            have c13b0 := eq_true c13
            have c13b1 : decide (x3_1 ≤ (a0.size : Int)) = true := decide_eq_true c13
            clear c13
            replace H := Option.bind_eq_some_iff.mp H
            obtain ⟨t149, A140, H⟩ := H
            replace H : (some t149) = some r := H
            have A14 := Aside0.mk A140
            clear A140
            obtain rfl := Option.some.inj H
            go_wp2_with (first | ((with_reducible refine gate_callee (f := 18) rfl ?_); refine goesL_ (some 20) rfl rfl Try.func18 (by kernel_rfl) rfl #[.string (a0.extract 0 (x3_1 : Int).toNat)] rfl (by (try simp only [List.map_toArray, List.map_cons, List.map_nil]); first | done | rfl | (simp only [List.length_drop, List.length_take]; rfl)) ?_; (with_reducible refine (spec_Clean.calls k1 (a0.extract 0 (x3_1 : Int).toNat) t149 _ A14.out).mono ?_); rintro e w15 ⟨rfl, hb⟩; refine ⟨_, rfl, ?_⟩; have n0_ := Aside0.mk (below_step (by repeat (first | (with_reducible first | exact HB.out | apply below_alloc | apply pw_below_drewN | apply below_drew1) | exact HB.out)) hb); clear HB; have HB := n0_; clear n0_; (try clear hb); (try clear hb2); (try clear hk); (try clear hi)))
            go_ret
            exact ⟨by first | rfl | (simp [errW_none, errW_some] <;> rfl) | (simp [*, errW_none, errW_some] <;> rfl), by repeat (first | (with_reducible first | exact HB.out | apply below_alloc | apply pw_below_drewN | apply below_drew1) | exact HB.out)⟩
          · rw [if_neg c13] at H
            exact absurd H (by simp)
        · rw [if_neg c12] at H
          exact absurd H (by simp)

end Go.Proofs.Ytpkdoinofenahaa.PFnElements
