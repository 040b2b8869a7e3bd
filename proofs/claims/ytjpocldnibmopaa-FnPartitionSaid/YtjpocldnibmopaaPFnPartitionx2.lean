-- Written by gprint.py (a program of this session, over the kit's print) out of Lean's own print of the program.
import Derived.Test.YtjpocldnibmopaaPFnPartitionx0
import Derived.Test.YtjpocldnibmopaaPFnPartitionx1
namespace Go.Proofs.Ytjpocldnibmopaa.PFnPartition
open Go.Proofs.Ytjpocldnibmopaa.Giv
open Go.RowKit Go.Proofs.YtjpocldnibmopaaW.PrintWords Go.Proofs.YtjpocldnibmopaaW.PrintLast Go.Proofs.YtjpocldnibmopaaW.PrintMore
attribute [local go_sem] max2_int min2_int max_two min_two max_three min_three max_four min_four   -- for this text's walks alone
set_option linter.unusedVariables false
set_option linter.unusedSimpArgs false

/-! ### laws_FnPartition: function 10 -/
mutual
def laws_FnPartition.j0 : Nat → ByteArray → ByteArray → Bool → Option (Bool)
  | 0, _, _, _ => none
  | k + 1, x0, x1, x20 => if x20 = true then (some true) else ((laws_text9.f k (([x0, x1] : List ByteArray))).bind fun t115 => (if t115 = true then (if x1.toList = ([] : List UInt8) then (laws_FnPartition.j1 k x0 x1 true) else (laws_FnPartition.j1 k x0 x1 (x0.toList == ([] : List UInt8)))) else (laws_FnPartition.j1 k x0 x1 true)))
def laws_FnPartition.j1 : Nat → ByteArray → ByteArray → Bool → Option (Bool)
  | 0, _, _, _ => none
  | k + 1, x0, x1, x33 => if x33 = true then (some true) else ((impl_PartitionOf.f k x0 x1).bind fun bt116 => ((impl_LastPartitionOf.f k x0 x1).bind fun bt119 => ((spec_Place.f k x1 x0 0).bind fun t122 => ((spec_LastPlace.f k x1 x0).bind fun t123 => (if t122 < 0 then (if bt116.1.toList = x0.toList then (if bt116.2.1.toList = ([] : List UInt8) then (if bt116.2.2.toList = ([] : List UInt8) then (if bt119.1.toList = ([] : List UInt8) then (if bt119.2.1.toList = ([] : List UInt8) then (some (bt119.2.2.toList == x0.toList)) else (some false)) else (some false)) else (some false)) else (some false)) else (some false)) else (if 0 ≤ t122 then (if t122 ≤ (x0.size : Int) then (if bt116.1.toList = (x0.extract 0 (t122 : Int).toNat).toList then (if bt116.2.1.toList = x1.toList then (if 0 ≤ (wrap64 (t122 + (x1.size : Int))) then (if (wrap64 (t122 + (x1.size : Int))) ≤ (x0.size : Int) then (if bt116.2.2.toList = (x0.extract ((wrap64 (t122 + (x1.size : Int))) : Int).toNat x0.size).toList then (if 0 ≤ t123 then (if t123 ≤ (x0.size : Int) then (if bt119.1.toList = (x0.extract 0 (t123 : Int).toNat).toList then (if bt119.2.1.toList = x1.toList then (if 0 ≤ (wrap64 (t123 + (x1.size : Int))) then (if (wrap64 (t123 + (x1.size : Int))) ≤ (x0.size : Int) then (some (bt119.2.2.toList == (x0.extract ((wrap64 (t123 + (x1.size : Int))) : Int).toNat x0.size).toList)) else (none)) else (none)) else (some false)) else (some false)) else (none)) else (none)) else (some false)) else (none)) else (none)) else (some false)) else (some false)) else (none)) else (none)))))))
end
def laws_FnPartition.f (k : Nat) (a0 : ByteArray) (a1 : ByteArray) : Option (Bool) := if (a0.size : Int) > 2147483647 then (laws_FnPartition.j0 k a0 a1 true) else (laws_FnPartition.j0 k a0 a1 (decide ((a1.size : Int) > 2147483647)))
theorem laws_FnPartition.mono_l : ∀ k, (∀ y0 y1 y2, LeO (laws_FnPartition.j0 k y0 y1 y2) (laws_FnPartition.j0 (k + 1) y0 y1 y2)) ∧ (∀ y0 y1 y2, LeO (laws_FnPartition.j1 k y0 y1 y2) (laws_FnPartition.j1 (k + 1) y0 y1 y2))
  | 0 => ⟨fun _ _ _ r h => by simp [laws_FnPartition.j0] at h, fun _ _ _ r h => by simp [laws_FnPartition.j1] at h⟩
  | k + 1 => by
    obtain ⟨ih0, ih1⟩ := laws_FnPartition.mono_l k
    refine ⟨?_, ?_⟩
    · intro y0 y1 y2
      unfold laws_FnPartition.j0
      repeat' first
      | (with_reducible exact ih0 _ _ _)
      | (with_reducible exact ih1 _ _ _)
      | (with_reducible exact impl_LastPartitionOf.mono _ _ _)
      | (with_reducible exact impl_PartitionOf.mono _ _ _)
      | (with_reducible exact laws_text9.mono _ _)
      | (with_reducible exact spec_LastPlace.mono _ _ _)
      | (with_reducible exact spec_Place.mono _ _ _ _)
      | (with_reducible exact LeO.refl _)
      | (with_reducible exact LeO.none _)
      | (with_reducible refine LeO.ite ?_ ?_)
      | (with_reducible refine LeO.bind ?_ (fun _ => ?_))
      | exact ih0 _ _ _
      | exact ih1 _ _ _
      | exact impl_LastPartitionOf.mono _ _ _
      | exact impl_PartitionOf.mono _ _ _
      | exact laws_text9.mono _ _
      | exact spec_LastPlace.mono _ _ _
      | exact spec_Place.mono _ _ _ _
      | exact LeO.none _
      | refine LeO.ite ?_ ?_
      | refine LeO.bind ?_ (fun _ => ?_)
    · intro y0 y1 y2
      unfold laws_FnPartition.j1
      repeat' first
      | (with_reducible exact ih0 _ _ _)
      | (with_reducible exact ih1 _ _ _)
      | (with_reducible exact impl_LastPartitionOf.mono _ _ _)
      | (with_reducible exact impl_PartitionOf.mono _ _ _)
      | (with_reducible exact laws_text9.mono _ _)
      | (with_reducible exact spec_LastPlace.mono _ _ _)
      | (with_reducible exact spec_Place.mono _ _ _ _)
      | (with_reducible exact LeO.refl _)
      | (with_reducible exact LeO.none _)
      | (with_reducible refine LeO.ite ?_ ?_)
      | (with_reducible refine LeO.bind ?_ (fun _ => ?_))
      | exact ih0 _ _ _
      | exact ih1 _ _ _
      | exact impl_LastPartitionOf.mono _ _ _
      | exact impl_PartitionOf.mono _ _ _
      | exact laws_text9.mono _ _
      | exact spec_LastPlace.mono _ _ _
      | exact spec_Place.mono _ _ _ _
      | exact LeO.none _
      | refine LeO.ite ?_ ?_
      | refine LeO.bind ?_ (fun _ => ?_)
theorem laws_FnPartition.mono : ∀ a0 a1 k, LeO (laws_FnPartition.f k a0 a1) (laws_FnPartition.f (k + 1) a0 a1) := by
  intro a0 a1 k
  obtain ⟨ih0, ih1⟩ := laws_FnPartition.mono_l k
  unfold laws_FnPartition.f
  repeat' first
      | (with_reducible exact ih0 _ _ _)
      | (with_reducible exact ih1 _ _ _)
      | (with_reducible exact impl_LastPartitionOf.mono _ _ _)
      | (with_reducible exact impl_PartitionOf.mono _ _ _)
      | (with_reducible exact laws_text9.mono _ _)
      | (with_reducible exact spec_LastPlace.mono _ _ _)
      | (with_reducible exact spec_Place.mono _ _ _ _)
      | (with_reducible exact LeO.refl _)
      | (with_reducible exact LeO.none _)
      | (with_reducible refine LeO.ite ?_ ?_)
      | (with_reducible refine LeO.bind ?_ (fun _ => ?_))
      | exact ih0 _ _ _
      | exact ih1 _ _ _
      | exact impl_LastPartitionOf.mono _ _ _
      | exact impl_PartitionOf.mono _ _ _
      | exact laws_text9.mono _ _
      | exact spec_LastPlace.mono _ _ _
      | exact spec_Place.mono _ _ _ _
      | exact LeO.none _
      | refine LeO.ite ?_ ?_
      | refine LeO.bind ?_ (fun _ => ?_)
set_option maxHeartbeats 8000000 in
set_option maxRecDepth 100000 in
theorem laws_FnPartition.calls (k : Nat) (a0 : ByteArray) (a1 : ByteArray) (r : Bool) (w : World) (h : laws_FnPartition.f k a0 a1 = some r) :
    Calls Try.prog 10 #[.string a0, .string a1] w fun e w' => e = .returned (.bool r) ∧ Below w.heap.size w w' := by
  have HB := Aside0.mk (Below.refl w.heap.size w)
  have H : (if (a0.size : Int) > 2147483647 then (laws_FnPartition.j0 k a0 a1 true) else (laws_FnPartition.j0 k a0 a1 (decide ((a1.size : Int) > 2147483647)))) = some r := h
  clear h
  have HC3 := Aside0.mk H
  clear H
  go_enter Try.func10, Try.ntmps10
  go_upto_region 1 with (fail)
  go_cut [20] (fun v20 wc => ∃ (kq : Nat) (x20_2 : Bool), v20 = .bool x20_2 ∧ Aside0 (laws_FnPartition.j0 kq a0 a1 x20_2 = some r) ∧ Aside0 (kq ≤ k) ∧ Aside0 (Below w.heap.size w wc))
  case first =>
    have H := HC3.out
    clear HC3
    by_cases c4 : (a0.size : Int) > 2147483647
    · rw [if_pos c4] at H
      have c4b0 : decide (2147483647 < (a0.size : Int)) = true := decide_eq_true c4
      have c4b1 : decide (2147483647 < a0.size) = true := decide_eq_true (by omega)
      clear c4
      (first | rw [c4b0] | (simp only [i64_w, i32_w]; rw [c4b0]) | skip)
      have H' := Aside0.mk H
      clear H
      go_wp2
      go_meet
      case rel => exact ⟨_, (true), (by first | rfl | (simp; done) | (simp [*]; done)), H', ⟨by first | omega | exact Nat.le_refl _⟩, ⟨by repeat (first | (with_reducible first | exact HB.out | apply below_alloc | apply pw_below_drewN | apply below_drew1) | exact HB.out)⟩⟩
    · rw [if_neg c4] at H
      have c4b0 : decide (2147483647 < (a0.size : Int)) = false := decide_eq_false c4
      have c4b1 : decide (2147483647 < a0.size) = false := decide_eq_false (by omega)
      clear c4
      (first | rw [c4b0] | (simp only [i64_w, i32_w]; rw [c4b0]) | skip)
      have H' := Aside0.mk H
      clear H
      go_wp2
      go_meet
      case rel => exact ⟨_, (decide ((a1.size : Int) > 2147483647)), (by first | rfl | (simp; done) | (simp [*]; done)), H', ⟨by first | omega | exact Nat.le_refl _⟩, ⟨by repeat (first | (with_reducible first | exact HB.out | apply below_alloc | apply pw_below_drewN | apply below_drew1) | exact HB.out)⟩⟩
  case rest =>
    clear HC3
    try clear c1
    try clear p2
    try clear c4
    try clear c4b0
    try clear c4b1
    obtain ⟨kq, x20_2, rfl, HA, HJ2, HB⟩ := hcut
    cases kq with
    | zero => exact absurd HA.out (by simp [laws_FnPartition.j0])
    | succ kj2 =>
      have H := HA.out
      clear HA
      simp only [laws_FnPartition.j0] at H
      by_cases c5 : x20_2 = true
      · subst c5
        have H1 : (some true) = some r := by rw [if_pos rfl] at H; exact H
        clear H
        have H := H1
        clear H1
        obtain rfl := Option.some.inj H
        go_wp2
        go_ret
        exact ⟨by first | rfl | (simp [errW_none, errW_some] <;> rfl) | (simp [*, errW_none, errW_some] <;> rfl), by repeat (first | (with_reducible first | exact HB.out | apply below_alloc | apply pw_below_drewN | apply below_drew1) | exact HB.out)⟩
      · replace c5 := Bool.eq_false_iff.mpr c5
        subst c5
        have H1 : ((laws_text9.f kj2 (([a0, a1] : List ByteArray))).bind fun t115 => (if t115 = true then (if a1.toList = ([] : List UInt8) then (laws_FnPartition.j1 kj2 a0 a1 true) else (laws_FnPartition.j1 kj2 a0 a1 (a0.toList == ([] : List UInt8)))) else (laws_FnPartition.j1 kj2 a0 a1 true))) = some r := by rw [if_neg (show ¬ (false = true) by decide)] at H; exact H
        clear H
        have H := H1
        clear H1
        have HC6 := Aside0.mk H
        clear H
        go_upto_region 3 with (fail)
        go_cut [33] (fun v33 wc => ∃ (kq : Nat) (x33_5 : Bool), v33 = .bool x33_5 ∧ Aside0 (laws_FnPartition.j1 kq a0 a1 x33_5 = some r) ∧ Aside0 (kq ≤ kj2) ∧ Aside0 (Below w.heap.size w wc))
        case first =>
          have H := HC6.out
          clear HC6
          obtain ⟨y112, hy112⟩ : ∃ y_ : List ByteArray, y_ = (([a0, a1] : List ByteArray)) := ⟨_, rfl⟩
          replace H : ((laws_text9.f kj2 y112).bind fun t115 => (if t115 = true then (if a1.toList = ([] : List UInt8) then (laws_FnPartition.j1 kj2 a0 a1 true) else (laws_FnPartition.j1 kj2 a0 a1 (a0.toList == ([] : List UInt8)))) else (laws_FnPartition.j1 kj2 a0 a1 true))) = some r := by first | (rw [hy112]; with_reducible exact H) | (have H2_ := (Option.bind_some _ _).symm.trans H; rw [hy112]; with_reducible exact H2_) | (have H2_ := (Option.bind_some _ _).symm.trans H; with_reducible exact H2_) | with_reducible exact H | (rw [hy112]; exact H) | exact H
          have Ny112 := Aside0.mk hy112
          clear hy112
          replace H := Option.bind_eq_some_iff.mp H
          obtain ⟨t115, A70, H⟩ := H
          replace H : (if t115 = true then (if a1.toList = ([] : List UInt8) then (laws_FnPartition.j1 kj2 a0 a1 true) else (laws_FnPartition.j1 kj2 a0 a1 (a0.toList == ([] : List UInt8)))) else (laws_FnPartition.j1 kj2 a0 a1 true)) = some r := H
          have A7 := Aside0.mk A70
          clear A70
          by_cases c8 : t115 = true
          · subst c8
            have H1 : (if a1.toList = ([] : List UInt8) then (laws_FnPartition.j1 kj2 a0 a1 true) else (laws_FnPartition.j1 kj2 a0 a1 (a0.toList == ([] : List UInt8)))) = some r := by rw [if_pos rfl] at H; exact H
            clear H
            have H := H1
            clear H1
            by_cases c9 : a1.toList = ([] : List UInt8)
            · rw [if_pos c9] at H
              have c9b0 : (a1.toList == ([] : List UInt8)) = true := beq_iff_eq.mpr c9
              have c9b1 : (a1.toList != ([] : List UInt8)) = false := bne_eq_false_iff_eq.mpr c9
              clear c9
              (first | rw [c9b0] | (simp only [i64_w, i32_w]; rw [c9b0]) | skip)
              have H' := Aside0.mk H
              clear H
              go_wp2_with (first | ((with_reducible refine gate_dst (N := 23) rfl ?_); (try (refine gate_guard (by rfl) ?_; dsimp only)); refine Kd.R_lit Kd.string _ 9 ?hg (N := 23) ?hd (xs := ([a0, a1] : List ByteArray)) (inner := [.string a0, .string a1]) (ok := fun _ => True) (okp := fun _ => True) ?hr ?hp (fun _ hk => hk) trivial (Below.refl _ _) (Nat.le_refl _) (by simp) ?_; (case hd => rfl); (case hg => rfl); (case hr => first | (go_simp; done) | (go_simp; rfl)); (case hp => exact (Reps.one (show Kd.M Kd.string _ _ _ a0 [.string a0] from rfl) (Reps.one (show Kd.M Kd.string _ _ _ a1 [.string a1] from rfl) (Reps.none _ _)))); intro v113 w10 ho11 hb hg_ hnew_; clear hg_ hnew_; (first | rw [← Ny112.out] at ho11 | (simp only [Int.reduceToNat] at ho11; rw [← Ny112.out] at ho11)); have n0_ := Aside0.mk (Kd.R_lower ho11 (below_size (by repeat (first | (with_reducible first | exact HB.out | apply below_alloc | apply pw_below_drewN | apply below_drew1) | exact HB.out)))); have n1_ := Aside0.mk (below_step (by repeat (first | (with_reducible first | exact HB.out | apply below_alloc | apply pw_below_drewN | apply below_drew1) | exact HB.out)) hb); clear HB; have HO114 := n0_; have HB := n1_; clear n0_ n1_; clear hb ho11; obtain ⟨Ao12, co12, eo12⟩ := Kd.R_slice HO114.out; subst eo12) | ((with_reducible refine gate_callee (f := 12) rfl ?_); refine goesL_ (some 24) rfl rfl Try.func12 (by kernel_rfl) rfl #[.slice Ao12 y112.length co12] rfl (by (try simp only [List.map_toArray, List.map_cons, List.map_nil]); first | done | rfl | (simp only [List.length_drop, List.length_take]; rfl)) ?_; (with_reducible refine (laws_text9.calls kj2 _ _ y112 true _ ?side1 ?side2 A7.out).mono ?_); (case side1 => repeat (first | exact (Kd.R_reads' HO114.out).2.2 | (with_reducible refine Kd.C_alloc ?_ _) | (with_reducible refine Kd.C_drewN ?_ _) | (with_reducible refine Kd.C_drew ?_))); (case side2 => exact (Kd.R_reads' HO114.out).2.1); rintro e w13 ⟨rfl, hb⟩; refine ⟨_, rfl, ?_⟩; have n0_ := Aside0.mk (Kd.R_below (by (with_reducible repeat (first | apply Kd.R_alloc | apply Kd.R_drewN | apply Kd.R_drew)); exact HO114.out) hb); have n1_ := Aside0.mk (below_step (by repeat (first | (with_reducible first | exact HB.out | apply below_alloc | apply pw_below_drewN | apply below_drew1) | exact HB.out)) hb); clear HO114; clear HB; have HO114 := n0_; have HB := n1_; clear n0_ n1_; (try clear hb); (try clear hb2); (try clear hk); (try clear hi)))
              go_meet
              case rel => exact ⟨_, (true), (by first | rfl | (simp; done) | (simp [*]; done)), H', ⟨by have := HJ2.out; first | omega | exact Nat.le_refl _⟩, ⟨by repeat (first | (with_reducible first | exact HB.out | apply below_alloc | apply pw_below_drewN | apply below_drew1) | exact HB.out)⟩⟩
            · rw [if_neg c9] at H
              have c9b0 : (a1.toList == ([] : List UInt8)) = false := beq_eq_false_iff_ne.mpr c9
              have c9b1 : (a1.toList != ([] : List UInt8)) = true := bne_iff_ne.mpr c9
              (first | rw [c9b0] | (simp only [i64_w, i32_w]; rw [c9b0]) | skip)
              have H' := Aside0.mk H
              clear H
              go_wp2_with (first | ((with_reducible refine gate_dst (N := 23) rfl ?_); (try (refine gate_guard (by rfl) ?_; dsimp only)); refine Kd.R_lit Kd.string _ 9 ?hg (N := 23) ?hd (xs := ([a0, a1] : List ByteArray)) (inner := [.string a0, .string a1]) (ok := fun _ => True) (okp := fun _ => True) ?hr ?hp (fun _ hk => hk) trivial (Below.refl _ _) (Nat.le_refl _) (by simp) ?_; (case hd => rfl); (case hg => rfl); (case hr => first | (go_simp; done) | (go_simp; rfl)); (case hp => exact (Reps.one (show Kd.M Kd.string _ _ _ a0 [.string a0] from rfl) (Reps.one (show Kd.M Kd.string _ _ _ a1 [.string a1] from rfl) (Reps.none _ _)))); intro v113 w14 ho15 hb hg_ hnew_; clear hg_ hnew_; (first | rw [← Ny112.out] at ho15 | (simp only [Int.reduceToNat] at ho15; rw [← Ny112.out] at ho15)); have n0_ := Aside0.mk (Kd.R_lower ho15 (below_size (by repeat (first | (with_reducible first | exact HB.out | apply below_alloc | apply pw_below_drewN | apply below_drew1) | exact HB.out)))); have n1_ := Aside0.mk (below_step (by repeat (first | (with_reducible first | exact HB.out | apply below_alloc | apply pw_below_drewN | apply below_drew1) | exact HB.out)) hb); clear HB; have HO114 := n0_; have HB := n1_; clear n0_ n1_; clear hb ho15; obtain ⟨Ao16, co16, eo16⟩ := Kd.R_slice HO114.out; subst eo16) | ((with_reducible refine gate_callee (f := 12) rfl ?_); refine goesL_ (some 24) rfl rfl Try.func12 (by kernel_rfl) rfl #[.slice Ao16 y112.length co16] rfl (by (try simp only [List.map_toArray, List.map_cons, List.map_nil]); first | done | rfl | (simp only [List.length_drop, List.length_take]; rfl)) ?_; (with_reducible refine (laws_text9.calls kj2 _ _ y112 true _ ?side1 ?side2 A7.out).mono ?_); (case side1 => repeat (first | exact (Kd.R_reads' HO114.out).2.2 | (with_reducible refine Kd.C_alloc ?_ _) | (with_reducible refine Kd.C_drewN ?_ _) | (with_reducible refine Kd.C_drew ?_))); (case side2 => exact (Kd.R_reads' HO114.out).2.1); rintro e w17 ⟨rfl, hb⟩; refine ⟨_, rfl, ?_⟩; have n0_ := Aside0.mk (Kd.R_below (by (with_reducible repeat (first | apply Kd.R_alloc | apply Kd.R_drewN | apply Kd.R_drew)); exact HO114.out) hb); have n1_ := Aside0.mk (below_step (by repeat (first | (with_reducible first | exact HB.out | apply below_alloc | apply pw_below_drewN | apply below_drew1) | exact HB.out)) hb); clear HO114; clear HB; have HO114 := n0_; have HB := n1_; clear n0_ n1_; (try clear hb); (try clear hb2); (try clear hk); (try clear hi)))
              go_meet
              case rel => exact ⟨_, ((a0.toList == ([] : List UInt8))), (by first | rfl | (simp; done) | (simp [*]; done)), H', ⟨by have := HJ2.out; first | omega | exact Nat.le_refl _⟩, ⟨by repeat (first | (with_reducible first | exact HB.out | apply below_alloc | apply pw_below_drewN | apply below_drew1) | exact HB.out)⟩⟩
          · replace c8 := Bool.eq_false_iff.mpr c8
            subst c8
            have H1 : (laws_FnPartition.j1 kj2 a0 a1 true) = some r := by rw [if_neg (show ¬ (false = true) by decide)] at H; exact H
            clear H
            have H := H1
            clear H1
            have H' := Aside0.mk H
            clear H
            go_wp2_with (first | ((with_reducible refine gate_dst (N := 23) rfl ?_); (try (refine gate_guard (by rfl) ?_; dsimp only)); refine Kd.R_lit Kd.string _ 9 ?hg (N := 23) ?hd (xs := ([a0, a1] : List ByteArray)) (inner := [.string a0, .string a1]) (ok := fun _ => True) (okp := fun _ => True) ?hr ?hp (fun _ hk => hk) trivial (Below.refl _ _) (Nat.le_refl _) (by simp) ?_; (case hd => rfl); (case hg => rfl); (case hr => first | (go_simp; done) | (go_simp; rfl)); (case hp => exact (Reps.one (show Kd.M Kd.string _ _ _ a0 [.string a0] from rfl) (Reps.one (show Kd.M Kd.string _ _ _ a1 [.string a1] from rfl) (Reps.none _ _)))); intro v113 w18 ho19 hb hg_ hnew_; clear hg_ hnew_; (first | rw [← Ny112.out] at ho19 | (simp only [Int.reduceToNat] at ho19; rw [← Ny112.out] at ho19)); have n0_ := Aside0.mk (Kd.R_lower ho19 (below_size (by repeat (first | (with_reducible first | exact HB.out | apply below_alloc | apply pw_below_drewN | apply below_drew1) | exact HB.out)))); have n1_ := Aside0.mk (below_step (by repeat (first | (with_reducible first | exact HB.out | apply below_alloc | apply pw_below_drewN | apply below_drew1) | exact HB.out)) hb); clear HB; have HO114 := n0_; have HB := n1_; clear n0_ n1_; clear hb ho19; obtain ⟨Ao20, co20, eo20⟩ := Kd.R_slice HO114.out; subst eo20) | ((with_reducible refine gate_callee (f := 12) rfl ?_); refine goesL_ (some 24) rfl rfl Try.func12 (by kernel_rfl) rfl #[.slice Ao20 y112.length co20] rfl (by (try simp only [List.map_toArray, List.map_cons, List.map_nil]); first | done | rfl | (simp only [List.length_drop, List.length_take]; rfl)) ?_; (with_reducible refine (laws_text9.calls kj2 _ _ y112 false _ ?side1 ?side2 A7.out).mono ?_); (case side1 => repeat (first | exact (Kd.R_reads' HO114.out).2.2 | (with_reducible refine Kd.C_alloc ?_ _) | (with_reducible refine Kd.C_drewN ?_ _) | (with_reducible refine Kd.C_drew ?_))); (case side2 => exact (Kd.R_reads' HO114.out).2.1); rintro e w21 ⟨rfl, hb⟩; refine ⟨_, rfl, ?_⟩; have n0_ := Aside0.mk (Kd.R_below (by (with_reducible repeat (first | apply Kd.R_alloc | apply Kd.R_drewN | apply Kd.R_drew)); exact HO114.out) hb); have n1_ := Aside0.mk (below_step (by repeat (first | (with_reducible first | exact HB.out | apply below_alloc | apply pw_below_drewN | apply below_drew1) | exact HB.out)) hb); clear HO114; clear HB; have HO114 := n0_; have HB := n1_; clear n0_ n1_; (try clear hb); (try clear hb2); (try clear hk); (try clear hi)))
            go_meet
            case rel => exact ⟨_, (true), (by first | rfl | (simp; done) | (simp [*]; done)), H', ⟨by have := HJ2.out; first | omega | exact Nat.le_refl _⟩, ⟨by repeat (first | (with_reducible first | exact HB.out | apply below_alloc | apply pw_below_drewN | apply below_drew1) | exact HB.out)⟩⟩
        case rest =>
          clear HC6
          try clear c1
          try clear p2
          try clear c4
          try clear c4b0
          try clear c4b1
          try clear c5
          try clear c8
          try clear c9
          try clear c9b0
          try clear c9b1
          try clear c10
          try clear c12
          try clear p2
          obtain ⟨kq, x33_5, rfl, HA, HJ5, HB⟩ := hcut
          cases kq with
          | zero => exact absurd HA.out (by simp [laws_FnPartition.j1])
          | succ kj5 =>
            have H := HA.out
            clear HA
            simp only [laws_FnPartition.j1] at H
            by_cases c22 : x33_5 = true
            · subst c22
              have H1 : (some true) = some r := by rw [if_pos rfl] at H; exact H
              clear H
              have H := H1
              clear H1
              obtain rfl := Option.some.inj H
              go_wp2
              go_ret
              exact ⟨by first | rfl | (simp [errW_none, errW_some] <;> rfl) | (simp [*, errW_none, errW_some] <;> rfl), by repeat (first | (with_reducible first | exact HB.out | apply below_alloc | apply pw_below_drewN | apply below_drew1) | exact HB.out)⟩
            · replace c22 := Bool.eq_false_iff.mpr c22
              subst c22
              have H1 : ((impl_PartitionOf.f kj5 a0 a1).bind fun bt116 => ((impl_LastPartitionOf.f kj5 a0 a1).bind fun bt119 => ((spec_Place.f kj5 a1 a0 0).bind fun t122 => ((spec_LastPlace.f kj5 a1 a0).bind fun t123 => (if t122 < 0 then (if bt116.1.toList = a0.toList then (if bt116.2.1.toList = ([] : List UInt8) then (if bt116.2.2.toList = ([] : List UInt8) then (if bt119.1.toList = ([] : List UInt8) then (if bt119.2.1.toList = ([] : List UInt8) then (some (bt119.2.2.toList == a0.toList)) else (some false)) else (some false)) else (some false)) else (some false)) else (some false)) else (if 0 ≤ t122 then (if t122 ≤ (a0.size : Int) then (if bt116.1.toList = (a0.extract 0 (t122 : Int).toNat).toList then (if bt116.2.1.toList = a1.toList then (if 0 ≤ (wrap64 (t122 + (a1.size : Int))) then (if (wrap64 (t122 + (a1.size : Int))) ≤ (a0.size : Int) then (if bt116.2.2.toList = (a0.extract ((wrap64 (t122 + (a1.size : Int))) : Int).toNat a0.size).toList then (if 0 ≤ t123 then (if t123 ≤ (a0.size : Int) then (if bt119.1.toList = (a0.extract 0 (t123 : Int).toNat).toList then (if bt119.2.1.toList = a1.toList then (if 0 ≤ (wrap64 (t123 + (a1.size : Int))) then (if (wrap64 (t123 + (a1.size : Int))) ≤ (a0.size : Int) then (some (bt119.2.2.toList == (a0.extract ((wrap64 (t123 + (a1.size : Int))) : Int).toNat a0.size).toList)) else (none)) else (none)) else (some false)) else (some false)) else (none)) else (none)) else (some false)) else (none)) else (none)) else (some false)) else (some false)) else (none)) else (none))))))) = some r := by rw [if_neg (show ¬ (false = true) by decide)] at H; exact H
              clear H
              have H := H1
              clear H1
              replace H := Option.bind_eq_some_iff.mp H
              obtain ⟨⟨t116, t117, t118⟩, A230, H⟩ := H
              replace H : ((impl_LastPartitionOf.f kj5 a0 a1).bind fun bt119 => ((spec_Place.f kj5 a1 a0 0).bind fun t122 => ((spec_LastPlace.f kj5 a1 a0).bind fun t123 => (if t122 < 0 then (if t116.toList = a0.toList then (if t117.toList = ([] : List UInt8) then (if t118.toList = ([] : List UInt8) then (if bt119.1.toList = ([] : List UInt8) then (if bt119.2.1.toList = ([] : List UInt8) then (some (bt119.2.2.toList == a0.toList)) else (some false)) else (some false)) else (some false)) else (some false)) else (some false)) else (if 0 ≤ t122 then (if t122 ≤ (a0.size : Int) then (if t116.toList = (a0.extract 0 (t122 : Int).toNat).toList then (if t117.toList = a1.toList then (if 0 ≤ (wrap64 (t122 + (a1.size : Int))) then (if (wrap64 (t122 + (a1.size : Int))) ≤ (a0.size : Int) then (if t118.toList = (a0.extract ((wrap64 (t122 + (a1.size : Int))) : Int).toNat a0.size).toList then (if 0 ≤ t123 then (if t123 ≤ (a0.size : Int) then (if bt119.1.toList = (a0.extract 0 (t123 : Int).toNat).toList then (if bt119.2.1.toList = a1.toList then (if 0 ≤ (wrap64 (t123 + (a1.size : Int))) then (if (wrap64 (t123 + (a1.size : Int))) ≤ (a0.size : Int) then (some (bt119.2.2.toList == (a0.extract ((wrap64 (t123 + (a1.size : Int))) : Int).toNat a0.size).toList)) else (none)) else (none)) else (some false)) else (some false)) else (none)) else (none)) else (some false)) else (none)) else (none)) else (some false)) else (some false)) else (none)) else (none)))))) = some r := H
              have A23 := Aside0.mk A230
              clear A230
              replace H := Option.bind_eq_some_iff.mp H
              obtain ⟨⟨t119, t120, t121⟩, A240, H⟩ := H
              replace H : ((spec_Place.f kj5 a1 a0 0).bind fun t122 => ((spec_LastPlace.f kj5 a1 a0).bind fun t123 => (if t122 < 0 then (if t116.toList = a0.toList then (if t117.toList = ([] : List UInt8) then (if t118.toList = ([] : List UInt8) then (if t119.toList = ([] : List UInt8) then (if t120.toList = ([] : List UInt8) then (some (t121.toList == a0.toList)) else (some false)) else (some false)) else (some false)) else (some false)) else (some false)) else (if 0 ≤ t122 then (if t122 ≤ (a0.size : Int) then (if t116.toList = (a0.extract 0 (t122 : Int).toNat).toList then (if t117.toList = a1.toList then (if 0 ≤ (wrap64 (t122 + (a1.size : Int))) then (if (wrap64 (t122 + (a1.size : Int))) ≤ (a0.size : Int) then (if t118.toList = (a0.extract ((wrap64 (t122 + (a1.size : Int))) : Int).toNat a0.size).toList then (if 0 ≤ t123 then (if t123 ≤ (a0.size : Int) then (if t119.toList = (a0.extract 0 (t123 : Int).toNat).toList then (if t120.toList = a1.toList then (if 0 ≤ (wrap64 (t123 + (a1.size : Int))) then (if (wrap64 (t123 + (a1.size : Int))) ≤ (a0.size : Int) then (some (t121.toList == (a0.extract ((wrap64 (t123 + (a1.size : Int))) : Int).toNat a0.size).toList)) else (none)) else (none)) else (some false)) else (some false)) else (none)) else (none)) else (some false)) else (none)) else (none)) else (some false)) else (some false)) else (none)) else (none))))) = some r := H
              have A24 := Aside0.mk A240
              clear A240
              replace H := Option.bind_eq_some_iff.mp H
              obtain ⟨t122, A250, H⟩ := H
              replace H : ((spec_LastPlace.f kj5 a1 a0).bind fun t123 => (if t122 < 0 then (if t116.toList = a0.toList then (if t117.toList = ([] : List UInt8) then (if t118.toList = ([] : List UInt8) then (if t119.toList = ([] : List UInt8) then (if t120.toList = ([] : List UInt8) then (some (t121.toList == a0.toList)) else (some false)) else (some false)) else (some false)) else (some false)) else (some false)) else (if 0 ≤ t122 then (if t122 ≤ (a0.size : Int) then (if t116.toList = (a0.extract 0 (t122 : Int).toNat).toList then (if t117.toList = a1.toList then (if 0 ≤ (wrap64 (t122 + (a1.size : Int))) then (if (wrap64 (t122 + (a1.size : Int))) ≤ (a0.size : Int) then (if t118.toList = (a0.extract ((wrap64 (t122 + (a1.size : Int))) : Int).toNat a0.size).toList then (if 0 ≤ t123 then (if t123 ≤ (a0.size : Int) then (if t119.toList = (a0.extract 0 (t123 : Int).toNat).toList then (if t120.toList = a1.toList then (if 0 ≤ (wrap64 (t123 + (a1.size : Int))) then (if (wrap64 (t123 + (a1.size : Int))) ≤ (a0.size : Int) then (some (t121.toList == (a0.extract ((wrap64 (t123 + (a1.size : Int))) : Int).toNat a0.size).toList)) else (none)) else (none)) else (some false)) else (some false)) else (none)) else (none)) else (some false)) else (none)) else (none)) else (some false)) else (some false)) else (none)) else (none)))) = some r := H
              have A25 := Aside0.mk A250
              clear A250
              replace H := Option.bind_eq_some_iff.mp H
              obtain ⟨t123, A260, H⟩ := H
              replace H : (if t122 < 0 then (if t116.toList = a0.toList then (if t117.toList = ([] : List UInt8) then (if t118.toList = ([] : List UInt8) then (if t119.toList = ([] : List UInt8) then (if t120.toList = ([] : List UInt8) then (some (t121.toList == a0.toList)) else (some false)) else (some false)) else (some false)) else (some false)) else (some false)) else (if 0 ≤ t122 then (if t122 ≤ (a0.size : Int) then (if t116.toList = (a0.extract 0 (t122 : Int).toNat).toList then (if t117.toList = a1.toList then (if 0 ≤ (wrap64 (t122 + (a1.size : Int))) then (if (wrap64 (t122 + (a1.size : Int))) ≤ (a0.size : Int) then (if t118.toList = (a0.extract ((wrap64 (t122 + (a1.size : Int))) : Int).toNat a0.size).toList then (if 0 ≤ t123 then (if t123 ≤ (a0.size : Int) then (if t119.toList = (a0.extract 0 (t123 : Int).toNat).toList then (if t120.toList = a1.toList then (if 0 ≤ (wrap64 (t123 + (a1.size : Int))) then (if (wrap64 (t123 + (a1.size : Int))) ≤ (a0.size : Int) then (some (t121.toList == (a0.extract ((wrap64 (t123 + (a1.size : Int))) : Int).toNat a0.size).toList)) else (none)) else (none)) else (some false)) else (some false)) else (none)) else (none)) else (some false)) else (none)) else (none)) else (some false)) else (some false)) else (none)) else (none))) = some r := H
              have A26 := Aside0.mk A260
              clear A260
              by_cases c27 : t122 < 0
              · rw [if_pos c27] at H
                have c27b0 : decide (t122 < 0) = true := decide_eq_true c27
                clear c27
                by_cases c28 : t116.toList = a0.toList
                · rw [if_pos c28] at H
                  have c28b0 : (t116.toList == a0.toList) = true := beq_iff_eq.mpr c28
                  have c28b1 : (t116.toList != a0.toList) = false := bne_eq_false_iff_eq.mpr c28
                  clear c28
                  by_cases c29 : t117.toList = ([] : List UInt8)
                  · rw [if_pos c29] at H
                    have c29b0 : (t117.toList == ([] : List UInt8)) = true := beq_iff_eq.mpr c29
                    have c29b1 : (t117.toList != ([] : List UInt8)) = false := bne_eq_false_iff_eq.mpr c29
                    clear c29
                    by_cases c30 : t118.toList = ([] : List UInt8)
                    · rw [if_pos c30] at H
                      have c30b0 : (t118.toList == ([] : List UInt8)) = true := beq_iff_eq.mpr c30
                      have c30b1 : (t118.toList != ([] : List UInt8)) = false := bne_eq_false_iff_eq.mpr c30
                      clear c30
                      by_cases c31 : t119.toList = ([] : List UInt8)
                      · rw [if_pos c31] at H
                        have c31b0 : (t119.toList == ([] : List UInt8)) = true := beq_iff_eq.mpr c31
                        have c31b1 : (t119.toList != ([] : List UInt8)) = false := bne_eq_false_iff_eq.mpr c31
                        clear c31
                        by_cases c32 : t120.toList = ([] : List UInt8)
                        · rw [if_pos c32] at H
                          have c32b0 : (t120.toList == ([] : List UInt8)) = true := beq_iff_eq.mpr c32
                          have c32b1 : (t120.toList != ([] : List UInt8)) = false := bne_eq_false_iff_eq.mpr c32
                          clear c32
                          obtain rfl := Option.some.inj H
                          go_wp2_with (first | ((with_reducible refine gate_callee (f := 30) rfl ?_); refine goesL_ (some 37) rfl rfl Try.func30 (by kernel_rfl) rfl #[.string a0, .string a1] rfl (by (try simp only [List.map_toArray, List.map_cons, List.map_nil]); first | done | rfl | (simp only [List.length_drop, List.length_take]; rfl)) ?_; (with_reducible refine (impl_PartitionOf.calls kj5 a0 a1 t116 t117 t118 _ A23.out).mono ?_); rintro e w' ⟨rfl, ⟨nd, rfl⟩⟩; refine ⟨_, rfl, ?_⟩) | ((with_reducible refine gate_callee (f := 31) rfl ?_); refine goesL_ (some 44) rfl rfl Try.func31 (by kernel_rfl) rfl #[.string a0, .string a1] rfl (by (try simp only [List.map_toArray, List.map_cons, List.map_nil]); first | done | rfl | (simp only [List.length_drop, List.length_take]; rfl)) ?_; (with_reducible refine (impl_LastPartitionOf.calls kj5 a0 a1 t119 t120 t121 _ A24.out).mono ?_); rintro e w' ⟨rfl, ⟨nd, rfl⟩⟩; refine ⟨_, rfl, ?_⟩) | ((with_reducible refine gate_callee (f := 32) rfl ?_); refine goesL_ (some 50) rfl rfl Try.func32 (by kernel_rfl) rfl #[.string a1, .string a0, .int .i64 0] rfl (by (try simp only [List.map_toArray, List.map_cons, List.map_nil]); first | done | rfl | (simp only [List.length_drop, List.length_take]; rfl)) ?_; (with_reducible refine (spec_Place.calls kj5 a1 a0 0 t122 _ A25.out).mono ?_); rintro e w' ⟨rfl, ⟨nd, rfl⟩⟩; refine ⟨_, rfl, ?_⟩) | ((with_reducible refine gate_callee (f := 33) rfl ?_); refine goesL_ (some 53) rfl rfl Try.func33 (by kernel_rfl) rfl #[.string a1, .string a0] rfl (by (try simp only [List.map_toArray, List.map_cons, List.map_nil]); first | done | rfl | (simp only [List.length_drop, List.length_take]; rfl)) ?_; (with_reducible refine (spec_LastPlace.calls kj5 a1 a0 t123 _ A26.out).mono ?_); rintro e w' ⟨rfl, ⟨nd, rfl⟩⟩; refine ⟨_, rfl, ?_⟩))
                          go_ret
                          exact ⟨by first | rfl | (simp [errW_none, errW_some] <;> rfl) | (simp [*, errW_none, errW_some] <;> rfl), by repeat (first | (with_reducible first | exact HB.out | apply below_alloc | apply pw_below_drewN | apply below_drew1) | exact HB.out)⟩
                        · rw [if_neg c32] at H
                          have c32b0 : (t120.toList == ([] : List UInt8)) = false := beq_eq_false_iff_ne.mpr c32
                          have c32b1 : (t120.toList != ([] : List UInt8)) = true := bne_iff_ne.mpr c32
                          obtain rfl := Option.some.inj H
                          go_wp2_with (first | ((with_reducible refine gate_callee (f := 30) rfl ?_); refine goesL_ (some 37) rfl rfl Try.func30 (by kernel_rfl) rfl #[.string a0, .string a1] rfl (by (try simp only [List.map_toArray, List.map_cons, List.map_nil]); first | done | rfl | (simp only [List.length_drop, List.length_take]; rfl)) ?_; (with_reducible refine (impl_PartitionOf.calls kj5 a0 a1 t116 t117 t118 _ A23.out).mono ?_); rintro e w' ⟨rfl, ⟨nd, rfl⟩⟩; refine ⟨_, rfl, ?_⟩) | ((with_reducible refine gate_callee (f := 31) rfl ?_); refine goesL_ (some 44) rfl rfl Try.func31 (by kernel_rfl) rfl #[.string a0, .string a1] rfl (by (try simp only [List.map_toArray, List.map_cons, List.map_nil]); first | done | rfl | (simp only [List.length_drop, List.length_take]; rfl)) ?_; (with_reducible refine (impl_LastPartitionOf.calls kj5 a0 a1 t119 t120 t121 _ A24.out).mono ?_); rintro e w' ⟨rfl, ⟨nd, rfl⟩⟩; refine ⟨_, rfl, ?_⟩) | ((with_reducible refine gate_callee (f := 32) rfl ?_); refine goesL_ (some 50) rfl rfl Try.func32 (by kernel_rfl) rfl #[.string a1, .string a0, .int .i64 0] rfl (by (try simp only [List.map_toArray, List.map_cons, List.map_nil]); first | done | rfl | (simp only [List.length_drop, List.length_take]; rfl)) ?_; (with_reducible refine (spec_Place.calls kj5 a1 a0 0 t122 _ A25.out).mono ?_); rintro e w' ⟨rfl, ⟨nd, rfl⟩⟩; refine ⟨_, rfl, ?_⟩) | ((with_reducible refine gate_callee (f := 33) rfl ?_); refine goesL_ (some 53) rfl rfl Try.func33 (by kernel_rfl) rfl #[.string a1, .string a0] rfl (by (try simp only [List.map_toArray, List.map_cons, List.map_nil]); first | done | rfl | (simp only [List.length_drop, List.length_take]; rfl)) ?_; (with_reducible refine (spec_LastPlace.calls kj5 a1 a0 t123 _ A26.out).mono ?_); rintro e w' ⟨rfl, ⟨nd, rfl⟩⟩; refine ⟨_, rfl, ?_⟩))
                          go_ret
                          exact ⟨by first | rfl | (simp [errW_none, errW_some] <;> rfl) | (simp [*, errW_none, errW_some] <;> rfl), by repeat (first | (with_reducible first | exact HB.out | apply below_alloc | apply pw_below_drewN | apply below_drew1) | exact HB.out)⟩
                      · rw [if_neg c31] at H
                        have c31b0 : (t119.toList == ([] : List UInt8)) = false := beq_eq_false_iff_ne.mpr c31
                        have c31b1 : (t119.toList != ([] : List UInt8)) = true := bne_iff_ne.mpr c31
                        obtain rfl := Option.some.inj H
                        go_wp2_with (first | ((with_reducible refine gate_callee (f := 30) rfl ?_); refine goesL_ (some 37) rfl rfl Try.func30 (by kernel_rfl) rfl #[.string a0, .string a1] rfl (by (try simp only [List.map_toArray, List.map_cons, List.map_nil]); first | done | rfl | (simp only [List.length_drop, List.length_take]; rfl)) ?_; (with_reducible refine (impl_PartitionOf.calls kj5 a0 a1 t116 t117 t118 _ A23.out).mono ?_); rintro e w' ⟨rfl, ⟨nd, rfl⟩⟩; refine ⟨_, rfl, ?_⟩) | ((with_reducible refine gate_callee (f := 31) rfl ?_); refine goesL_ (some 44) rfl rfl Try.func31 (by kernel_rfl) rfl #[.string a0, .string a1] rfl (by (try simp only [List.map_toArray, List.map_cons, List.map_nil]); first | done | rfl | (simp only [List.length_drop, List.length_take]; rfl)) ?_; (with_reducible refine (impl_LastPartitionOf.calls kj5 a0 a1 t119 t120 t121 _ A24.out).mono ?_); rintro e w' ⟨rfl, ⟨nd, rfl⟩⟩; refine ⟨_, rfl, ?_⟩) | ((with_reducible refine gate_callee (f := 32) rfl ?_); refine goesL_ (some 50) rfl rfl Try.func32 (by kernel_rfl) rfl #[.string a1, .string a0, .int .i64 0] rfl (by (try simp only [List.map_toArray, List.map_cons, List.map_nil]); first | done | rfl | (simp only [List.length_drop, List.length_take]; rfl)) ?_; (with_reducible refine (spec_Place.calls kj5 a1 a0 0 t122 _ A25.out).mono ?_); rintro e w' ⟨rfl, ⟨nd, rfl⟩⟩; refine ⟨_, rfl, ?_⟩) | ((with_reducible refine gate_callee (f := 33) rfl ?_); refine goesL_ (some 53) rfl rfl Try.func33 (by kernel_rfl) rfl #[.string a1, .string a0] rfl (by (try simp only [List.map_toArray, List.map_cons, List.map_nil]); first | done | rfl | (simp only [List.length_drop, List.length_take]; rfl)) ?_; (with_reducible refine (spec_LastPlace.calls kj5 a1 a0 t123 _ A26.out).mono ?_); rintro e w' ⟨rfl, ⟨nd, rfl⟩⟩; refine ⟨_, rfl, ?_⟩))
                        go_ret
                        exact ⟨by first | rfl | (simp [errW_none, errW_some] <;> rfl) | (simp [*, errW_none, errW_some] <;> rfl), by repeat (first | (with_reducible first | exact HB.out | apply below_alloc | apply pw_below_drewN | apply below_drew1) | exact HB.out)⟩
                    · rw [if_neg c30] at H
                      have c30b0 : (t118.toList == ([] : List UInt8)) = false := beq_eq_false_iff_ne.mpr c30
                      have c30b1 : (t118.toList != ([] : List UInt8)) = true := bne_iff_ne.mpr c30
                      obtain rfl := Option.some.inj H
                      go_wp2_with (first | ((with_reducible refine gate_callee (f := 30) rfl ?_); refine goesL_ (some 37) rfl rfl Try.func30 (by kernel_rfl) rfl #[.string a0, .string a1] rfl (by (try simp only [List.map_toArray, List.map_cons, List.map_nil]); first | done | rfl | (simp only [List.length_drop, List.length_take]; rfl)) ?_; (with_reducible refine (impl_PartitionOf.calls kj5 a0 a1 t116 t117 t118 _ A23.out).mono ?_); rintro e w' ⟨rfl, ⟨nd, rfl⟩⟩; refine ⟨_, rfl, ?_⟩) | ((with_reducible refine gate_callee (f := 31) rfl ?_); refine goesL_ (some 44) rfl rfl Try.func31 (by kernel_rfl) rfl #[.string a0, .string a1] rfl (by (try simp only [List.map_toArray, List.map_cons, List.map_nil]); first | done | rfl | (simp only [List.length_drop, List.length_take]; rfl)) ?_; (with_reducible refine (impl_LastPartitionOf.calls kj5 a0 a1 t119 t120 t121 _ A24.out).mono ?_); rintro e w' ⟨rfl, ⟨nd, rfl⟩⟩; refine ⟨_, rfl, ?_⟩) | ((with_reducible refine gate_callee (f := 32) rfl ?_); refine goesL_ (some 50) rfl rfl Try.func32 (by kernel_rfl) rfl #[.string a1, .string a0, .int .i64 0] rfl (by (try simp only [List.map_toArray, List.map_cons, List.map_nil]); first | done | rfl | (simp only [List.length_drop, List.length_take]; rfl)) ?_; (with_reducible refine (spec_Place.calls kj5 a1 a0 0 t122 _ A25.out).mono ?_); rintro e w' ⟨rfl, ⟨nd, rfl⟩⟩; refine ⟨_, rfl, ?_⟩) | ((with_reducible refine gate_callee (f := 33) rfl ?_); refine goesL_ (some 53) rfl rfl Try.func33 (by kernel_rfl) rfl #[.string a1, .string a0] rfl (by (try simp only [List.map_toArray, List.map_cons, List.map_nil]); first | done | rfl | (simp only [List.length_drop, List.length_take]; rfl)) ?_; (with_reducible refine (spec_LastPlace.calls kj5 a1 a0 t123 _ A26.out).mono ?_); rintro e w' ⟨rfl, ⟨nd, rfl⟩⟩; refine ⟨_, rfl, ?_⟩))
                      go_ret
                      exact ⟨by first | rfl | (simp [errW_none, errW_some] <;> rfl) | (simp [*, errW_none, errW_some] <;> rfl), by repeat (first | (with_reducible first | exact HB.out | apply below_alloc | apply pw_below_drewN | apply below_drew1) | exact HB.out)⟩
                  · rw [if_neg c29] at H
                    have c29b0 : (t117.toList == ([] : List UInt8)) = false := beq_eq_false_iff_ne.mpr c29
                    have c29b1 : (t117.toList != ([] : List UInt8)) = true := bne_iff_ne.mpr c29
                    obtain rfl := Option.some.inj H
                    go_wp2_with (first | ((with_reducible refine gate_callee (f := 30) rfl ?_); refine goesL_ (some 37) rfl rfl Try.func30 (by kernel_rfl) rfl #[.string a0, .string a1] rfl (by (try simp only [List.map_toArray, List.map_cons, List.map_nil]); first | done | rfl | (simp only [List.length_drop, List.length_take]; rfl)) ?_; (with_reducible refine (impl_PartitionOf.calls kj5 a0 a1 t116 t117 t118 _ A23.out).mono ?_); rintro e w' ⟨rfl, ⟨nd, rfl⟩⟩; refine ⟨_, rfl, ?_⟩) | ((with_reducible refine gate_callee (f := 31) rfl ?_); refine goesL_ (some 44) rfl rfl Try.func31 (by kernel_rfl) rfl #[.string a0, .string a1] rfl (by (try simp only [List.map_toArray, List.map_cons, List.map_nil]); first | done | rfl | (simp only [List.length_drop, List.length_take]; rfl)) ?_; (with_reducible refine (impl_LastPartitionOf.calls kj5 a0 a1 t119 t120 t121 _ A24.out).mono ?_); rintro e w' ⟨rfl, ⟨nd, rfl⟩⟩; refine ⟨_, rfl, ?_⟩) | ((with_reducible refine gate_callee (f := 32) rfl ?_); refine goesL_ (some 50) rfl rfl Try.func32 (by kernel_rfl) rfl #[.string a1, .string a0, .int .i64 0] rfl (by (try simp only [List.map_toArray, List.map_cons, List.map_nil]); first | done | rfl | (simp only [List.length_drop, List.length_take]; rfl)) ?_; (with_reducible refine (spec_Place.calls kj5 a1 a0 0 t122 _ A25.out).mono ?_); rintro e w' ⟨rfl, ⟨nd, rfl⟩⟩; refine ⟨_, rfl, ?_⟩) | ((with_reducible refine gate_callee (f := 33) rfl ?_); refine goesL_ (some 53) rfl rfl Try.func33 (by kernel_rfl) rfl #[.string a1, .string a0] rfl (by (try simp only [List.map_toArray, List.map_cons, List.map_nil]); first | done | rfl | (simp only [List.length_drop, List.length_take]; rfl)) ?_; (with_reducible refine (spec_LastPlace.calls kj5 a1 a0 t123 _ A26.out).mono ?_); rintro e w' ⟨rfl, ⟨nd, rfl⟩⟩; refine ⟨_, rfl, ?_⟩))
                    go_ret
                    exact ⟨by first | rfl | (simp [errW_none, errW_some] <;> rfl) | (simp [*, errW_none, errW_some] <;> rfl), by repeat (first | (with_reducible first | exact HB.out | apply below_alloc | apply pw_below_drewN | apply below_drew1) | exact HB.out)⟩
                · rw [if_neg c28] at H
                  have c28b0 : (t116.toList == a0.toList) = false := beq_eq_false_iff_ne.mpr c28
                  have c28b1 : (t116.toList != a0.toList) = true := bne_iff_ne.mpr c28
                  obtain rfl := Option.some.inj H
                  go_wp2_with (first | ((with_reducible refine gate_callee (f := 30) rfl ?_); refine goesL_ (some 37) rfl rfl Try.func30 (by kernel_rfl) rfl #[.string a0, .string a1] rfl (by (try simp only [List.map_toArray, List.map_cons, List.map_nil]); first | done | rfl | (simp only [List.length_drop, List.length_take]; rfl)) ?_; (with_reducible refine (impl_PartitionOf.calls kj5 a0 a1 t116 t117 t118 _ A23.out).mono ?_); rintro e w' ⟨rfl, ⟨nd, rfl⟩⟩; refine ⟨_, rfl, ?_⟩) | ((with_reducible refine gate_callee (f := 31) rfl ?_); refine goesL_ (some 44) rfl rfl Try.func31 (by kernel_rfl) rfl #[.string a0, .string a1] rfl (by (try simp only [List.map_toArray, List.map_cons, List.map_nil]); first | done | rfl | (simp only [List.length_drop, List.length_take]; rfl)) ?_; (with_reducible refine (impl_LastPartitionOf.calls kj5 a0 a1 t119 t120 t121 _ A24.out).mono ?_); rintro e w' ⟨rfl, ⟨nd, rfl⟩⟩; refine ⟨_, rfl, ?_⟩) | ((with_reducible refine gate_callee (f := 32) rfl ?_); refine goesL_ (some 50) rfl rfl Try.func32 (by kernel_rfl) rfl #[.string a1, .string a0, .int .i64 0] rfl (by (try simp only [List.map_toArray, List.map_cons, List.map_nil]); first | done | rfl | (simp only [List.length_drop, List.length_take]; rfl)) ?_; (with_reducible refine (spec_Place.calls kj5 a1 a0 0 t122 _ A25.out).mono ?_); rintro e w' ⟨rfl, ⟨nd, rfl⟩⟩; refine ⟨_, rfl, ?_⟩) | ((with_reducible refine gate_callee (f := 33) rfl ?_); refine goesL_ (some 53) rfl rfl Try.func33 (by kernel_rfl) rfl #[.string a1, .string a0] rfl (by (try simp only [List.map_toArray, List.map_cons, List.map_nil]); first | done | rfl | (simp only [List.length_drop, List.length_take]; rfl)) ?_; (with_reducible refine (spec_LastPlace.calls kj5 a1 a0 t123 _ A26.out).mono ?_); rintro e w' ⟨rfl, ⟨nd, rfl⟩⟩; refine ⟨_, rfl, ?_⟩))
                  go_ret
                  exact ⟨by first | rfl | (simp [errW_none, errW_some] <;> rfl) | (simp [*, errW_none, errW_some] <;> rfl), by repeat (first | (with_reducible first | exact HB.out | apply below_alloc | apply pw_below_drewN | apply below_drew1) | exact HB.out)⟩
              · rw [if_neg c27] at H
                have c27b0 : decide (t122 < 0) = false := decide_eq_false c27
                clear c27
                by_cases c33 : 0 ≤ t122
                · rw [if_pos c33] at H
                  have c33b0 := eq_true c33
                  have c33b1 : decide (0 ≤ t122) = true := decide_eq_true c33
                  clear c33
                  by_cases c34 : t122 ≤ (a0.size : Int)
                  · rw [if_pos c34] at H
                    have c34b0 := eq_true c34
                    have c34b1 : decide (t122 ≤ (a0.size : Int)) = true := decide_eq_true c34
                    clear c34
                    by_cases c35 : t116.toList = (a0.extract 0 (t122 : Int).toNat).toList
                    · rw [if_pos c35] at H
                      have c35b0 : (t116.toList == (a0.extract 0 (t122 : Int).toNat).toList) = true := beq_iff_eq.mpr c35
                      have c35b1 : (t116.toList != (a0.extract 0 (t122 : Int).toNat).toList) = false := bne_eq_false_iff_eq.mpr c35
                      clear c35
                      by_cases c36 : t117.toList = a1.toList
                      · rw [if_pos c36] at H
                        have c36b0 : (t117.toList == a1.toList) = true := beq_iff_eq.mpr c36
                        have c36b1 : (t117.toList != a1.toList) = false := bne_eq_false_iff_eq.mpr c36
                        clear c36
                        obtain ⟨ji37, hji37⟩ : ∃ j_ : Int, (wrap64 (t122 + (a1.size : Int))) = j_ := ⟨_, rfl⟩
                        replace H : (if 0 ≤ (ji37) then (if (ji37) ≤ (a0.size : Int) then (if t118.toList = (a0.extract ((ji37) : Int).toNat a0.size).toList then (if 0 ≤ t123 then (if t123 ≤ (a0.size : Int) then (if t119.toList = (a0.extract 0 (t123 : Int).toNat).toList then (if t120.toList = a1.toList then (if 0 ≤ (wrap64 (t123 + (a1.size : Int))) then (if (wrap64 (t123 + (a1.size : Int))) ≤ (a0.size : Int) then (some (t121.toList == (a0.extract ((wrap64 (t123 + (a1.size : Int))) : Int).toNat a0.size).toList)) else (none)) else (none)) else (some false)) else (some false)) else (none)) else (none)) else (some false)) else (none)) else (none)) = some r := by first | (rw [hji37] at H; exact H) | (simp only [hji37] at H ⊢; exact H)
                        (try rw [hji37] at A23)
                        (try rw [hji37] at A24)
                        (try rw [hji37] at A25)
                        (try rw [hji37] at A26)
                        have hji37w : (IntKind.i64.wrap (t122 + (a1.size : Int))) = ji37 := (i64_w _).trans hji37
                        by_cases c38 : 0 ≤ (ji37)
                        · rw [if_pos c38] at H
                          have c38b0 := eq_true c38
                          have c38b1 : decide (0 ≤ (ji37)) = true := decide_eq_true c38
                          clear c38
                          by_cases c39 : (ji37) ≤ (a0.size : Int)
                          · rw [if_pos c39] at H
                            have c39b0 := eq_true c39
                            have c39b1 : decide ((ji37) ≤ (a0.size : Int)) = true := decide_eq_true c39
                            clear c39
                            by_cases c40 : t118.toList = (a0.extract ((ji37) : Int).toNat a0.size).toList
                            · rw [if_pos c40] at H
                              have c40b0 : (t118.toList == (a0.extract ((ji37) : Int).toNat a0.size).toList) = true := beq_iff_eq.mpr c40
                              have c40b1 : (t118.toList != (a0.extract ((ji37) : Int).toNat a0.size).toList) = false := bne_eq_false_iff_eq.mpr c40
                              clear c40
                              by_cases c41 : 0 ≤ t123
                              · rw [if_pos c41] at H
                                have c41b0 := eq_true c41
                                have c41b1 : decide (0 ≤ t123) = true := decide_eq_true c41
                                clear c41
                                by_cases c42 : t123 ≤ (a0.size : Int)
                                · rw [if_pos c42] at H
                                  have c42b0 := eq_true c42
                                  have c42b1 : decide (t123 ≤ (a0.size : Int)) = true := decide_eq_true c42
                                  clear c42
                                  by_cases c43 : t119.toList = (a0.extract 0 (t123 : Int).toNat).toList
                                  · rw [if_pos c43] at H
                                    have c43b0 : (t119.toList == (a0.extract 0 (t123 : Int).toNat).toList) = true := beq_iff_eq.mpr c43
                                    have c43b1 : (t119.toList != (a0.extract 0 (t123 : Int).toNat).toList) = false := bne_eq_false_iff_eq.mpr c43
                                    clear c43
                                    by_cases c44 : t120.toList = a1.toList
                                    · rw [if_pos c44] at H
                                      have c44b0 : (t120.toList == a1.toList) = true := beq_iff_eq.mpr c44
                                      have c44b1 : (t120.toList != a1.toList) = false := bne_eq_false_iff_eq.mpr c44
                                      clear c44
                                      obtain ⟨ji45, hji45⟩ : ∃ j_ : Int, (wrap64 (t123 + (a1.size : Int))) = j_ := ⟨_, rfl⟩
                                      replace H : (if 0 ≤ (ji45) then (if (ji45) ≤ (a0.size : Int) then (some (t121.toList == (a0.extract ((ji45) : Int).toNat a0.size).toList)) else (none)) else (none)) = some r := by first | (rw [hji45] at H; exact H) | (simp only [hji45] at H ⊢; exact H)
                                      (try rw [hji45] at A23)
                                      (try rw [hji45] at A24)
                                      (try rw [hji45] at A25)
                                      (try rw [hji45] at A26)
                                      have hji45w : (IntKind.i64.wrap (t123 + (a1.size : Int))) = ji45 := (i64_w _).trans hji45
                                      by_cases c46 : 0 ≤ (ji45)
                                      · rw [if_pos c46] at H
                                        have c46b0 := eq_true c46
                                        have c46b1 : decide (0 ≤ (ji45)) = true := decide_eq_true c46
                                        clear c46
                                        by_cases c47 : (ji45) ≤ (a0.size : Int)
                                        · rw [if_pos c47] at H
                                          have c47b0 := eq_true c47
                                          have c47b1 : decide ((ji45) ≤ (a0.size : Int)) = true := decide_eq_true c47
                                          clear c47
                                          obtain rfl := Option.some.inj H
                                          go_wp2_with (first | ((with_reducible refine gate_callee (f := 30) rfl ?_); refine goesL_ (some 37) rfl rfl Try.func30 (by kernel_rfl) rfl #[.string a0, .string a1] rfl (by (try simp only [List.map_toArray, List.map_cons, List.map_nil]); first | done | rfl | (simp only [List.length_drop, List.length_take]; rfl)) ?_; (with_reducible refine (impl_PartitionOf.calls kj5 a0 a1 t116 t117 t118 _ A23.out).mono ?_); rintro e w' ⟨rfl, ⟨nd, rfl⟩⟩; refine ⟨_, rfl, ?_⟩) | ((with_reducible refine gate_callee (f := 31) rfl ?_); refine goesL_ (some 44) rfl rfl Try.func31 (by kernel_rfl) rfl #[.string a0, .string a1] rfl (by (try simp only [List.map_toArray, List.map_cons, List.map_nil]); first | done | rfl | (simp only [List.length_drop, List.length_take]; rfl)) ?_; (with_reducible refine (impl_LastPartitionOf.calls kj5 a0 a1 t119 t120 t121 _ A24.out).mono ?_); rintro e w' ⟨rfl, ⟨nd, rfl⟩⟩; refine ⟨_, rfl, ?_⟩) | ((with_reducible refine gate_callee (f := 32) rfl ?_); refine goesL_ (some 50) rfl rfl Try.func32 (by kernel_rfl) rfl #[.string a1, .string a0, .int .i64 0] rfl (by (try simp only [List.map_toArray, List.map_cons, List.map_nil]); first | done | rfl | (simp only [List.length_drop, List.length_take]; rfl)) ?_; (with_reducible refine (spec_Place.calls kj5 a1 a0 0 t122 _ A25.out).mono ?_); rintro e w' ⟨rfl, ⟨nd, rfl⟩⟩; refine ⟨_, rfl, ?_⟩) | ((with_reducible refine gate_callee (f := 33) rfl ?_); refine goesL_ (some 53) rfl rfl Try.func33 (by kernel_rfl) rfl #[.string a1, .string a0] rfl (by (try simp only [List.map_toArray, List.map_cons, List.map_nil]); first | done | rfl | (simp only [List.length_drop, List.length_take]; rfl)) ?_; (with_reducible refine (spec_LastPlace.calls kj5 a1 a0 t123 _ A26.out).mono ?_); rintro e w' ⟨rfl, ⟨nd, rfl⟩⟩; refine ⟨_, rfl, ?_⟩))
                                          go_ret
                                          exact ⟨by first | rfl | (simp [errW_none, errW_some] <;> rfl) | (simp only [← hji37, ← hji45]; first | rfl | (simp [errW_none, errW_some] <;> rfl)) | (simp [*, errW_none, errW_some] <;> rfl), by repeat (first | (with_reducible first | exact HB.out | apply below_alloc | apply pw_below_drewN | apply below_drew1) | exact HB.out)⟩
                                        · rw [if_neg c47] at H
                                          exact absurd H (by simp)
                                      · rw [if_neg c46] at H
                                        exact absurd H (by simp)
                                    · rw [if_neg c44] at H
                                      have c44b0 : (t120.toList == a1.toList) = false := beq_eq_false_iff_ne.mpr c44
                                      have c44b1 : (t120.toList != a1.toList) = true := bne_iff_ne.mpr c44
                                      obtain rfl := Option.some.inj H
                                      go_wp2_with (first | ((with_reducible refine gate_callee (f := 30) rfl ?_); refine goesL_ (some 37) rfl rfl Try.func30 (by kernel_rfl) rfl #[.string a0, .string a1] rfl (by (try simp only [List.map_toArray, List.map_cons, List.map_nil]); first | done | rfl | (simp only [List.length_drop, List.length_take]; rfl)) ?_; (with_reducible refine (impl_PartitionOf.calls kj5 a0 a1 t116 t117 t118 _ A23.out).mono ?_); rintro e w' ⟨rfl, ⟨nd, rfl⟩⟩; refine ⟨_, rfl, ?_⟩) | ((with_reducible refine gate_callee (f := 31) rfl ?_); refine goesL_ (some 44) rfl rfl Try.func31 (by kernel_rfl) rfl #[.string a0, .string a1] rfl (by (try simp only [List.map_toArray, List.map_cons, List.map_nil]); first | done | rfl | (simp only [List.length_drop, List.length_take]; rfl)) ?_; (with_reducible refine (impl_LastPartitionOf.calls kj5 a0 a1 t119 t120 t121 _ A24.out).mono ?_); rintro e w' ⟨rfl, ⟨nd, rfl⟩⟩; refine ⟨_, rfl, ?_⟩) | ((with_reducible refine gate_callee (f := 32) rfl ?_); refine goesL_ (some 50) rfl rfl Try.func32 (by kernel_rfl) rfl #[.string a1, .string a0, .int .i64 0] rfl (by (try simp only [List.map_toArray, List.map_cons, List.map_nil]); first | done | rfl | (simp only [List.length_drop, List.length_take]; rfl)) ?_; (with_reducible refine (spec_Place.calls kj5 a1 a0 0 t122 _ A25.out).mono ?_); rintro e w' ⟨rfl, ⟨nd, rfl⟩⟩; refine ⟨_, rfl, ?_⟩) | ((with_reducible refine gate_callee (f := 33) rfl ?_); refine goesL_ (some 53) rfl rfl Try.func33 (by kernel_rfl) rfl #[.string a1, .string a0] rfl (by (try simp only [List.map_toArray, List.map_cons, List.map_nil]); first | done | rfl | (simp only [List.length_drop, List.length_take]; rfl)) ?_; (with_reducible refine (spec_LastPlace.calls kj5 a1 a0 t123 _ A26.out).mono ?_); rintro e w' ⟨rfl, ⟨nd, rfl⟩⟩; refine ⟨_, rfl, ?_⟩))
                                      go_ret
                                      exact ⟨by first | rfl | (simp [errW_none, errW_some] <;> rfl) | (simp only [← hji37]; first | rfl | (simp [errW_none, errW_some] <;> rfl)) | (simp [*, errW_none, errW_some] <;> rfl), by repeat (first | (with_reducible first | exact HB.out | apply below_alloc | apply pw_below_drewN | apply below_drew1) | exact HB.out)⟩
                                  · rw [if_neg c43] at H
                                    have c43b0 : (t119.toList == (a0.extract 0 (t123 : Int).toNat).toList) = false := beq_eq_false_iff_ne.mpr c43
                                    have c43b1 : (t119.toList != (a0.extract 0 (t123 : Int).toNat).toList) = true := bne_iff_ne.mpr c43
                                    obtain rfl := Option.some.inj H
                                    go_wp2_with (first | ((with_reducible refine gate_callee (f := 30) rfl ?_); refine goesL_ (some 37) rfl rfl Try.func30 (by kernel_rfl) rfl #[.string a0, .string a1] rfl (by (try simp only [List.map_toArray, List.map_cons, List.map_nil]); first | done | rfl | (simp only [List.length_drop, List.length_take]; rfl)) ?_; (with_reducible refine (impl_PartitionOf.calls kj5 a0 a1 t116 t117 t118 _ A23.out).mono ?_); rintro e w' ⟨rfl, ⟨nd, rfl⟩⟩; refine ⟨_, rfl, ?_⟩) | ((with_reducible refine gate_callee (f := 31) rfl ?_); refine goesL_ (some 44) rfl rfl Try.func31 (by kernel_rfl) rfl #[.string a0, .string a1] rfl (by (try simp only [List.map_toArray, List.map_cons, List.map_nil]); first | done | rfl | (simp only [List.length_drop, List.length_take]; rfl)) ?_; (with_reducible refine (impl_LastPartitionOf.calls kj5 a0 a1 t119 t120 t121 _ A24.out).mono ?_); rintro e w' ⟨rfl, ⟨nd, rfl⟩⟩; refine ⟨_, rfl, ?_⟩) | ((with_reducible refine gate_callee (f := 32) rfl ?_); refine goesL_ (some 50) rfl rfl Try.func32 (by kernel_rfl) rfl #[.string a1, .string a0, .int .i64 0] rfl (by (try simp only [List.map_toArray, List.map_cons, List.map_nil]); first | done | rfl | (simp only [List.length_drop, List.length_take]; rfl)) ?_; (with_reducible refine (spec_Place.calls kj5 a1 a0 0 t122 _ A25.out).mono ?_); rintro e w' ⟨rfl, ⟨nd, rfl⟩⟩; refine ⟨_, rfl, ?_⟩) | ((with_reducible refine gate_callee (f := 33) rfl ?_); refine goesL_ (some 53) rfl rfl Try.func33 (by kernel_rfl) rfl #[.string a1, .string a0] rfl (by (try simp only [List.map_toArray, List.map_cons, List.map_nil]); first | done | rfl | (simp only [List.length_drop, List.length_take]; rfl)) ?_; (with_reducible refine (spec_LastPlace.calls kj5 a1 a0 t123 _ A26.out).mono ?_); rintro e w' ⟨rfl, ⟨nd, rfl⟩⟩; refine ⟨_, rfl, ?_⟩))
                                    go_ret
                                    exact ⟨by first | rfl | (simp [errW_none, errW_some] <;> rfl) | (simp only [← hji37]; first | rfl | (simp [errW_none, errW_some] <;> rfl)) | (simp [*, errW_none, errW_some] <;> rfl), by repeat (first | (with_reducible first | exact HB.out | apply below_alloc | apply pw_below_drewN | apply below_drew1) | exact HB.out)⟩
                                · rw [if_neg c42] at H
                                  exact absurd H (by simp)
                              · rw [if_neg c41] at H
                                exact absurd H (by simp)
                            · rw [if_neg c40] at H
                              have c40b0 : (t118.toList == (a0.extract ((ji37) : Int).toNat a0.size).toList) = false := beq_eq_false_iff_ne.mpr c40
                              have c40b1 : (t118.toList != (a0.extract ((ji37) : Int).toNat a0.size).toList) = true := bne_iff_ne.mpr c40
                              obtain rfl := Option.some.inj H
                              go_wp2_with (first | ((with_reducible refine gate_callee (f := 30) rfl ?_); refine goesL_ (some 37) rfl rfl Try.func30 (by kernel_rfl) rfl #[.string a0, .string a1] rfl (by (try simp only [List.map_toArray, List.map_cons, List.map_nil]); first | done | rfl | (simp only [List.length_drop, List.length_take]; rfl)) ?_; (with_reducible refine (impl_PartitionOf.calls kj5 a0 a1 t116 t117 t118 _ A23.out).mono ?_); rintro e w' ⟨rfl, ⟨nd, rfl⟩⟩; refine ⟨_, rfl, ?_⟩) | ((with_reducible refine gate_callee (f := 31) rfl ?_); refine goesL_ (some 44) rfl rfl Try.func31 (by kernel_rfl) rfl #[.string a0, .string a1] rfl (by (try simp only [List.map_toArray, List.map_cons, List.map_nil]); first | done | rfl | (simp only [List.length_drop, List.length_take]; rfl)) ?_; (with_reducible refine (impl_LastPartitionOf.calls kj5 a0 a1 t119 t120 t121 _ A24.out).mono ?_); rintro e w' ⟨rfl, ⟨nd, rfl⟩⟩; refine ⟨_, rfl, ?_⟩) | ((with_reducible refine gate_callee (f := 32) rfl ?_); refine goesL_ (some 50) rfl rfl Try.func32 (by kernel_rfl) rfl #[.string a1, .string a0, .int .i64 0] rfl (by (try simp only [List.map_toArray, List.map_cons, List.map_nil]); first | done | rfl | (simp only [List.length_drop, List.length_take]; rfl)) ?_; (with_reducible refine (spec_Place.calls kj5 a1 a0 0 t122 _ A25.out).mono ?_); rintro e w' ⟨rfl, ⟨nd, rfl⟩⟩; refine ⟨_, rfl, ?_⟩) | ((with_reducible refine gate_callee (f := 33) rfl ?_); refine goesL_ (some 53) rfl rfl Try.func33 (by kernel_rfl) rfl #[.string a1, .string a0] rfl (by (try simp only [List.map_toArray, List.map_cons, List.map_nil]); first | done | rfl | (simp only [List.length_drop, List.length_take]; rfl)) ?_; (with_reducible refine (spec_LastPlace.calls kj5 a1 a0 t123 _ A26.out).mono ?_); rintro e w' ⟨rfl, ⟨nd, rfl⟩⟩; refine ⟨_, rfl, ?_⟩))
                              go_ret
                              exact ⟨by first | rfl | (simp [errW_none, errW_some] <;> rfl) | (simp only [← hji37]; first | rfl | (simp [errW_none, errW_some] <;> rfl)) | (simp [*, errW_none, errW_some] <;> rfl), by repeat (first | (with_reducible first | exact HB.out | apply below_alloc | apply pw_below_drewN | apply below_drew1) | exact HB.out)⟩
                          · rw [if_neg c39] at H
                            exact absurd H (by simp)
                        · rw [if_neg c38] at H
                          exact absurd H (by simp)
                      · rw [if_neg c36] at H
                        have c36b0 : (t117.toList == a1.toList) = false := beq_eq_false_iff_ne.mpr c36
                        have c36b1 : (t117.toList != a1.toList) = true := bne_iff_ne.mpr c36
                        obtain rfl := Option.some.inj H
                        go_wp2_with (first | ((with_reducible refine gate_callee (f := 30) rfl ?_); refine goesL_ (some 37) rfl rfl Try.func30 (by kernel_rfl) rfl #[.string a0, .string a1] rfl (by (try simp only [List.map_toArray, List.map_cons, List.map_nil]); first | done | rfl | (simp only [List.length_drop, List.length_take]; rfl)) ?_; (with_reducible refine (impl_PartitionOf.calls kj5 a0 a1 t116 t117 t118 _ A23.out).mono ?_); rintro e w' ⟨rfl, ⟨nd, rfl⟩⟩; refine ⟨_, rfl, ?_⟩) | ((with_reducible refine gate_callee (f := 31) rfl ?_); refine goesL_ (some 44) rfl rfl Try.func31 (by kernel_rfl) rfl #[.string a0, .string a1] rfl (by (try simp only [List.map_toArray, List.map_cons, List.map_nil]); first | done | rfl | (simp only [List.length_drop, List.length_take]; rfl)) ?_; (with_reducible refine (impl_LastPartitionOf.calls kj5 a0 a1 t119 t120 t121 _ A24.out).mono ?_); rintro e w' ⟨rfl, ⟨nd, rfl⟩⟩; refine ⟨_, rfl, ?_⟩) | ((with_reducible refine gate_callee (f := 32) rfl ?_); refine goesL_ (some 50) rfl rfl Try.func32 (by kernel_rfl) rfl #[.string a1, .string a0, .int .i64 0] rfl (by (try simp only [List.map_toArray, List.map_cons, List.map_nil]); first | done | rfl | (simp only [List.length_drop, List.length_take]; rfl)) ?_; (with_reducible refine (spec_Place.calls kj5 a1 a0 0 t122 _ A25.out).mono ?_); rintro e w' ⟨rfl, ⟨nd, rfl⟩⟩; refine ⟨_, rfl, ?_⟩) | ((with_reducible refine gate_callee (f := 33) rfl ?_); refine goesL_ (some 53) rfl rfl Try.func33 (by kernel_rfl) rfl #[.string a1, .string a0] rfl (by (try simp only [List.map_toArray, List.map_cons, List.map_nil]); first | done | rfl | (simp only [List.length_drop, List.length_take]; rfl)) ?_; (with_reducible refine (spec_LastPlace.calls kj5 a1 a0 t123 _ A26.out).mono ?_); rintro e w' ⟨rfl, ⟨nd, rfl⟩⟩; refine ⟨_, rfl, ?_⟩))
                        go_ret
                        exact ⟨by first | rfl | (simp [errW_none, errW_some] <;> rfl) | (simp [*, errW_none, errW_some] <;> rfl), by repeat (first | (with_reducible first | exact HB.out | apply below_alloc | apply pw_below_drewN | apply below_drew1) | exact HB.out)⟩
                    · rw [if_neg c35] at H
                      have c35b0 : (t116.toList == (a0.extract 0 (t122 : Int).toNat).toList) = false := beq_eq_false_iff_ne.mpr c35
                      have c35b1 : (t116.toList != (a0.extract 0 (t122 : Int).toNat).toList) = true := bne_iff_ne.mpr c35
                      obtain rfl := Option.some.inj H
                      go_wp2_with (first | ((with_reducible refine gate_callee (f := 30) rfl ?_); refine goesL_ (some 37) rfl rfl Try.func30 (by kernel_rfl) rfl #[.string a0, .string a1] rfl (by (try simp only [List.map_toArray, List.map_cons, List.map_nil]); first | done | rfl | (simp only [List.length_drop, List.length_take]; rfl)) ?_; (with_reducible refine (impl_PartitionOf.calls kj5 a0 a1 t116 t117 t118 _ A23.out).mono ?_); rintro e w' ⟨rfl, ⟨nd, rfl⟩⟩; refine ⟨_, rfl, ?_⟩) | ((with_reducible refine gate_callee (f := 31) rfl ?_); refine goesL_ (some 44) rfl rfl Try.func31 (by kernel_rfl) rfl #[.string a0, .string a1] rfl (by (try simp only [List.map_toArray, List.map_cons, List.map_nil]); first | done | rfl | (simp only [List.length_drop, List.length_take]; rfl)) ?_; (with_reducible refine (impl_LastPartitionOf.calls kj5 a0 a1 t119 t120 t121 _ A24.out).mono ?_); rintro e w' ⟨rfl, ⟨nd, rfl⟩⟩; refine ⟨_, rfl, ?_⟩) | ((with_reducible refine gate_callee (f := 32) rfl ?_); refine goesL_ (some 50) rfl rfl Try.func32 (by kernel_rfl) rfl #[.string a1, .string a0, .int .i64 0] rfl (by (try simp only [List.map_toArray, List.map_cons, List.map_nil]); first | done | rfl | (simp only [List.length_drop, List.length_take]; rfl)) ?_; (with_reducible refine (spec_Place.calls kj5 a1 a0 0 t122 _ A25.out).mono ?_); rintro e w' ⟨rfl, ⟨nd, rfl⟩⟩; refine ⟨_, rfl, ?_⟩) | ((with_reducible refine gate_callee (f := 33) rfl ?_); refine goesL_ (some 53) rfl rfl Try.func33 (by kernel_rfl) rfl #[.string a1, .string a0] rfl (by (try simp only [List.map_toArray, List.map_cons, List.map_nil]); first | done | rfl | (simp only [List.length_drop, List.length_take]; rfl)) ?_; (with_reducible refine (spec_LastPlace.calls kj5 a1 a0 t123 _ A26.out).mono ?_); rintro e w' ⟨rfl, ⟨nd, rfl⟩⟩; refine ⟨_, rfl, ?_⟩))
                      go_ret
                      exact ⟨by first | rfl | (simp [errW_none, errW_some] <;> rfl) | (simp [*, errW_none, errW_some] <;> rfl), by repeat (first | (with_reducible first | exact HB.out | apply below_alloc | apply pw_below_drewN | apply below_drew1) | exact HB.out)⟩
                  · rw [if_neg c34] at H
                    exact absurd H (by simp)
                · rw [if_neg c33] at H
                  exact absurd H (by simp)

/-- THE ONE PURE STATEMENT of laws_FnPartition: yours. -/
def laws_FnPartition.Pure : Prop := ∀ (a0 : ByteArray) (a1 : ByteArray), a0.size ≤ 140737488351232 → a1.size ≤ 140737488351232 → ∃ k, laws_FnPartition.f k a0 a1 = some true
theorem laws_FnPartition.walk (P : laws_FnPartition.Pure) (a0 : ByteArray) (a1 : ByteArray) (w : World) (w0 : a0.size ≤ 140737488351232) (w1 : a1.size ≤ 140737488351232) :
    Calls Try.prog 10 #[.string a0, .string a1] w fun e w' => e = .returned (.bool true) ∧ Below w.heap.size w w' := by
  obtain ⟨k, h⟩ := P a0 a1 w0 w1
  refine (laws_FnPartition.calls k a0 a1 true w h).mono ?_
  rintro e w' ⟨rfl, hd⟩
  exact ⟨rfl, hd⟩

end Go.Proofs.Ytjpocldnibmopaa.PFnPartition
