-- Written by gprint.py (a program of this session, over the kit's print) out of Lean's own print of the program.
import Derived.Test.YtjhpjciemfeafaaDoorPFnDurationRoundx0
namespace Go.Proofs.YtjhpjciemfeafaaDoor.PFnDurationRound
open Go.Proofs.YtjhpjciemfeafaaDoor.Giv
open Go.RowKit Go.Proofs.YtjhpjciemfeafaaDoorW.PrintWords Go.Proofs.YtjhpjciemfeafaaDoorW.PrintLast Go.Proofs.YtjhpjciemfeafaaDoorW.PrintMore
attribute [local go_sem] max2_int min2_int max_two min_two max_three min_three max_four min_four   -- for this text's walks alone
set_option linter.unusedVariables false
set_option linter.unusedSimpArgs false

/-! ### spec_Significant: function 9 -/
def spec_Significant.l0 : Nat → Int → List Int → List ByteArray → Int → Option (ByteArray × Bool)
  | 0, _, _, _, _ => none
  | k + 1, x0, x4, x5, x6 => if x6 < (x4.length : Int) then (if 0 ≤ x6 then (if x0 = (rd x4 x6) then (some ((⟨#[]⟩ : ByteArray), false)) else (if x0 > (rd x4 x6) then (if (rd x4 x6) = 0 then (none) else ((spec_Decimal.f (wrap64 (Int.tdiv x0 (rd x4 x6)))).bind fun t129 => (if x6 < (x5.length : Int) then (if t129.size + (rdOf ByteArray.empty x5 x6).size ≤ 9223372036854775807 then (some (t129 ++ (rdOf ByteArray.empty x5 x6), true)) else (none)) else (none)))) else (spec_Significant.l0 k x0 x4 x5 (wrap64 (x6 + 1))))) else (none)) else (some ((⟨#[48, 115]⟩ : ByteArray), (x0 == 0)))
def spec_Significant.f (k : Nat) (a0 : Int) : Option (ByteArray × Bool) := spec_Significant.l0 k a0 (([31536000, 2592000, 86400, 3600, 60, 1] : List Int)) (([(⟨#[121]⟩ : ByteArray), (⟨#[109, 111]⟩ : ByteArray), (⟨#[100]⟩ : ByteArray), (⟨#[104]⟩ : ByteArray), (⟨#[109]⟩ : ByteArray), (⟨#[115]⟩ : ByteArray)] : List ByteArray)) 0
theorem spec_Significant.mono_l : ∀ k, (∀ y0 y1 y2 y3, LeO (spec_Significant.l0 k y0 y1 y2 y3) (spec_Significant.l0 (k + 1) y0 y1 y2 y3))
  | 0 => fun _ _ _ _ r h => by simp [spec_Significant.l0] at h
  | k + 1 => by
    have ih0 := spec_Significant.mono_l k
    · intro y0 y1 y2 y3
      unfold spec_Significant.l0
      repeat' first
      | (with_reducible exact ih0 _ _ _ _)
      | (with_reducible exact LeO.refl _)
      | (with_reducible exact LeO.none _)
      | (with_reducible refine LeO.ite ?_ ?_)
      | (with_reducible refine LeO.bind ?_ (fun _ => ?_))
      | exact ih0 _ _ _ _
      | exact LeO.none _
      | refine LeO.ite ?_ ?_
      | refine LeO.bind ?_ (fun _ => ?_)
theorem spec_Significant.mono : ∀ a0 k, LeO (spec_Significant.f k a0) (spec_Significant.f (k + 1) a0) := by
  intro a0 k
  have ih0 := spec_Significant.mono_l k
  unfold spec_Significant.f
  repeat' first
      | (with_reducible exact ih0 _ _ _ _)
      | (with_reducible exact LeO.refl _)
      | (with_reducible exact LeO.none _)
      | (with_reducible refine LeO.ite ?_ ?_)
      | (with_reducible refine LeO.bind ?_ (fun _ => ?_))
      | exact ih0 _ _ _ _
      | exact LeO.none _
      | refine LeO.ite ?_ ?_
      | refine LeO.bind ?_ (fun _ => ?_)
def spec_Significant.T9 : Bool × List (List Nat × List Nat) := (true, [([], []), ([], []), ([], []), ([1, 2], [1, 2]), ([3], [3]), ([0, 4], [0, 4]), ([5], [5]), ([], []), ([], []), ([7, 8], [7, 8]), ([9], [9]), ([6, 10], [6, 10]), ([11, 6, 0, 1, 2, 3, 4, 5, 6, 7, 8, 9, 10, 11], [11]), ([12, 0, 1, 2, 3, 4, 5, 6, 7, 8, 9, 10, 11, 12], [])])
def spec_Significant.B9 : List Nat := [0, 0, 0, 6, 14, 31, 63, 0, 0, 384, 896, 2047, 4095, 8191]
theorem spec_Significant.tab9 : rtab .any (opsOf Tryd.f9 9) = spec_Significant.T9 := by kernel_rfl
theorem spec_Significant.bits9 : waitsOk spec_Significant.T9.2 spec_Significant.B9 = true := by kernel_rfl
set_option maxHeartbeats 8000000 in
set_option maxRecDepth 100000 in
theorem spec_Significant.calls (k : Nat) (a0 : Int) (r1 : ByteArray) (r2 : Bool) (w : World) (T : Giv.DurT w) (h : spec_Significant.f k a0 = some (r1, r2)) :
    Calls Tryd.prog 9 #[.int .i64 a0] w fun e w' => e = .returned (.tuple #[.string r1, .bool r2]) ∧ Below w.heap.size w w' := by
  have TT_ := Aside0.mk T
  clear T
  have HB := Aside0.mk (Below.refl w.heap.size w)
  have H : (spec_Significant.l0 k a0 (([31536000, 2592000, 86400, 3600, 60, 1] : List Int)) (([(⟨#[121]⟩ : ByteArray), (⟨#[109, 111]⟩ : ByteArray), (⟨#[100]⟩ : ByteArray), (⟨#[104]⟩ : ByteArray), (⟨#[109]⟩ : ByteArray), (⟨#[115]⟩ : ByteArray)] : List ByteArray)) 0) = some (r1, r2) := h
  clear h
  obtain ⟨y120, hy120⟩ : ∃ y_ : List Int, y_ = (([31536000, 2592000, 86400, 3600, 60, 1] : List Int)) := ⟨_, rfl⟩
  replace H : (spec_Significant.l0 k a0 y120 (([(⟨#[121]⟩ : ByteArray), (⟨#[109, 111]⟩ : ByteArray), (⟨#[100]⟩ : ByteArray), (⟨#[104]⟩ : ByteArray), (⟨#[109]⟩ : ByteArray), (⟨#[115]⟩ : ByteArray)] : List ByteArray)) 0) = some (r1, r2) := by first | (rw [hy120]; with_reducible exact H) | (have H2_ := (Option.bind_some _ _).symm.trans H; rw [hy120]; with_reducible exact H2_) | (have H2_ := (Option.bind_some _ _).symm.trans H; with_reducible exact H2_) | with_reducible exact H | (rw [hy120]; exact H) | exact H
  have Ny120 := Aside0.mk hy120
  clear hy120
  obtain ⟨y123, hy123⟩ : ∃ y_ : List ByteArray, y_ = (([(⟨#[121]⟩ : ByteArray), (⟨#[109, 111]⟩ : ByteArray), (⟨#[100]⟩ : ByteArray), (⟨#[104]⟩ : ByteArray), (⟨#[109]⟩ : ByteArray), (⟨#[115]⟩ : ByteArray)] : List ByteArray)) := ⟨_, rfl⟩
  replace H : (spec_Significant.l0 k a0 y120 y123 0) = some (r1, r2) := by first | (rw [hy123]; with_reducible exact H) | (have H2_ := (Option.bind_some _ _).symm.trans H; rw [hy123]; with_reducible exact H2_) | (have H2_ := (Option.bind_some _ _).symm.trans H; with_reducible exact H2_) | with_reducible exact H | (rw [hy123]; exact H) | exact H
  have Ny123 := Aside0.mk hy123
  clear hy123
  have H' := Aside0.mk H
  clear H
  go_enter Tryd.func9, Tryd.ntmps9
  go_wp2_with (first | ((with_reducible refine gate_dst (N := 7) rfl ?_); refine Kd.R_lit (Kd.int .i64) _ 2 ?hg (N := 7) ?hd (xs := ([31536000, 2592000, 86400, 3600, 60, 1] : List Int)) (inner := [.int .i64 31536000, .int .i64 2592000, .int .i64 86400, .int .i64 3600, .int .i64 60, .int .i64 1]) (ok := fun _ => True) (okp := fun _ => True) ?hr ?hp (fun _ hk => hk) trivial (Below.refl _ _) (Nat.le_refl _) (by simp) ?_; (case hd => rfl); (case hg => rfl); (case hr => first | (go_simp; done) | (go_simp; rfl)); (case hp => exact (Reps.one (show Kd.M (Kd.int .i64) _ _ _ 31536000 [.int .i64 31536000] from rfl) (Reps.one (show Kd.M (Kd.int .i64) _ _ _ 2592000 [.int .i64 2592000] from rfl) (Reps.one (show Kd.M (Kd.int .i64) _ _ _ 86400 [.int .i64 86400] from rfl) (Reps.one (show Kd.M (Kd.int .i64) _ _ _ 3600 [.int .i64 3600] from rfl) (Reps.one (show Kd.M (Kd.int .i64) _ _ _ 60 [.int .i64 60] from rfl) (Reps.one (show Kd.M (Kd.int .i64) _ _ _ 1 [.int .i64 1] from rfl) (Reps.none _ _)))))))); intro v121 w2 ho3 hb hg_ hnew_; clear hg_ hnew_; (first | rw [← Ny120.out] at ho3 | (simp only [Int.reduceToNat] at ho3; rw [← Ny120.out] at ho3)); have n0_ := Aside0.mk (Kd.R_lower ho3 (below_size (by repeat (first | (with_reducible first | exact HB.out | apply below_alloc | apply pw_below_drewN | apply below_drew1) | exact HB.out)))); have n1_ := Aside0.mk (below_step (by repeat (first | (with_reducible first | exact HB.out | apply below_alloc | apply pw_below_drewN | apply below_drew1) | exact HB.out)) hb); clear HB; have HO122 := n0_; have HB := n1_; clear n0_ n1_; clear hb ho3) | ((with_reducible refine gate_dst (N := 8) rfl ?_); refine Kd.R_lit Kd.string _ 9 ?hg (N := 8) ?hd (xs := ([(⟨#[121]⟩ : ByteArray), (⟨#[109, 111]⟩ : ByteArray), (⟨#[100]⟩ : ByteArray), (⟨#[104]⟩ : ByteArray), (⟨#[109]⟩ : ByteArray), (⟨#[115]⟩ : ByteArray)] : List ByteArray)) (inner := [.string (⟨#[121]⟩ : ByteArray), .string (⟨#[109, 111]⟩ : ByteArray), .string (⟨#[100]⟩ : ByteArray), .string (⟨#[104]⟩ : ByteArray), .string (⟨#[109]⟩ : ByteArray), .string (⟨#[115]⟩ : ByteArray)]) (ok := fun _ => True) (okp := fun _ => True) ?hr ?hp (fun _ hk => hk) trivial (Below.refl _ _) (Nat.le_refl _) (by simp) ?_; (case hd => rfl); (case hg => rfl); (case hr => first | (go_simp; done) | (go_simp; rfl)); (case hp => exact (Reps.one (show Kd.M Kd.string _ _ _ (⟨#[121]⟩ : ByteArray) [.string (⟨#[121]⟩ : ByteArray)] from rfl) (Reps.one (show Kd.M Kd.string _ _ _ (⟨#[109, 111]⟩ : ByteArray) [.string (⟨#[109, 111]⟩ : ByteArray)] from rfl) (Reps.one (show Kd.M Kd.string _ _ _ (⟨#[100]⟩ : ByteArray) [.string (⟨#[100]⟩ : ByteArray)] from rfl) (Reps.one (show Kd.M Kd.string _ _ _ (⟨#[104]⟩ : ByteArray) [.string (⟨#[104]⟩ : ByteArray)] from rfl) (Reps.one (show Kd.M Kd.string _ _ _ (⟨#[109]⟩ : ByteArray) [.string (⟨#[109]⟩ : ByteArray)] from rfl) (Reps.one (show Kd.M Kd.string _ _ _ (⟨#[115]⟩ : ByteArray) [.string (⟨#[115]⟩ : ByteArray)] from rfl) (Reps.none _ _)))))))); intro v124 w4 ho5 hb hg_ hnew_; clear hg_ hnew_; (first | rw [← Ny123.out] at ho5 | (simp only [Int.reduceToNat] at ho5; rw [← Ny123.out] at ho5)); have n0_ := Aside0.mk (Kd.R_below (by (with_reducible repeat (first | apply Kd.R_alloc | apply Kd.R_drewN | apply Kd.R_drew)); exact HO122.out) hb); have n1_ := Aside0.mk (Kd.R_lower ho5 (below_size (by repeat (first | (with_reducible first | exact HB.out | apply below_alloc | apply pw_below_drewN | apply below_drew1) | exact HB.out)))); have n2_ := Aside0.mk (below_step (by repeat (first | (with_reducible first | exact HB.out | apply below_alloc | apply pw_below_drewN | apply below_drew1) | exact HB.out)) hb); clear HO122; clear HB; have HO122 := n0_; have HO125 := n1_; have HB := n2_; clear n0_ n1_ n2_; clear hb ho5))
  go_loopg [6] k (fun kq v6 w' => ∃ (x6_1 : Int), v6 = .int .i64 x6_1 ∧ Aside0 (spec_Significant.l0 kq a0 y120 y123 x6_1 = some (r1, r2)) ∧ Aside0 (kq ≤ k) ∧ Aside0 (Kd.R (Kd.int .i64) 2 w' w.heap.size (fun _ => True) v121 y120) ∧ Aside0 (Kd.R Kd.string 9 w' w.heap.size (fun _ => True) v124 y123) ∧ Aside0 (Below w.heap.size w w'))
  case atStart => exact ⟨(0), (by first | rfl | (simp; done) | (simp [*]; done)), H', ⟨Nat.le_refl _⟩, ⟨by (with_reducible repeat (first | apply Kd.R_alloc | apply Kd.R_drewN | apply Kd.R_drew)); first | exact HO122.out | (have h_ := HO122.out; simp only [Txt.own_map] at h_ ⊢; exact h_)⟩, ⟨by (with_reducible repeat (first | apply Kd.R_alloc | apply Kd.R_drewN | apply Kd.R_drew)); first | exact HO125.out | (have h_ := HO125.out; simp only [Txt.own_map] at h_ ⊢; exact h_)⟩, ⟨by repeat (first | (with_reducible first | exact HB.out | apply below_alloc | apply pw_below_drewN | apply below_drew1) | exact HB.out)⟩⟩
  case round =>
    clear H'
    try clear p2
    obtain ⟨x6_1, rfl, HA, HK1, HO_4, HO_5, HB⟩ := hrel
    cases gk with
    | zero => exact absurd HA.out (by simp [spec_Significant.l0])
    | succ k1 =>
      have H := HA.out
      clear HA
      simp only [spec_Significant.l0] at H
      by_cases c6 : x6_1 < (y120.length : Int)
      · rw [if_pos c6] at H
        have c6b0 : decide (x6_1 < (y120.length : Int)) = true := decide_eq_true c6
        clear c6
        by_cases c7 : 0 ≤ x6_1
        · rw [if_pos c7] at H
          have c7b0 : decide (0 ≤ x6_1) = true := decide_eq_true c7
          clear c7
          by_cases c8 : a0 = (rd y120 x6_1)
          · rw [if_pos c8] at H
            have c8b0 : (a0 == (rd y120 x6_1)) = true := beq_iff_eq.mpr c8
            have c8b1 : (a0 != (rd y120 x6_1)) = false := bne_eq_false_iff_eq.mpr c8
            clear c8
            simp only [Option.some.injEq, Prod.mk.injEq] at H
            obtain ⟨rfl, rfl⟩ := H
            obtain ⟨Ao9, co9, eo9⟩ := Kd.R_slice HO_4.out
            subst eo9
            have p126 : 0 ≤ (x6_1 : Int) := of_decide_eq_true (by first | (with_reducible assumption) | assumption)
            have q126 : x6_1 < (y120.length : Int) := of_decide_eq_true (by first | (with_reducible assumption) | assumption)
            obtain ⟨ad126, e126, hx126_0⟩ := Kd.at_int (Kd.R_reads' HO_4.out).2.2 x6_1 p126 q126
            cases e126
            replace p126 := eq_true p126
            replace q126 := eq_true q126
            go_wp2
            go_ret2
            exact ⟨by first | rfl | (simp [errW_none, errW_some] <;> rfl) | (simp [*, errW_none, errW_some] <;> rfl), by repeat (first | (with_reducible first | exact HB.out | apply below_alloc | apply pw_below_drewN | apply below_drew1) | exact HB.out)⟩
          · rw [if_neg c8] at H
            have c8b0 : (a0 == (rd y120 x6_1)) = false := beq_eq_false_iff_ne.mpr c8
            have c8b1 : (a0 != (rd y120 x6_1)) = true := bne_iff_ne.mpr c8
            by_cases c10 : a0 > (rd y120 x6_1)
            · rw [if_pos c10] at H
              have c10b0 : decide ((rd y120 x6_1) < a0) = true := decide_eq_true c10
              clear c10
              by_cases c11 : (rd y120 x6_1) = 0
              · rw [if_pos c11] at H
                exact absurd H (by simp)
              · rw [if_neg c11] at H
                have c11b0 : ((rd y120 x6_1) == 0) = false := beq_eq_false_iff_ne.mpr c11
                have c11b1 : ((rd y120 x6_1) != 0) = true := bne_iff_ne.mpr c11
                replace H := Option.bind_eq_some_iff.mp H
                obtain ⟨t129, A120, H⟩ := H
                replace H : (if x6_1 < (y123.length : Int) then (if t129.size + (rdOf ByteArray.empty y123 x6_1).size ≤ 9223372036854775807 then (some (t129 ++ (rdOf ByteArray.empty y123 x6_1), true)) else (none)) else (none)) = some (r1, r2) := H
                have A12 := Aside0.mk A120
                clear A120
                by_cases c13 : x6_1 < (y123.length : Int)
                · rw [if_pos c13] at H
                  have c13b0 : decide (x6_1 < (y123.length : Int)) = true := decide_eq_true c13
                  clear c13
                  by_cases c14 : t129.size + (rdOf ByteArray.empty y123 x6_1).size ≤ 9223372036854775807
                  · rw [if_pos c14] at H
                    have c14b0 := eq_true c14
                    have c14b1 : decide (t129.size + (rdOf ByteArray.empty y123 x6_1).size ≤ 9223372036854775807) = true := decide_eq_true c14
                    try have c14b2 : (9223372036854775807 < t129.size + (rdOf ByteArray.empty y123 x6_1).size) = False := eq_false (Nat.not_lt.2 c14)
                    simp only [Option.some.injEq, Prod.mk.injEq] at H
                    obtain ⟨rfl, rfl⟩ := H
                    obtain ⟨Ao15, co15, eo15⟩ := Kd.R_slice HO_4.out
                    subst eo15
                    have p126 : 0 ≤ (x6_1 : Int) := of_decide_eq_true (by first | (with_reducible assumption) | assumption)
                    have q126 : x6_1 < (y120.length : Int) := of_decide_eq_true (by first | (with_reducible assumption) | assumption)
                    obtain ⟨ad126, e126, hx126_0⟩ := Kd.at_int (Kd.R_reads' HO_4.out).2.2 x6_1 p126 q126
                    cases e126
                    replace p126 := eq_true p126
                    replace q126 := eq_true q126
                    have p127 : 0 ≤ (x6_1 : Int) := of_decide_eq_true (by first | (with_reducible assumption) | assumption)
                    have q127 : x6_1 < (y120.length : Int) := of_decide_eq_true (by first | (with_reducible assumption) | assumption)
                    obtain ⟨ad127, e127, hx127_0⟩ := Kd.at_int (Kd.R_reads' HO_4.out).2.2 x6_1 p127 q127
                    obtain rfl : ad126 = ad127 := (by injection e127)
                    replace p127 := eq_true p127
                    replace q127 := eq_true q127
                    try go_wp2
                    have n0_ := Aside0.mk (Kd.R_drew HO_4.out)
                    have n1_ := Aside0.mk (Kd.R_drew HO_5.out)
                    have n2_ := Aside0.mk (below_drew1 HB.out)
                    clear HO_4
                    clear HO_5
                    clear HB
                    have HO_4 := n0_
                    have HO_5 := n1_
                    have HB := n2_
                    clear n0_ n1_ n2_
                    have p128 : 0 ≤ (x6_1 : Int) := of_decide_eq_true (by first | (with_reducible assumption) | assumption)
                    have q128 : x6_1 < (y120.length : Int) := of_decide_eq_true (by first | (with_reducible assumption) | assumption)
                    obtain ⟨ad128, e128, hx128_0⟩ := Kd.at_int (Kd.R_reads' HO_4.out).2.2 x6_1 p128 q128
                    obtain rfl : ad126 = ad128 := (by injection e128)
                    replace p128 := eq_true p128
                    replace q128 := eq_true q128
                    obtain ⟨Ao17, co17, eo17⟩ := Kd.R_slice HO_5.out
                    (first | subst eo17 | (injection eo17 with f1_ f2_ f3_; have f4_ := f1_.symm; have f5_ := f3_.symm; clear f1_ f2_ f3_; subst f4_; subst f5_))
                    have p130 : 0 ≤ (x6_1 : Int) := of_decide_eq_true (by first | (with_reducible assumption) | assumption)
                    have q130 : x6_1 < (y123.length : Int) := of_decide_eq_true (by first | (with_reducible assumption) | assumption)
                    obtain ⟨ad130, e130, hx130_0⟩ := Kd.at_string (Kd.R_reads' HO_5.out).2.2 x6_1 p130 q130
                    cases e130
                    replace p130 := eq_true p130
                    replace q130 := eq_true q130
                    refine start_ (n := 14) (S := fun w' => w'.cell? (ad126.add (x6_1).toNat) = some (.int .i64 (rd y120 x6_1)) ∧ w'.cell? (ad130.add (x6_1).toNat) = some (.string (rdOf ByteArray.empty y123 x6_1))) (ds := []) #[false, false, false, false, false, false, false, false, false, false, false, false, false, false] (by kernel_rfl) rfl rfl ⟨hx128_0, hx130_0⟩ (fun hHeld => ?_); refine with_tabW spec_Significant.tab9 spec_Significant.bits9 (fun HT_ HW_ => ?_)
                    generalize wr.drew = w16 at HO_4 HO_5 HB hx128_0 hx130_0 hHeld ⊢
                    refine pure_ (i := 0) (N := some 27) (v := ?_) (a' := ?_) #[true, false, false, false, false, false, false, false, false, false, false, false, false, false] rfl rfl (any_of HT_.out (by kernel_rfl)) (fun _ _ _ h => h) (Or.inl ⟨by rfl, ?_⟩) ?_ ?_
                    rotate_left
                    · intro w'
                      go_simp
                      with_reducible rfl
                    rotate_left
                    · simp only [Act.put, List.setIfInBounds_toArray, List.set_cons_zero, List.set_cons_succ, i64_w, i32_w]
                      rfl
                    refine pure_ (i := 1) (N := some 28) (v := ?_) (a' := ?_) #[true, true, false, false, false, false, false, false, false, false, false, false, false, false] rfl rfl (any_of HT_.out (by kernel_rfl)) (fun _ _ _ h => h) (Or.inl ⟨by rfl, ?_⟩) ?_ ?_
                    rotate_left
                    · intro w'
                      go_simp
                      with_reducible rfl
                    rotate_left
                    · simp only [Act.put, List.setIfInBounds_toArray, List.set_cons_zero, List.set_cons_succ, i64_w, i32_w]
                      rfl
                    refine pure_ (i := 2) (N := some 29) (v := ?_) (a' := ?_) #[true, true, true, false, false, false, false, false, false, false, false, false, false, false] rfl rfl (any_of HT_.out (by kernel_rfl)) (fun _ _ _ h => h) (Or.inl ⟨by rfl, ?_⟩) ?_ ?_
                    rotate_left
                    · intro w'
                      go_simp
                      with_reducible rfl
                    rotate_left
                    · simp only [Act.put, List.setIfInBounds_toArray, List.set_cons_zero, List.set_cons_succ, i64_w, i32_w]
                      rfl
                    refine pure_ (i := 3) (N := some 30) (v := ?_) (a' := ?_) #[true, true, true, true, false, false, false, false, false, false, false, false, false, false] rfl rfl (any_of HT_.out (by kernel_rfl)) (fun _ _ _ h => h) (Or.inl ⟨by rfl, ?_⟩) ?_ ?_
                    rotate_left
                    · intro w'
                      go_simp
                      with_reducible rfl
                    rotate_left
                    · simp only [Act.put, List.setIfInBounds_toArray, List.set_cons_zero, List.set_cons_succ, i64_w, i32_w]
                      rfl
                    refine pure_ (i := 7) (N := some 34) (v := ?_) (a' := ?_) #[true, true, true, true, false, false, false, true, false, false, false, false, false, false] rfl rfl (any_of HT_.out (by kernel_rfl)) (fun _ _ _ h => h) (Or.inl ⟨by rfl, ?_⟩) ?_ ?_
                    rotate_left
                    · intro w'
                      go_simp
                      with_reducible rfl
                    rotate_left
                    · simp only [Act.put, List.setIfInBounds_toArray, List.set_cons_zero, List.set_cons_succ, i64_w, i32_w]
                      rfl
                    refine pure_ (i := 8) (N := some 35) (v := ?_) (a' := ?_) #[true, true, true, true, false, false, false, true, true, false, false, false, false, false] rfl rfl (any_of HT_.out (by kernel_rfl)) (fun _ _ _ h => h) (Or.inl ⟨by rfl, ?_⟩) ?_ ?_
                    rotate_left
                    · intro w'
                      go_simp
                      with_reducible rfl
                    rotate_left
                    · simp only [Act.put, List.setIfInBounds_toArray, List.set_cons_zero, List.set_cons_succ, i64_w, i32_w]
                      rfl
                    refine pure_ (i := 9) (N := some 36) (v := ?_) (a' := ?_) #[true, true, true, true, false, false, false, true, true, true, false, false, false, false] rfl rfl (any_of HT_.out (by kernel_rfl)) (fun _ _ _ h => h) (Or.inl ⟨by rfl, ?_⟩) ?_ ?_
                    rotate_left
                    · intro w'
                      go_simp
                      with_reducible rfl
                    rotate_left
                    · simp only [Act.put, List.setIfInBounds_toArray, List.set_cons_zero, List.set_cons_succ, i64_w, i32_w]
                      rfl
                    refine take_ (i := 4) (N := some 31) (v := ?_) (a' := ?_) #[true, true, true, true, true, false, false, true, true, true, false, false, false, false] rfl rfl (take_ofW HT_.out HW_.out (by kernel_rfl)) (fun _ _ _ h => h) (Or.inl ⟨by rfl, ?_⟩) hHeld ?_ ?_
                    rotate_left
                    · rintro w' ⟨s0, s1⟩
                      go_simp
                      with_reducible rfl
                    rotate_left
                    · simp only [Act.put, List.setIfInBounds_toArray, List.set_cons_zero, List.set_cons_succ, i64_w, i32_w]
                      rfl
                    refine pure_ (i := 5) (N := some 32) (v := ?_) (a' := ?_) #[true, true, true, true, true, true, false, true, true, true, false, false, false, false] rfl rfl (any_of HT_.out (by kernel_rfl)) (fun _ _ _ h => h) (Or.inl ⟨by rfl, ?_⟩) ?_ ?_
                    rotate_left
                    · intro w'
                      go_simp
                      with_reducible rfl
                    rotate_left
                    · simp only [Act.put, List.setIfInBounds_toArray, List.set_cons_zero, List.set_cons_succ, i64_w, i32_w]
                      rfl
                    refine take_ (i := 10) (N := some 37) (v := ?_) (a' := ?_) #[true, true, true, true, true, true, false, true, true, true, true, false, false, false] rfl rfl (take_ofW HT_.out HW_.out (by kernel_rfl)) (fun _ _ _ h => h) (Or.inl ⟨by rfl, ?_⟩) hHeld ?_ ?_
                    rotate_left
                    · rintro w' ⟨s0, s1⟩
                      go_simp
                      with_reducible rfl
                    rotate_left
                    · simp only [Act.put, List.setIfInBounds_toArray, List.set_cons_zero, List.set_cons_succ, i64_w, i32_w]
                      rfl
                    refine one_ (i := 6) (N := some 33) #[true, true, true, true, true, true, true, true, true, true, true, false, false, false] rfl rfl (one_of HT_.out (by kernel_rfl)) (by decide) (fun K hK => ?_)
                    refine goes_ Tryd.func7 (by kernel_rfl) rfl #[.int .i64 (wrap64 (Int.tdiv a0 (rd y120 x6_1)))] (by rfl) rfl rfl (by (try simp only [List.map_toArray, List.map_cons, List.map_nil]); first | done | rfl | (simp only [List.length_drop, List.length_take]; rfl)) ?_
                    with_reducible refine (spec_Decimal.calls (wrap64 (Int.tdiv a0 (rd y120 x6_1))) t129 _ (by first | exact TT_.out | exact TT_.out.below (by repeat (first | (with_reducible first | exact HB.out | apply below_alloc | apply pw_below_drewN | apply below_drew1) | exact HB.out))) A12.out).mono ?_
                    rintro e w18 ⟨rfl, hb⟩
                    have HS0_ := (hb.cell (World.block_lt_of_cell? _ _ (hHeld.1))).trans (hHeld.1)
                    have HS1_ := (hb.cell (World.block_lt_of_cell? _ _ (hHeld.2))).trans (hHeld.2)
                    refine ⟨_, rfl, ?_⟩
                    have n0_ := Aside0.mk (Kd.R_below (by (with_reducible repeat (first | apply Kd.R_alloc | apply Kd.R_drewN | apply Kd.R_drew)); exact HO_4.out) hb)
                    have n1_ := Aside0.mk (Kd.R_below (by (with_reducible repeat (first | apply Kd.R_alloc | apply Kd.R_drewN | apply Kd.R_drew)); exact HO_5.out) hb)
                    have n2_ := Aside0.mk (below_step (by repeat (first | (with_reducible first | exact HB.out | apply below_alloc | apply pw_below_drewN | apply below_drew1) | exact HB.out)) hb)
                    clear HO_4
                    clear HO_5
                    clear HB
                    have HO_4 := n0_
                    have HO_5 := n1_
                    have HB := n2_
                    clear n0_ n1_ n2_
                    (try clear hb)
                    (try clear hb2)
                    (try clear hk)
                    (try clear hi)
                    refine hK.out _ _ ⟨HS0_, HS1_⟩ (fun hHeld => ?_)
                    clear hK K
                    refine norm_ (a' := ?_) ?_ ?_
                    rotate_left
                    · show Act.put _ (some 33) _ = _
                      simp only [Act.put, List.setIfInBounds_toArray, List.set_cons_zero, List.set_cons_succ, i64_w, i32_w]
                      rfl
                    refine pure_ (i := 11) (N := some 38) (v := ?_) (a' := ?_) #[true, true, true, true, true, true, true, true, true, true, true, true, false, false] rfl rfl (any_of HT_.out (by kernel_rfl)) (fun _ _ _ h => h) (Or.inl ⟨by rfl, ?_⟩) ?_ ?_
                    rotate_left
                    · intro w'
                      go_simp
                      with_reducible rfl
                    rotate_left
                    · simp only [Act.put, List.setIfInBounds_toArray, List.set_cons_zero, List.set_cons_succ, i64_w, i32_w]
                      rfl
                    refine pure_ (i := 12) (N := some 2) (v := ?_) (a' := ?_) #[true, true, true, true, true, true, true, true, true, true, true, true, true, false] rfl rfl (any_of HT_.out (by kernel_rfl)) (fun _ _ _ h => h) (Or.inl ⟨by rfl, ?_⟩) ?_ ?_
                    rotate_left
                    · intro w'
                      go_simp
                      with_reducible rfl
                    rotate_left
                    · simp only [Act.put, List.setIfInBounds_toArray, List.set_cons_zero, List.set_cons_succ, i64_w, i32_w]
                      rfl
                    refine pure_ (i := 13) (N := some 3) (v := ?_) (a' := ?_) #[true, true, true, true, true, true, true, true, true, true, true, true, true, true] rfl rfl (any_of HT_.out (by kernel_rfl)) (fun _ _ _ h => h) (Or.inl ⟨by rfl, ?_⟩) ?_ ?_
                    rotate_left
                    · intro w'
                      go_simp
                      with_reducible rfl
                    rotate_left
                    · simp only [Act.put, List.setIfInBounds_toArray, List.set_cons_zero, List.set_cons_succ, i64_w, i32_w]
                      rfl
                    refine done_ (done_of HT_.out (by kernel_rfl)) ?_
                    try go_wp2
                    go_ret2
                    exact ⟨by first | rfl | (simp [errW_none, errW_some] <;> rfl) | (simp [*, errW_none, errW_some] <;> rfl), by repeat (first | (with_reducible first | exact HB.out | apply below_alloc | apply pw_below_drewN | apply below_drew1) | exact HB.out)⟩
                  · rw [if_neg c14] at H
                    exact absurd H (by simp)
                · rw [if_neg c13] at H
                  exact absurd H (by simp)
            · rw [if_neg c10] at H
              have c10b0 : decide ((rd y120 x6_1) < a0) = false := decide_eq_false c10
              clear c10
              have H' := Aside0.mk H
              clear H
              obtain ⟨Ao19, co19, eo19⟩ := Kd.R_slice HO_4.out
              subst eo19
              have p126 : 0 ≤ (x6_1 : Int) := of_decide_eq_true (by first | (with_reducible assumption) | assumption)
              have q126 : x6_1 < (y120.length : Int) := of_decide_eq_true (by first | (with_reducible assumption) | assumption)
              obtain ⟨ad126, e126, hx126_0⟩ := Kd.at_int (Kd.R_reads' HO_4.out).2.2 x6_1 p126 q126
              cases e126
              replace p126 := eq_true p126
              replace q126 := eq_true q126
              have p127 : 0 ≤ (x6_1 : Int) := of_decide_eq_true (by first | (with_reducible assumption) | assumption)
              have q127 : x6_1 < (y120.length : Int) := of_decide_eq_true (by first | (with_reducible assumption) | assumption)
              obtain ⟨ad127, e127, hx127_0⟩ := Kd.at_int (Kd.R_reads' HO_4.out).2.2 x6_1 p127 q127
              obtain rfl : ad126 = ad127 := (by injection e127)
              replace p127 := eq_true p127
              replace q127 := eq_true q127
              go_wp2
              go_roundg k1
              case measure => have := HK1.out; omega
              case rel => exact ⟨(wrap64 (x6_1 + 1)), (by first | rfl | (simp; done) | (simp [*]; done)), H', ⟨by have := HK1.out; omega⟩, ⟨by (with_reducible repeat (first | apply Kd.R_alloc | apply Kd.R_drewN | apply Kd.R_drew)); first | exact HO_4.out | (have h_ := HO_4.out; simp only [Txt.own_map] at h_ ⊢; exact h_)⟩, ⟨by (with_reducible repeat (first | apply Kd.R_alloc | apply Kd.R_drewN | apply Kd.R_drew)); first | exact HO_5.out | (have h_ := HO_5.out; simp only [Txt.own_map] at h_ ⊢; exact h_)⟩, ⟨by repeat (first | (with_reducible first | exact HB.out | apply below_alloc | apply pw_below_drewN | apply below_drew1) | exact HB.out)⟩⟩
        · rw [if_neg c7] at H
          exact absurd H (by simp)
      · rw [if_neg c6] at H
        have c6b0 : decide (x6_1 < (y120.length : Int)) = false := decide_eq_false c6
        clear c6
        simp only [Option.some.injEq, Prod.mk.injEq] at H
        obtain ⟨rfl, rfl⟩ := H
        obtain ⟨Ao20, co20, eo20⟩ := Kd.R_slice HO_4.out
        subst eo20
        go_wp2
        go_ret2
        exact ⟨by first | rfl | (simp [errW_none, errW_some] <;> rfl) | (simp [*, errW_none, errW_some] <;> rfl), by repeat (first | (with_reducible first | exact HB.out | apply below_alloc | apply pw_below_drewN | apply below_drew1) | exact HB.out)⟩

-- NOT PRINTED: function 38 (time_leadingInt_string)

-- NOT PRINTED: function 39 (time_leadingFraction)

-- NOT PRINTED: function 40 (time_quote)

-- NOT PRINTED: function 28 (time_ParseDuration)

-- NOT PRINTED: function 41 (strconv_FormatUint_41)

-- NOT PRINTED: function 29 (strconv_FormatUint_29)

-- NOT PRINTED: function 22 (sprig_durationRound)

-- NOT PRINTED: function 17 (sprig_DurationRound)

-- GIVEN: function 10 (impl_DurationRound): a contract of ours

/-! ### spec_Seconds: function 11 -/
def spec_Seconds.f (a0 : Int) : Option (ByteArray) := (spec_Decimal.f (Int.tmod a0 60)).bind fun t133 => (if t133.size + 1 ≤ 9223372036854775807 then (if a0 ≥ 60 then ((spec_Decimal.f (Int.tmod (wrap64 (Int.tdiv a0 60)) 60)).bind fun t134 => (if t134.size + 1 ≤ 9223372036854775807 then (if (t134 ++ (⟨#[109]⟩ : ByteArray)).size + (t133 ++ (⟨#[115]⟩ : ByteArray)).size ≤ 9223372036854775807 then (if a0 ≥ 3600 then ((spec_Decimal.f (wrap64 (Int.tdiv a0 3600))).bind fun t135 => (if t135.size + 1 ≤ 9223372036854775807 then (if (t135 ++ (⟨#[104]⟩ : ByteArray)).size + ((t134 ++ (⟨#[109]⟩ : ByteArray)) ++ (t133 ++ (⟨#[115]⟩ : ByteArray))).size ≤ 9223372036854775807 then (some ((t135 ++ (⟨#[104]⟩ : ByteArray)) ++ ((t134 ++ (⟨#[109]⟩ : ByteArray)) ++ (t133 ++ (⟨#[115]⟩ : ByteArray))))) else (none)) else (none))) else (some ((t134 ++ (⟨#[109]⟩ : ByteArray)) ++ (t133 ++ (⟨#[115]⟩ : ByteArray))))) else (none)) else (none))) else (if a0 ≥ 3600 then ((spec_Decimal.f (wrap64 (Int.tdiv a0 3600))).bind fun t136 => (if t136.size + 1 ≤ 9223372036854775807 then (if (t136 ++ (⟨#[104]⟩ : ByteArray)).size + (t133 ++ (⟨#[115]⟩ : ByteArray)).size ≤ 9223372036854775807 then (some ((t136 ++ (⟨#[104]⟩ : ByteArray)) ++ (t133 ++ (⟨#[115]⟩ : ByteArray)))) else (none)) else (none))) else (some (t133 ++ (⟨#[115]⟩ : ByteArray))))) else (none))
set_option maxHeartbeats 8000000 in
set_option maxRecDepth 100000 in
theorem spec_Seconds.calls (a0 : Int) (r : ByteArray) (w : World) (T : Giv.DurT w) (h : spec_Seconds.f a0 = some r) :
    Calls Tryd.prog 11 #[.int .i64 a0] w fun e w' => e = .returned (.string r) ∧ Below w.heap.size w w' := by
  have TT_ := Aside0.mk T
  clear T
  have HB := Aside0.mk (Below.refl w.heap.size w)
  have H : ((spec_Decimal.f (Int.tmod a0 60)).bind fun t133 => (if t133.size + 1 ≤ 9223372036854775807 then (if a0 ≥ 60 then ((spec_Decimal.f (Int.tmod (wrap64 (Int.tdiv a0 60)) 60)).bind fun t134 => (if t134.size + 1 ≤ 9223372036854775807 then (if (t134 ++ (⟨#[109]⟩ : ByteArray)).size + (t133 ++ (⟨#[115]⟩ : ByteArray)).size ≤ 9223372036854775807 then (if a0 ≥ 3600 then ((spec_Decimal.f (wrap64 (Int.tdiv a0 3600))).bind fun t135 => (if t135.size + 1 ≤ 9223372036854775807 then (if (t135 ++ (⟨#[104]⟩ : ByteArray)).size + ((t134 ++ (⟨#[109]⟩ : ByteArray)) ++ (t133 ++ (⟨#[115]⟩ : ByteArray))).size ≤ 9223372036854775807 then (some ((t135 ++ (⟨#[104]⟩ : ByteArray)) ++ ((t134 ++ (⟨#[109]⟩ : ByteArray)) ++ (t133 ++ (⟨#[115]⟩ : ByteArray))))) else (none)) else (none))) else (some ((t134 ++ (⟨#[109]⟩ : ByteArray)) ++ (t133 ++ (⟨#[115]⟩ : ByteArray))))) else (none)) else (none))) else (if a0 ≥ 3600 then ((spec_Decimal.f (wrap64 (Int.tdiv a0 3600))).bind fun t136 => (if t136.size + 1 ≤ 9223372036854775807 then (if (t136 ++ (⟨#[104]⟩ : ByteArray)).size + (t133 ++ (⟨#[115]⟩ : ByteArray)).size ≤ 9223372036854775807 then (some ((t136 ++ (⟨#[104]⟩ : ByteArray)) ++ (t133 ++ (⟨#[115]⟩ : ByteArray)))) else (none)) else (none))) else (some (t133 ++ (⟨#[115]⟩ : ByteArray))))) else (none))) = some r := h
  clear h
  replace H := Option.bind_eq_some_iff.mp H
  obtain ⟨t133, A20, H⟩ := H
  replace H : (if t133.size + 1 ≤ 9223372036854775807 then (if a0 ≥ 60 then ((spec_Decimal.f (Int.tmod (wrap64 (Int.tdiv a0 60)) 60)).bind fun t134 => (if t134.size + 1 ≤ 9223372036854775807 then (if (t134 ++ (⟨#[109]⟩ : ByteArray)).size + (t133 ++ (⟨#[115]⟩ : ByteArray)).size ≤ 9223372036854775807 then (if a0 ≥ 3600 then ((spec_Decimal.f (wrap64 (Int.tdiv a0 3600))).bind fun t135 => (if t135.size + 1 ≤ 9223372036854775807 then (if (t135 ++ (⟨#[104]⟩ : ByteArray)).size + ((t134 ++ (⟨#[109]⟩ : ByteArray)) ++ (t133 ++ (⟨#[115]⟩ : ByteArray))).size ≤ 9223372036854775807 then (some ((t135 ++ (⟨#[104]⟩ : ByteArray)) ++ ((t134 ++ (⟨#[109]⟩ : ByteArray)) ++ (t133 ++ (⟨#[115]⟩ : ByteArray))))) else (none)) else (none))) else (some ((t134 ++ (⟨#[109]⟩ : ByteArray)) ++ (t133 ++ (⟨#[115]⟩ : ByteArray))))) else (none)) else (none))) else (if a0 ≥ 3600 then ((spec_Decimal.f (wrap64 (Int.tdiv a0 3600))).bind fun t136 => (if t136.size + 1 ≤ 9223372036854775807 then (if (t136 ++ (⟨#[104]⟩ : ByteArray)).size + (t133 ++ (⟨#[115]⟩ : ByteArray)).size ≤ 9223372036854775807 then (some ((t136 ++ (⟨#[104]⟩ : ByteArray)) ++ (t133 ++ (⟨#[115]⟩ : ByteArray)))) else (none)) else (none))) else (some (t133 ++ (⟨#[115]⟩ : ByteArray))))) else (none)) = some r := H
  have A2 := Aside0.mk A20
  clear A20
  by_cases c3 : t133.size + 1 ≤ 9223372036854775807
  · rw [if_pos c3] at H
    have c3b0 := eq_true c3
    have c3b1 : decide (t133.size + 1 ≤ 9223372036854775807) = true := decide_eq_true c3
    try have c3b2 : (9223372036854775807 < t133.size + 1) = False := eq_false (Nat.not_lt.2 c3)
    by_cases c4 : a0 ≥ 60
    · rw [if_pos c4] at H
      have c4b0 : decide (60 ≤ a0) = true := decide_eq_true c4
      clear c4
      replace H := Option.bind_eq_some_iff.mp H
      obtain ⟨t134, A50, H⟩ := H
      replace H : (if t134.size + 1 ≤ 9223372036854775807 then (if (t134 ++ (⟨#[109]⟩ : ByteArray)).size + (t133 ++ (⟨#[115]⟩ : ByteArray)).size ≤ 9223372036854775807 then (if a0 ≥ 3600 then ((spec_Decimal.f (wrap64 (Int.tdiv a0 3600))).bind fun t135 => (if t135.size + 1 ≤ 9223372036854775807 then (if (t135 ++ (⟨#[104]⟩ : ByteArray)).size + ((t134 ++ (⟨#[109]⟩ : ByteArray)) ++ (t133 ++ (⟨#[115]⟩ : ByteArray))).size ≤ 9223372036854775807 then (some ((t135 ++ (⟨#[104]⟩ : ByteArray)) ++ ((t134 ++ (⟨#[109]⟩ : ByteArray)) ++ (t133 ++ (⟨#[115]⟩ : ByteArray))))) else (none)) else (none))) else (some ((t134 ++ (⟨#[109]⟩ : ByteArray)) ++ (t133 ++ (⟨#[115]⟩ : ByteArray))))) else (none)) else (none)) = some r := H
      have A5 := Aside0.mk A50
      clear A50
      by_cases c6 : t134.size + 1 ≤ 9223372036854775807
      · rw [if_pos c6] at H
        have c6b0 := eq_true c6
        have c6b1 : decide (t134.size + 1 ≤ 9223372036854775807) = true := decide_eq_true c6
        try have c6b2 : (9223372036854775807 < t134.size + 1) = False := eq_false (Nat.not_lt.2 c6)
        by_cases c7 : (t134 ++ (⟨#[109]⟩ : ByteArray)).size + (t133 ++ (⟨#[115]⟩ : ByteArray)).size ≤ 9223372036854775807
        · rw [if_pos c7] at H
          have c7b0 := eq_true c7
          have c7b1 : decide ((t134 ++ (⟨#[109]⟩ : ByteArray)).size + (t133 ++ (⟨#[115]⟩ : ByteArray)).size ≤ 9223372036854775807) = true := decide_eq_true c7
          try have c7b2 : (9223372036854775807 < (t134 ++ (⟨#[109]⟩ : ByteArray)).size + (t133 ++ (⟨#[115]⟩ : ByteArray)).size) = False := eq_false (Nat.not_lt.2 c7)
          by_cases c8 : a0 ≥ 3600
          · rw [if_pos c8] at H
            have c8b0 : decide (3600 ≤ a0) = true := decide_eq_true c8
            clear c8
            replace H := Option.bind_eq_some_iff.mp H
            obtain ⟨t135, A90, H⟩ := H
            replace H : (if t135.size + 1 ≤ 9223372036854775807 then (if (t135 ++ (⟨#[104]⟩ : ByteArray)).size + ((t134 ++ (⟨#[109]⟩ : ByteArray)) ++ (t133 ++ (⟨#[115]⟩ : ByteArray))).size ≤ 9223372036854775807 then (some ((t135 ++ (⟨#[104]⟩ : ByteArray)) ++ ((t134 ++ (⟨#[109]⟩ : ByteArray)) ++ (t133 ++ (⟨#[115]⟩ : ByteArray))))) else (none)) else (none)) = some r := H
            have A9 := Aside0.mk A90
            clear A90
            by_cases c10 : t135.size + 1 ≤ 9223372036854775807
            · rw [if_pos c10] at H
              have c10b0 := eq_true c10
              have c10b1 : decide (t135.size + 1 ≤ 9223372036854775807) = true := decide_eq_true c10
              try have c10b2 : (9223372036854775807 < t135.size + 1) = False := eq_false (Nat.not_lt.2 c10)
              by_cases c11 : (t135 ++ (⟨#[104]⟩ : ByteArray)).size + ((t134 ++ (⟨#[109]⟩ : ByteArray)) ++ (t133 ++ (⟨#[115]⟩ : ByteArray))).size ≤ 9223372036854775807
              · rw [if_pos c11] at H
                have c11b0 := eq_true c11
                have c11b1 : decide ((t135 ++ (⟨#[104]⟩ : ByteArray)).size + ((t134 ++ (⟨#[109]⟩ : ByteArray)) ++ (t133 ++ (⟨#[115]⟩ : ByteArray))).size ≤ 9223372036854775807) = true := decide_eq_true c11
                try have c11b2 : (9223372036854775807 < (t135 ++ (⟨#[104]⟩ : ByteArray)).size + ((t134 ++ (⟨#[109]⟩ : ByteArray)) ++ (t133 ++ (⟨#[115]⟩ : ByteArray))).size) = False := eq_false (Nat.not_lt.2 c11)
                obtain rfl := Option.some.inj H
                go_enter Tryd.func11, Tryd.ntmps11
                go_wp2_with (first | ((with_reducible refine gate_callee (f := 7) rfl ?_); refine goesL_ (some 6) rfl rfl Tryd.func7 (by kernel_rfl) rfl #[.int .i64 (Int.tmod a0 60)] rfl (by (try simp only [List.map_toArray, List.map_cons, List.map_nil]); first | done | rfl | (simp only [List.length_drop, List.length_take]; rfl)) ?_; (with_reducible refine (spec_Decimal.calls (Int.tmod a0 60) t133 _ (by first | exact TT_.out | exact TT_.out.below (by repeat (first | (with_reducible first | exact HB.out | apply below_alloc | apply pw_below_drewN | apply below_drew1) | exact HB.out))) A2.out).mono ?_); rintro e w12 ⟨rfl, hb⟩; refine ⟨_, rfl, ?_⟩; have n0_ := Aside0.mk (below_step (by repeat (first | (with_reducible first | exact HB.out | apply below_alloc | apply pw_below_drewN | apply below_drew1) | exact HB.out)) hb); clear HB; have HB := n0_; clear n0_; (try clear hb); (try clear hb2); (try clear hk); (try clear hi)) | ((with_reducible refine gate_callee (f := 7) rfl ?_); refine goesL_ (some 13) rfl rfl Tryd.func7 (by kernel_rfl) rfl #[.int .i64 (Int.tmod (wrap64 (Int.tdiv a0 60)) 60)] rfl (by (try simp only [List.map_toArray, List.map_cons, List.map_nil]); first | done | rfl | (simp only [List.length_drop, List.length_take]; rfl)) ?_; (with_reducible refine (spec_Decimal.calls (Int.tmod (wrap64 (Int.tdiv a0 60)) 60) t134 _ (by first | exact TT_.out | exact TT_.out.below (by repeat (first | (with_reducible first | exact HB.out | apply below_alloc | apply pw_below_drewN | apply below_drew1) | exact HB.out))) A5.out).mono ?_); rintro e w13 ⟨rfl, hb⟩; refine ⟨_, rfl, ?_⟩; have n0_ := Aside0.mk (below_step (by repeat (first | (with_reducible first | exact HB.out | apply below_alloc | apply pw_below_drewN | apply below_drew1) | exact HB.out)) hb); clear HB; have HB := n0_; clear n0_; (try clear hb); (try clear hb2); (try clear hk); (try clear hi)) | ((with_reducible refine gate_callee (f := 7) rfl ?_); refine goesL_ (some 21) rfl rfl Tryd.func7 (by kernel_rfl) rfl #[.int .i64 (wrap64 (Int.tdiv a0 3600))] rfl (by (try simp only [List.map_toArray, List.map_cons, List.map_nil]); first | done | rfl | (simp only [List.length_drop, List.length_take]; rfl)) ?_; (with_reducible refine (spec_Decimal.calls (wrap64 (Int.tdiv a0 3600)) t135 _ (by first | exact TT_.out | exact TT_.out.below (by repeat (first | (with_reducible first | exact HB.out | apply below_alloc | apply pw_below_drewN | apply below_drew1) | exact HB.out))) A9.out).mono ?_); rintro e w14 ⟨rfl, hb⟩; refine ⟨_, rfl, ?_⟩; have n0_ := Aside0.mk (below_step (by repeat (first | (with_reducible first | exact HB.out | apply below_alloc | apply pw_below_drewN | apply below_drew1) | exact HB.out)) hb); clear HB; have HB := n0_; clear n0_; (try clear hb); (try clear hb2); (try clear hk); (try clear hi)))
                go_ret
                exact ⟨by first | rfl | (simp [errW_none, errW_some] <;> rfl) | (simp [*, errW_none, errW_some] <;> rfl), by repeat (first | (with_reducible first | exact HB.out | apply below_alloc | apply pw_below_drewN | apply below_drew1) | exact HB.out)⟩
              · rw [if_neg c11] at H
                exact absurd H (by simp)
            · rw [if_neg c10] at H
              exact absurd H (by simp)
          · rw [if_neg c8] at H
            have c8b0 : decide (3600 ≤ a0) = false := decide_eq_false c8
            clear c8
            obtain rfl := Option.some.inj H
            go_enter Tryd.func11, Tryd.ntmps11
            go_wp2_with (first | ((with_reducible refine gate_callee (f := 7) rfl ?_); refine goesL_ (some 6) rfl rfl Tryd.func7 (by kernel_rfl) rfl #[.int .i64 (Int.tmod a0 60)] rfl (by (try simp only [List.map_toArray, List.map_cons, List.map_nil]); first | done | rfl | (simp only [List.length_drop, List.length_take]; rfl)) ?_; (with_reducible refine (spec_Decimal.calls (Int.tmod a0 60) t133 _ (by first | exact TT_.out | exact TT_.out.below (by repeat (first | (with_reducible first | exact HB.out | apply below_alloc | apply pw_below_drewN | apply below_drew1) | exact HB.out))) A2.out).mono ?_); rintro e w15 ⟨rfl, hb⟩; refine ⟨_, rfl, ?_⟩; have n0_ := Aside0.mk (below_step (by repeat (first | (with_reducible first | exact HB.out | apply below_alloc | apply pw_below_drewN | apply below_drew1) | exact HB.out)) hb); clear HB; have HB := n0_; clear n0_; (try clear hb); (try clear hb2); (try clear hk); (try clear hi)) | ((with_reducible refine gate_callee (f := 7) rfl ?_); refine goesL_ (some 13) rfl rfl Tryd.func7 (by kernel_rfl) rfl #[.int .i64 (Int.tmod (wrap64 (Int.tdiv a0 60)) 60)] rfl (by (try simp only [List.map_toArray, List.map_cons, List.map_nil]); first | done | rfl | (simp only [List.length_drop, List.length_take]; rfl)) ?_; (with_reducible refine (spec_Decimal.calls (Int.tmod (wrap64 (Int.tdiv a0 60)) 60) t134 _ (by first | exact TT_.out | exact TT_.out.below (by repeat (first | (with_reducible first | exact HB.out | apply below_alloc | apply pw_below_drewN | apply below_drew1) | exact HB.out))) A5.out).mono ?_); rintro e w16 ⟨rfl, hb⟩; refine ⟨_, rfl, ?_⟩; have n0_ := Aside0.mk (below_step (by repeat (first | (with_reducible first | exact HB.out | apply below_alloc | apply pw_below_drewN | apply below_drew1) | exact HB.out)) hb); clear HB; have HB := n0_; clear n0_; (try clear hb); (try clear hb2); (try clear hk); (try clear hi)))
            go_ret
            exact ⟨by first | rfl | (simp [errW_none, errW_some] <;> rfl) | (simp [*, errW_none, errW_some] <;> rfl), by repeat (first | (with_reducible first | exact HB.out | apply below_alloc | apply pw_below_drewN | apply below_drew1) | exact HB.out)⟩
        · rw [if_neg c7] at H
          exact absurd H (by simp)
      · rw [if_neg c6] at H
        exact absurd H (by simp)
    · rw [if_neg c4] at H
      have c4b0 : decide (60 ≤ a0) = false := decide_eq_false c4
      clear c4
      by_cases c17 : a0 ≥ 3600
      · rw [if_pos c17] at H
        have c17b0 : decide (3600 ≤ a0) = true := decide_eq_true c17
        clear c17
        replace H := Option.bind_eq_some_iff.mp H
        obtain ⟨t136, A180, H⟩ := H
        replace H : (if t136.size + 1 ≤ 9223372036854775807 then (if (t136 ++ (⟨#[104]⟩ : ByteArray)).size + (t133 ++ (⟨#[115]⟩ : ByteArray)).size ≤ 9223372036854775807 then (some ((t136 ++ (⟨#[104]⟩ : ByteArray)) ++ (t133 ++ (⟨#[115]⟩ : ByteArray)))) else (none)) else (none)) = some r := H
        have A18 := Aside0.mk A180
        clear A180
        by_cases c19 : t136.size + 1 ≤ 9223372036854775807
        · rw [if_pos c19] at H
          have c19b0 := eq_true c19
          have c19b1 : decide (t136.size + 1 ≤ 9223372036854775807) = true := decide_eq_true c19
          try have c19b2 : (9223372036854775807 < t136.size + 1) = False := eq_false (Nat.not_lt.2 c19)
          by_cases c20 : (t136 ++ (⟨#[104]⟩ : ByteArray)).size + (t133 ++ (⟨#[115]⟩ : ByteArray)).size ≤ 9223372036854775807
          · rw [if_pos c20] at H
            have c20b0 := eq_true c20
            have c20b1 : decide ((t136 ++ (⟨#[104]⟩ : ByteArray)).size + (t133 ++ (⟨#[115]⟩ : ByteArray)).size ≤ 9223372036854775807) = true := decide_eq_true c20
            try have c20b2 : (9223372036854775807 < (t136 ++ (⟨#[104]⟩ : ByteArray)).size + (t133 ++ (⟨#[115]⟩ : ByteArray)).size) = False := eq_false (Nat.not_lt.2 c20)
            obtain rfl := Option.some.inj H
            go_enter Tryd.func11, Tryd.ntmps11
            go_wp2_with (first | ((with_reducible refine gate_callee (f := 7) rfl ?_); refine goesL_ (some 6) rfl rfl Tryd.func7 (by kernel_rfl) rfl #[.int .i64 (Int.tmod a0 60)] rfl (by (try simp only [List.map_toArray, List.map_cons, List.map_nil]); first | done | rfl | (simp only [List.length_drop, List.length_take]; rfl)) ?_; (with_reducible refine (spec_Decimal.calls (Int.tmod a0 60) t133 _ (by first | exact TT_.out | exact TT_.out.below (by repeat (first | (with_reducible first | exact HB.out | apply below_alloc | apply pw_below_drewN | apply below_drew1) | exact HB.out))) A2.out).mono ?_); rintro e w21 ⟨rfl, hb⟩; refine ⟨_, rfl, ?_⟩; have n0_ := Aside0.mk (below_step (by repeat (first | (with_reducible first | exact HB.out | apply below_alloc | apply pw_below_drewN | apply below_drew1) | exact HB.out)) hb); clear HB; have HB := n0_; clear n0_; (try clear hb); (try clear hb2); (try clear hk); (try clear hi)) | ((with_reducible refine gate_callee (f := 7) rfl ?_); refine goesL_ (some 21) rfl rfl Tryd.func7 (by kernel_rfl) rfl #[.int .i64 (wrap64 (Int.tdiv a0 3600))] rfl (by (try simp only [List.map_toArray, List.map_cons, List.map_nil]); first | done | rfl | (simp only [List.length_drop, List.length_take]; rfl)) ?_; (with_reducible refine (spec_Decimal.calls (wrap64 (Int.tdiv a0 3600)) t136 _ (by first | exact TT_.out | exact TT_.out.below (by repeat (first | (with_reducible first | exact HB.out | apply below_alloc | apply pw_below_drewN | apply below_drew1) | exact HB.out))) A18.out).mono ?_); rintro e w22 ⟨rfl, hb⟩; refine ⟨_, rfl, ?_⟩; have n0_ := Aside0.mk (below_step (by repeat (first | (with_reducible first | exact HB.out | apply below_alloc | apply pw_below_drewN | apply below_drew1) | exact HB.out)) hb); clear HB; have HB := n0_; clear n0_; (try clear hb); (try clear hb2); (try clear hk); (try clear hi)))
            go_ret
            exact ⟨by first | rfl | (simp [errW_none, errW_some] <;> rfl) | (simp [*, errW_none, errW_some] <;> rfl), by repeat (first | (with_reducible first | exact HB.out | apply below_alloc | apply pw_below_drewN | apply below_drew1) | exact HB.out)⟩
          · rw [if_neg c20] at H
            exact absurd H (by simp)
        · rw [if_neg c19] at H
          exact absurd H (by simp)
      · rw [if_neg c17] at H
        have c17b0 : decide (3600 ≤ a0) = false := decide_eq_false c17
        clear c17
        obtain rfl := Option.some.inj H
        go_enter Tryd.func11, Tryd.ntmps11
        go_wp2_with (first | ((with_reducible refine gate_callee (f := 7) rfl ?_); refine goesL_ (some 6) rfl rfl Tryd.func7 (by kernel_rfl) rfl #[.int .i64 (Int.tmod a0 60)] rfl (by (try simp only [List.map_toArray, List.map_cons, List.map_nil]); first | done | rfl | (simp only [List.length_drop, List.length_take]; rfl)) ?_; (with_reducible refine (spec_Decimal.calls (Int.tmod a0 60) t133 _ (by first | exact TT_.out | exact TT_.out.below (by repeat (first | (with_reducible first | exact HB.out | apply below_alloc | apply pw_below_drewN | apply below_drew1) | exact HB.out))) A2.out).mono ?_); rintro e w23 ⟨rfl, hb⟩; refine ⟨_, rfl, ?_⟩; have n0_ := Aside0.mk (below_step (by repeat (first | (with_reducible first | exact HB.out | apply below_alloc | apply pw_below_drewN | apply below_drew1) | exact HB.out)) hb); clear HB; have HB := n0_; clear n0_; (try clear hb); (try clear hb2); (try clear hk); (try clear hi)))
        go_ret
        exact ⟨by first | rfl | (simp [errW_none, errW_some] <;> rfl) | (simp [*, errW_none, errW_some] <;> rfl), by repeat (first | (with_reducible first | exact HB.out | apply below_alloc | apply pw_below_drewN | apply below_drew1) | exact HB.out)⟩
  · rw [if_neg c3] at H
    exact absurd H (by simp)

-- GIVEN: function 12 (impl_DurationRoundNano): a contract of ours

/-! ### laws_FnDurationRound: function 4 -/
def laws_FnDurationRound.j0 : Nat → Int → Bool → Option (Bool)
  | 0, _, _ => none
  | k + 1, x0, x10 => if x10 = true then (some true) else ((spec_Significant.f k x0).bind fun bt137 => (if bt137.2 = true then ((spec_Seconds.f x0).bind fun t139 => ((impl_DurationRound.f t139).bind fun t140 => (if t140.toList = bt137.1.toList then ((impl_DurationRoundNano.f (wrap64 (x0 * 1000000000))).bind fun t141 => (if t141.toList = bt137.1.toList then ((impl_DurationRound.f (⟨#[50, 52, 48, 48, 104, 49, 48, 109, 53, 115]⟩ : ByteArray)).bind fun t142 => (some (t142.toList == ([51, 109, 111] : List UInt8)))) else (some false))) else (some false)))) else (some true)))
def laws_FnDurationRound.f (k : Nat) (a0 : Int) : Option (Bool) := if a0 < 0 then (laws_FnDurationRound.j0 k a0 true) else (laws_FnDurationRound.j0 k a0 (decide (a0 > 9000000000)))
theorem laws_FnDurationRound.mono_l : ∀ k, (∀ y0 y1, LeO (laws_FnDurationRound.j0 k y0 y1) (laws_FnDurationRound.j0 (k + 1) y0 y1))
  | 0 => fun _ _ r h => by simp [laws_FnDurationRound.j0] at h
  | k + 1 => by
    have ih0 := laws_FnDurationRound.mono_l k
    · intro y0 y1
      unfold laws_FnDurationRound.j0
      repeat' first
      | (with_reducible exact ih0 _ _)
      | (with_reducible exact spec_Significant.mono _ _)
      | (with_reducible exact LeO.refl _)
      | (with_reducible exact LeO.none _)
      | (with_reducible refine LeO.ite ?_ ?_)
      | (with_reducible refine LeO.bind ?_ (fun _ => ?_))
      | exact ih0 _ _
      | exact spec_Significant.mono _ _
      | exact LeO.none _
      | refine LeO.ite ?_ ?_
      | refine LeO.bind ?_ (fun _ => ?_)
theorem laws_FnDurationRound.mono : ∀ a0 k, LeO (laws_FnDurationRound.f k a0) (laws_FnDurationRound.f (k + 1) a0) := by
  intro a0 k
  have ih0 := laws_FnDurationRound.mono_l k
  unfold laws_FnDurationRound.f
  repeat' first
      | (with_reducible exact ih0 _ _)
      | (with_reducible exact spec_Significant.mono _ _)
      | (with_reducible exact LeO.refl _)
      | (with_reducible exact LeO.none _)
      | (with_reducible refine LeO.ite ?_ ?_)
      | (with_reducible refine LeO.bind ?_ (fun _ => ?_))
      | exact ih0 _ _
      | exact spec_Significant.mono _ _
      | exact LeO.none _
      | refine LeO.ite ?_ ?_
      | refine LeO.bind ?_ (fun _ => ?_)
set_option maxHeartbeats 8000000 in
set_option maxRecDepth 100000 in
theorem laws_FnDurationRound.calls (k : Nat) (a0 : Int) (r : Bool) (w : World) (T : Giv.DurT w) (h : laws_FnDurationRound.f k a0 = some r) :
    Calls Tryd.prog 4 #[.int .i64 a0] w fun e w' => e = .returned (.bool r) ∧ Below w.heap.size w w' := by
  have TT_ := Aside0.mk T
  clear T
  have HB := Aside0.mk (Below.refl w.heap.size w)
  have H : (if a0 < 0 then (laws_FnDurationRound.j0 k a0 true) else (laws_FnDurationRound.j0 k a0 (decide (a0 > 9000000000)))) = some r := h
  clear h
  have HC2 := Aside0.mk H
  clear H
  go_enter Tryd.func4, Tryd.ntmps4
  go_upto_region 1 with (fail)
  go_cut [10] (fun v10 wc => ∃ (kq : Nat) (x10_1 : Bool), v10 = .bool x10_1 ∧ Aside0 (laws_FnDurationRound.j0 kq a0 x10_1 = some r) ∧ Aside0 (kq ≤ k) ∧ Aside0 (Below w.heap.size w wc))
  case first =>
    have H := HC2.out
    clear HC2
    by_cases c3 : a0 < 0
    · rw [if_pos c3] at H
      have c3b0 : decide (a0 < 0) = true := decide_eq_true c3
      clear c3
      (first | rw [c3b0] | (simp only [i64_w, i32_w]; rw [c3b0]) | skip)
      have H' := Aside0.mk H
      clear H
      go_wp2
      go_meet
      case rel => exact ⟨_, (true), (by first | rfl | (simp; done) | (simp [*]; done)), H', ⟨by first | omega | exact Nat.le_refl _⟩, ⟨by repeat (first | (with_reducible first | exact HB.out | apply below_alloc | apply pw_below_drewN | apply below_drew1) | exact HB.out)⟩⟩
    · rw [if_neg c3] at H
      have c3b0 : decide (a0 < 0) = false := decide_eq_false c3
      clear c3
      (first | rw [c3b0] | (simp only [i64_w, i32_w]; rw [c3b0]) | skip)
      have H' := Aside0.mk H
      clear H
      go_wp2
      go_meet
      case rel => exact ⟨_, (decide (a0 > 9000000000)), (by first | rfl | (simp; done) | (simp [*]; done)), H', ⟨by first | omega | exact Nat.le_refl _⟩, ⟨by repeat (first | (with_reducible first | exact HB.out | apply below_alloc | apply pw_below_drewN | apply below_drew1) | exact HB.out)⟩⟩
  case rest =>
    clear HC2
    try clear p2
    try clear c3
    try clear c3b0
    obtain ⟨kq, x10_1, rfl, HA, HJ1, HB⟩ := hcut
    cases kq with
    | zero => exact absurd HA.out (by simp [laws_FnDurationRound.j0])
    | succ kj1 =>
      have H := HA.out
      clear HA
      simp only [laws_FnDurationRound.j0] at H
      by_cases c4 : x10_1 = true
      · subst c4
        have H1 : (some true) = some r := by rw [if_pos rfl] at H; exact H
        clear H
        have H := H1
        clear H1
        obtain rfl := Option.some.inj H
        go_wp2
        go_ret
        exact ⟨by first | rfl | (simp [errW_none, errW_some] <;> rfl) | (simp [*, errW_none, errW_some] <;> rfl), by repeat (first | (with_reducible first | exact HB.out | apply below_alloc | apply pw_below_drewN | apply below_drew1) | exact HB.out)⟩
      · replace c4 := Bool.eq_false_iff.mpr c4
        subst c4
        have H1 : ((spec_Significant.f kj1 a0).bind fun bt137 => (if bt137.2 = true then ((spec_Seconds.f a0).bind fun t139 => ((impl_DurationRound.f t139).bind fun t140 => (if t140.toList = bt137.1.toList then ((impl_DurationRoundNano.f (wrap64 (a0 * 1000000000))).bind fun t141 => (if t141.toList = bt137.1.toList then ((impl_DurationRound.f (⟨#[50, 52, 48, 48, 104, 49, 48, 109, 53, 115]⟩ : ByteArray)).bind fun t142 => (some (t142.toList == ([51, 109, 111] : List UInt8)))) else (some false))) else (some false)))) else (some true))) = some r := by rw [if_neg (show ¬ (false = true) by decide)] at H; exact H
        clear H
        have H := H1
        clear H1
        replace H := Option.bind_eq_some_iff.mp H
        obtain ⟨⟨t137, t138⟩, A50, H⟩ := H
        replace H : (if t138 = true then ((spec_Seconds.f a0).bind fun t139 => ((impl_DurationRound.f t139).bind fun t140 => (if t140.toList = t137.toList then ((impl_DurationRoundNano.f (wrap64 (a0 * 1000000000))).bind fun t141 => (if t141.toList = t137.toList then ((impl_DurationRound.f (⟨#[50, 52, 48, 48, 104, 49, 48, 109, 53, 115]⟩ : ByteArray)).bind fun t142 => (some (t142.toList == ([51, 109, 111] : List UInt8)))) else (some false))) else (some false)))) else (some true)) = some r := H
        have A5 := Aside0.mk A50
        clear A50
        by_cases c6 : t138 = true
        · subst c6
          have H1 : ((spec_Seconds.f a0).bind fun t139 => ((impl_DurationRound.f t139).bind fun t140 => (if t140.toList = t137.toList then ((impl_DurationRoundNano.f (wrap64 (a0 * 1000000000))).bind fun t141 => (if t141.toList = t137.toList then ((impl_DurationRound.f (⟨#[50, 52, 48, 48, 104, 49, 48, 109, 53, 115]⟩ : ByteArray)).bind fun t142 => (some (t142.toList == ([51, 109, 111] : List UInt8)))) else (some false))) else (some false)))) = some r := by rw [if_pos rfl] at H; exact H
          clear H
          have H := H1
          clear H1
          replace H := Option.bind_eq_some_iff.mp H
          obtain ⟨t139, A70, H⟩ := H
          replace H : ((impl_DurationRound.f t139).bind fun t140 => (if t140.toList = t137.toList then ((impl_DurationRoundNano.f (wrap64 (a0 * 1000000000))).bind fun t141 => (if t141.toList = t137.toList then ((impl_DurationRound.f (⟨#[50, 52, 48, 48, 104, 49, 48, 109, 53, 115]⟩ : ByteArray)).bind fun t142 => (some (t142.toList == ([51, 109, 111] : List UInt8)))) else (some false))) else (some false))) = some r := H
          have A7 := Aside0.mk A70
          clear A70
          replace H := Option.bind_eq_some_iff.mp H
          obtain ⟨t140, A80, H⟩ := H
          replace H : (if t140.toList = t137.toList then ((impl_DurationRoundNano.f (wrap64 (a0 * 1000000000))).bind fun t141 => (if t141.toList = t137.toList then ((impl_DurationRound.f (⟨#[50, 52, 48, 48, 104, 49, 48, 109, 53, 115]⟩ : ByteArray)).bind fun t142 => (some (t142.toList == ([51, 109, 111] : List UInt8)))) else (some false))) else (some false)) = some r := H
          have A8 := Aside0.mk A80
          clear A80
          by_cases c9 : t140.toList = t137.toList
          · rw [if_pos c9] at H
            have c9b0 : (t140.toList == t137.toList) = true := beq_iff_eq.mpr c9
            have c9b1 : (t140.toList != t137.toList) = false := bne_eq_false_iff_eq.mpr c9
            clear c9
            replace H := Option.bind_eq_some_iff.mp H
            obtain ⟨t141, A100, H⟩ := H
            replace H : (if t141.toList = t137.toList then ((impl_DurationRound.f (⟨#[50, 52, 48, 48, 104, 49, 48, 109, 53, 115]⟩ : ByteArray)).bind fun t142 => (some (t142.toList == ([51, 109, 111] : List UInt8)))) else (some false)) = some r := H
            have A10 := Aside0.mk A100
            clear A100
            by_cases c11 : t141.toList = t137.toList
            · rw [if_pos c11] at H
              have c11b0 : (t141.toList == t137.toList) = true := beq_iff_eq.mpr c11
              have c11b1 : (t141.toList != t137.toList) = false := bne_eq_false_iff_eq.mpr c11
              clear c11
              replace H := Option.bind_eq_some_iff.mp H
              obtain ⟨t142, A120, H⟩ := H
              replace H : (some (t142.toList == ([51, 109, 111] : List UInt8))) = some r := H
              have A12 := Aside0.mk A120
              clear A120
              obtain rfl := Option.some.inj H
              go_wp2_with (first | ((with_reducible refine gate_callee (f := 9) rfl ?_); refine goesL_ (some 13) rfl rfl Tryd.func9 (by kernel_rfl) rfl #[.int .i64 a0] rfl (by (try simp only [List.map_toArray, List.map_cons, List.map_nil]); first | done | rfl | (simp only [List.length_drop, List.length_take]; rfl)) ?_; (with_reducible refine (spec_Significant.calls kj1 a0 t137 true _ (by first | exact TT_.out | exact TT_.out.below (by repeat (first | (with_reducible first | exact HB.out | apply below_alloc | apply pw_below_drewN | apply below_drew1) | exact HB.out))) A5.out).mono ?_); rintro e w13 ⟨rfl, hb⟩; refine ⟨_, rfl, ?_⟩; have n0_ := Aside0.mk (below_step (by repeat (first | (with_reducible first | exact HB.out | apply below_alloc | apply pw_below_drewN | apply below_drew1) | exact HB.out)) hb); clear HB; have HB := n0_; clear n0_; (try clear hb); (try clear hb2); (try clear hk); (try clear hi)) | ((with_reducible refine gate_callee (f := 11) rfl ?_); refine goesL_ (some 19) rfl rfl Tryd.func11 (by kernel_rfl) rfl #[.int .i64 a0] rfl (by (try simp only [List.map_toArray, List.map_cons, List.map_nil]); first | done | rfl | (simp only [List.length_drop, List.length_take]; rfl)) ?_; (with_reducible refine (spec_Seconds.calls a0 t139 _ (by first | exact TT_.out | exact TT_.out.below (by repeat (first | (with_reducible first | exact HB.out | apply below_alloc | apply pw_below_drewN | apply below_drew1) | exact HB.out))) A7.out).mono ?_); rintro e w14 ⟨rfl, hb⟩; refine ⟨_, rfl, ?_⟩; have n0_ := Aside0.mk (below_step (by repeat (first | (with_reducible first | exact HB.out | apply below_alloc | apply pw_below_drewN | apply below_drew1) | exact HB.out)) hb); clear HB; have HB := n0_; clear n0_; (try clear hb); (try clear hb2); (try clear hk); (try clear hi)) | ((with_reducible refine gate_callee (f := 10) rfl ?_); refine goesL_ (some 20) rfl rfl Tryd.func10 (by kernel_rfl) rfl #[.string t139] rfl (by (try simp only [List.map_toArray, List.map_cons, List.map_nil]); first | done | rfl | (simp only [List.length_drop, List.length_take]; rfl)) ?_; (with_reducible refine (impl_DurationRound.calls t139 t140 _ (by first | exact TT_.out | exact TT_.out.below (by repeat (first | (with_reducible first | exact HB.out | apply below_alloc | apply pw_below_drewN | apply below_drew1) | exact HB.out))) A8.out).mono ?_); rintro e w15 ⟨rfl, hb⟩; refine ⟨_, rfl, ?_⟩; have n0_ := Aside0.mk (below_step (by repeat (first | (with_reducible first | exact HB.out | apply below_alloc | apply pw_below_drewN | apply below_drew1) | exact HB.out)) hb); clear HB; have HB := n0_; clear n0_; (try clear hb); (try clear hb2); (try clear hk); (try clear hi)) | (go_at_call 12; (with_reducible refine (impl_DurationRoundNano.calls (wrap64 (a0 * 1000000000)) t141 _ (by first | exact TT_.out | exact TT_.out.below (by repeat (first | (with_reducible first | exact HB.out | apply below_alloc | apply pw_below_drewN | apply below_drew1) | exact HB.out))) A10.out).mono ?_); rintro e w16 ⟨rfl, hb⟩; have n0_ := Aside0.mk (below_step (by repeat (first | (with_reducible first | exact HB.out | apply below_alloc | apply pw_below_drewN | apply below_drew1) | exact HB.out)) hb); clear HB; have HB := n0_; clear n0_; (try clear hb); (try clear hb2); (try clear hk); (try clear hi)) | (go_at_call 10; (with_reducible refine (impl_DurationRound.calls (⟨#[50, 52, 48, 48, 104, 49, 48, 109, 53, 115]⟩ : ByteArray) t142 _ (by first | exact TT_.out | exact TT_.out.below (by repeat (first | (with_reducible first | exact HB.out | apply below_alloc | apply pw_below_drewN | apply below_drew1) | exact HB.out))) A12.out).mono ?_); rintro e w17 ⟨rfl, hb⟩; have n0_ := Aside0.mk (below_step (by repeat (first | (with_reducible first | exact HB.out | apply below_alloc | apply pw_below_drewN | apply below_drew1) | exact HB.out)) hb); clear HB; have HB := n0_; clear n0_; (try clear hb); (try clear hb2); (try clear hk); (try clear hi)))
              go_ret
              exact ⟨by first | rfl | (simp [errW_none, errW_some] <;> rfl) | (simp [*, errW_none, errW_some] <;> rfl), by repeat (first | (with_reducible first | exact HB.out | apply below_alloc | apply pw_below_drewN | apply below_drew1) | exact HB.out)⟩
            · rw [if_neg c11] at H
              have c11b0 : (t141.toList == t137.toList) = false := beq_eq_false_iff_ne.mpr c11
              have c11b1 : (t141.toList != t137.toList) = true := bne_iff_ne.mpr c11
              obtain rfl := Option.some.inj H
              go_wp2_with (first | ((with_reducible refine gate_callee (f := 9) rfl ?_); refine goesL_ (some 13) rfl rfl Tryd.func9 (by kernel_rfl) rfl #[.int .i64 a0] rfl (by (try simp only [List.map_toArray, List.map_cons, List.map_nil]); first | done | rfl | (simp only [List.length_drop, List.length_take]; rfl)) ?_; (with_reducible refine (spec_Significant.calls kj1 a0 t137 true _ (by first | exact TT_.out | exact TT_.out.below (by repeat (first | (with_reducible first | exact HB.out | apply below_alloc | apply pw_below_drewN | apply below_drew1) | exact HB.out))) A5.out).mono ?_); rintro e w18 ⟨rfl, hb⟩; refine ⟨_, rfl, ?_⟩; have n0_ := Aside0.mk (below_step (by repeat (first | (with_reducible first | exact HB.out | apply below_alloc | apply pw_below_drewN | apply below_drew1) | exact HB.out)) hb); clear HB; have HB := n0_; clear n0_; (try clear hb); (try clear hb2); (try clear hk); (try clear hi)) | ((with_reducible refine gate_callee (f := 11) rfl ?_); refine goesL_ (some 19) rfl rfl Tryd.func11 (by kernel_rfl) rfl #[.int .i64 a0] rfl (by (try simp only [List.map_toArray, List.map_cons, List.map_nil]); first | done | rfl | (simp only [List.length_drop, List.length_take]; rfl)) ?_; (with_reducible refine (spec_Seconds.calls a0 t139 _ (by first | exact TT_.out | exact TT_.out.below (by repeat (first | (with_reducible first | exact HB.out | apply below_alloc | apply pw_below_drewN | apply below_drew1) | exact HB.out))) A7.out).mono ?_); rintro e w19 ⟨rfl, hb⟩; refine ⟨_, rfl, ?_⟩; have n0_ := Aside0.mk (below_step (by repeat (first | (with_reducible first | exact HB.out | apply below_alloc | apply pw_below_drewN | apply below_drew1) | exact HB.out)) hb); clear HB; have HB := n0_; clear n0_; (try clear hb); (try clear hb2); (try clear hk); (try clear hi)) | ((with_reducible refine gate_callee (f := 10) rfl ?_); refine goesL_ (some 20) rfl rfl Tryd.func10 (by kernel_rfl) rfl #[.string t139] rfl (by (try simp only [List.map_toArray, List.map_cons, List.map_nil]); first | done | rfl | (simp only [List.length_drop, List.length_take]; rfl)) ?_; (with_reducible refine (impl_DurationRound.calls t139 t140 _ (by first | exact TT_.out | exact TT_.out.below (by repeat (first | (with_reducible first | exact HB.out | apply below_alloc | apply pw_below_drewN | apply below_drew1) | exact HB.out))) A8.out).mono ?_); rintro e w20 ⟨rfl, hb⟩; refine ⟨_, rfl, ?_⟩; have n0_ := Aside0.mk (below_step (by repeat (first | (with_reducible first | exact HB.out | apply below_alloc | apply pw_below_drewN | apply below_drew1) | exact HB.out)) hb); clear HB; have HB := n0_; clear n0_; (try clear hb); (try clear hb2); (try clear hk); (try clear hi)) | (go_at_call 12; (with_reducible refine (impl_DurationRoundNano.calls (wrap64 (a0 * 1000000000)) t141 _ (by first | exact TT_.out | exact TT_.out.below (by repeat (first | (with_reducible first | exact HB.out | apply below_alloc | apply pw_below_drewN | apply below_drew1) | exact HB.out))) A10.out).mono ?_); rintro e w21 ⟨rfl, hb⟩; have n0_ := Aside0.mk (below_step (by repeat (first | (with_reducible first | exact HB.out | apply below_alloc | apply pw_below_drewN | apply below_drew1) | exact HB.out)) hb); clear HB; have HB := n0_; clear n0_; (try clear hb); (try clear hb2); (try clear hk); (try clear hi)))
              go_ret
              exact ⟨by first | rfl | (simp [errW_none, errW_some] <;> rfl) | (simp [*, errW_none, errW_some] <;> rfl), by repeat (first | (with_reducible first | exact HB.out | apply below_alloc | apply pw_below_drewN | apply below_drew1) | exact HB.out)⟩
          · rw [if_neg c9] at H
            have c9b0 : (t140.toList == t137.toList) = false := beq_eq_false_iff_ne.mpr c9
            have c9b1 : (t140.toList != t137.toList) = true := bne_iff_ne.mpr c9
            obtain rfl := Option.some.inj H
            go_wp2_with (first | ((with_reducible refine gate_callee (f := 9) rfl ?_); refine goesL_ (some 13) rfl rfl Tryd.func9 (by kernel_rfl) rfl #[.int .i64 a0] rfl (by (try simp only [List.map_toArray, List.map_cons, List.map_nil]); first | done | rfl | (simp only [List.length_drop, List.length_take]; rfl)) ?_; (with_reducible refine (spec_Significant.calls kj1 a0 t137 true _ (by first | exact TT_.out | exact TT_.out.below (by repeat (first | (with_reducible first | exact HB.out | apply below_alloc | apply pw_below_drewN | apply below_drew1) | exact HB.out))) A5.out).mono ?_); rintro e w22 ⟨rfl, hb⟩; refine ⟨_, rfl, ?_⟩; have n0_ := Aside0.mk (below_step (by repeat (first | (with_reducible first | exact HB.out | apply below_alloc | apply pw_below_drewN | apply below_drew1) | exact HB.out)) hb); clear HB; have HB := n0_; clear n0_; (try clear hb); (try clear hb2); (try clear hk); (try clear hi)) | ((with_reducible refine gate_callee (f := 11) rfl ?_); refine goesL_ (some 19) rfl rfl Tryd.func11 (by kernel_rfl) rfl #[.int .i64 a0] rfl (by (try simp only [List.map_toArray, List.map_cons, List.map_nil]); first | done | rfl | (simp only [List.length_drop, List.length_take]; rfl)) ?_; (with_reducible refine (spec_Seconds.calls a0 t139 _ (by first | exact TT_.out | exact TT_.out.below (by repeat (first | (with_reducible first | exact HB.out | apply below_alloc | apply pw_below_drewN | apply below_drew1) | exact HB.out))) A7.out).mono ?_); rintro e w23 ⟨rfl, hb⟩; refine ⟨_, rfl, ?_⟩; have n0_ := Aside0.mk (below_step (by repeat (first | (with_reducible first | exact HB.out | apply below_alloc | apply pw_below_drewN | apply below_drew1) | exact HB.out)) hb); clear HB; have HB := n0_; clear n0_; (try clear hb); (try clear hb2); (try clear hk); (try clear hi)) | ((with_reducible refine gate_callee (f := 10) rfl ?_); refine goesL_ (some 20) rfl rfl Tryd.func10 (by kernel_rfl) rfl #[.string t139] rfl (by (try simp only [List.map_toArray, List.map_cons, List.map_nil]); first | done | rfl | (simp only [List.length_drop, List.length_take]; rfl)) ?_; (with_reducible refine (impl_DurationRound.calls t139 t140 _ (by first | exact TT_.out | exact TT_.out.below (by repeat (first | (with_reducible first | exact HB.out | apply below_alloc | apply pw_below_drewN | apply below_drew1) | exact HB.out))) A8.out).mono ?_); rintro e w24 ⟨rfl, hb⟩; refine ⟨_, rfl, ?_⟩; have n0_ := Aside0.mk (below_step (by repeat (first | (with_reducible first | exact HB.out | apply below_alloc | apply pw_below_drewN | apply below_drew1) | exact HB.out)) hb); clear HB; have HB := n0_; clear n0_; (try clear hb); (try clear hb2); (try clear hk); (try clear hi)))
            go_ret
            exact ⟨by first | rfl | (simp [errW_none, errW_some] <;> rfl) | (simp [*, errW_none, errW_some] <;> rfl), by repeat (first | (with_reducible first | exact HB.out | apply below_alloc | apply pw_below_drewN | apply below_drew1) | exact HB.out)⟩
        · replace c6 := Bool.eq_false_iff.mpr c6
          subst c6
          have H1 : (some true) = some r := by rw [if_neg (show ¬ (false = true) by decide)] at H; exact H
          clear H
          have H := H1
          clear H1
          obtain rfl := Option.some.inj H
          go_wp2_with (first | ((with_reducible refine gate_callee (f := 9) rfl ?_); refine goesL_ (some 13) rfl rfl Tryd.func9 (by kernel_rfl) rfl #[.int .i64 a0] rfl (by (try simp only [List.map_toArray, List.map_cons, List.map_nil]); first | done | rfl | (simp only [List.length_drop, List.length_take]; rfl)) ?_; (with_reducible refine (spec_Significant.calls kj1 a0 t137 false _ (by first | exact TT_.out | exact TT_.out.below (by repeat (first | (with_reducible first | exact HB.out | apply below_alloc | apply pw_below_drewN | apply below_drew1) | exact HB.out))) A5.out).mono ?_); rintro e w25 ⟨rfl, hb⟩; refine ⟨_, rfl, ?_⟩; have n0_ := Aside0.mk (below_step (by repeat (first | (with_reducible first | exact HB.out | apply below_alloc | apply pw_below_drewN | apply below_drew1) | exact HB.out)) hb); clear HB; have HB := n0_; clear n0_; (try clear hb); (try clear hb2); (try clear hk); (try clear hi)))
          go_ret
          exact ⟨by first | rfl | (simp [errW_none, errW_some] <;> rfl) | (simp [*, errW_none, errW_some] <;> rfl), by repeat (first | (with_reducible first | exact HB.out | apply below_alloc | apply pw_below_drewN | apply below_drew1) | exact HB.out)⟩

/-- THE ONE PURE STATEMENT of laws_FnDurationRound: yours. -/
def laws_FnDurationRound.Pure : Prop := ∀ (a0 : Int), (Lit.int .i64 a0).wf = true → ∃ k, laws_FnDurationRound.f k a0 = some true
theorem laws_FnDurationRound.walk (P : laws_FnDurationRound.Pure) (a0 : Int) (w : World) (T : Giv.DurT w) (w0 : (Lit.int .i64 a0).wf = true) :
    Calls Tryd.prog 4 #[.int .i64 a0] w fun e w' => e = .returned (.bool true) ∧ Below w.heap.size w w' := by
  have TT_ := Aside0.mk T
  clear T
  obtain ⟨k, h⟩ := P a0 w0
  refine (laws_FnDurationRound.calls k a0 true w TT_.out h).mono ?_
  rintro e w' ⟨rfl, hd⟩
  exact ⟨rfl, hd⟩


end Go.Proofs.YtjhpjciemfeafaaDoor.PFnDurationRound
