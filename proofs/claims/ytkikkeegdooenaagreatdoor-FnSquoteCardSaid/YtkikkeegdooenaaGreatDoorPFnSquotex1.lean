-- Written by gprint.py (a program of this session, over the kit's print) out of Lean's own print of the program.
import Derived.Test.YtkikkeegdooenaaGreatDoorPFnSquotex0
namespace Go.Proofs.YtkikkeegdooenaaGreatDoor.PFnSquote
open Go.Proofs.YtkikkeegdooenaaGreatDoor.Giv
open Go.RowKit Go.Proofs.YtkikkeegdooenaaGreatDoorW.PrintWords Go.Proofs.YtkikkeegdooenaaGreatDoorW.PrintLast Go.Proofs.YtkikkeegdooenaaGreatDoorW.PrintMore
attribute [local go_sem] max2_int min2_int max_two min_two max_three min_three max_four min_four   -- for this text's walks alone
set_option linter.unusedVariables false
set_option linter.unusedSimpArgs false

-- NOT PRINTED: function 89 (slices_partitionOrdered_string)

-- NOT PRINTED: function 62 (slices_pdqsortOrdered_string)

-- NOT PRINTED: function 53 (slices_Sort_string_string)

-- NOT PRINTED: function 44 (sort_Strings)

-- NOT PRINTED: function 45 (sprig_zzList)

-- NOT PRINTED: function 33 (sprig_zzText)

-- NOT PRINTED: function 27 (sprig_squote)

-- NOT PRINTED: function 21 (sprig_Squote)

-- NOT PRINTED: function 13 (impl_Squote)

/-! ### spec_whole: function 26 -/
def spec_whole.l0 : Nat → Int → ByteArray → Bool → Option (ByteArray)
  | 0, _, _, _ => none
  | k + 1, x0, x3, x4 => if x0 > 9 then ((some (([(wrap64 (48 + (mx (Int.tmod x0 10) (wrap64 (-(Int.tmod x0 10)))))) % 256] : List Int) : List Int)).bind fun y101 => (if (strOfNums y101).size + x3.size ≤ 9223372036854775807 then (spec_whole.l0 k (wrap64 (Int.tdiv x0 10)) ((strOfNums y101) ++ x3) x4) else (none))) else (if x0 < (-9) then ((some (([(wrap64 (48 + (mx (Int.tmod x0 10) (wrap64 (-(Int.tmod x0 10)))))) % 256] : List Int) : List Int)).bind fun y104 => (if (strOfNums y104).size + x3.size ≤ 9223372036854775807 then (spec_whole.l0 k (wrap64 (Int.tdiv x0 10)) ((strOfNums y104) ++ x3) x4) else (none))) else ((some (([(wrap64 (48 + (mx x0 (wrap64 (-x0))))) % 256] : List Int) : List Int)).bind fun y107 => (if (strOfNums y107).size + x3.size ≤ 9223372036854775807 then (if x4 = true then (if 1 + ((strOfNums y107) ++ x3).size ≤ 9223372036854775807 then (some ((⟨#[45]⟩ : ByteArray) ++ ((strOfNums y107) ++ x3))) else (none)) else (some ((strOfNums y107) ++ x3))) else (none))))
def spec_whole.f (k : Nat) (a0 : Int) : Option (ByteArray) := spec_whole.l0 k a0 (⟨#[]⟩ : ByteArray) (decide (a0 < 0))
theorem spec_whole.mono_l : ∀ k, (∀ y0 y1 y2, LeO (spec_whole.l0 k y0 y1 y2) (spec_whole.l0 (k + 1) y0 y1 y2))
  | 0 => fun _ _ _ r h => by simp [spec_whole.l0] at h
  | k + 1 => by
    have ih0 := spec_whole.mono_l k
    · intro y0 y1 y2
      unfold spec_whole.l0
      repeat' first
      | (with_reducible exact ih0 _ _ _)
      | (with_reducible exact LeO.refl _)
      | (with_reducible exact LeO.none _)
      | (with_reducible refine LeO.ite ?_ ?_)
      | (with_reducible refine LeO.bind ?_ (fun _ => ?_))
      | exact ih0 _ _ _
      | exact LeO.none _
      | refine LeO.ite ?_ ?_
      | refine LeO.bind ?_ (fun _ => ?_)
theorem spec_whole.mono : ∀ a0 k, LeO (spec_whole.f k a0) (spec_whole.f (k + 1) a0) := by
  intro a0 k
  have ih0 := spec_whole.mono_l k
  unfold spec_whole.f
  repeat' first
      | (with_reducible exact ih0 _ _ _)
      | (with_reducible exact LeO.refl _)
      | (with_reducible exact LeO.none _)
      | (with_reducible refine LeO.ite ?_ ?_)
      | (with_reducible refine LeO.bind ?_ (fun _ => ?_))
      | exact ih0 _ _ _
      | exact LeO.none _
      | refine LeO.ite ?_ ?_
      | refine LeO.bind ?_ (fun _ => ?_)
set_option maxHeartbeats 8000000 in
set_option maxRecDepth 100000 in
theorem spec_whole.calls (k : Nat) (a0 : Int) (r : ByteArray) (w : World) (h : spec_whole.f k a0 = some r) :
    Calls Tryz.prog 26 #[.int .i64 a0] w fun e w' => e = .returned (.string r) ∧ Below w.heap.size w w' := by
  have HB := Aside0.mk (Below.refl w.heap.size w)
  have H : (spec_whole.l0 k a0 (⟨#[]⟩ : ByteArray) (decide (a0 < 0))) = some r := h
  clear h
  have H' := Aside0.mk H
  clear H
  go_enter Tryz.func26, Tryz.ntmps26
  go_wp2
  go_loopg [0, 3] k (fun kq v0 v3 w' => ∃ (x0_1 : Int) (x3_1 : ByteArray), v0 = .int .i64 x0_1 ∧ v3 = .string x3_1 ∧ Aside0 (spec_whole.l0 kq x0_1 x3_1 (decide (a0 < 0)) = some r) ∧ Aside0 (kq ≤ k) ∧ Aside0 (Below w.heap.size w w'))
  case atStart => exact ⟨(a0), ((⟨#[]⟩ : ByteArray)), (by first | rfl | (simp; done) | (simp [*]; done)), (by first | rfl | (simp; done) | (simp [*]; done)), H', ⟨Nat.le_refl _⟩, ⟨by repeat (first | (with_reducible first | exact HB.out | apply below_alloc | apply pw_below_drewN | apply below_drew1) | exact HB.out)⟩⟩
  case round =>
    clear H'
    obtain ⟨x0_1, x3_1, rfl, rfl, HA, HK1, HB⟩ := hrel
    cases gk with
    | zero => exact absurd HA.out (by simp [spec_whole.l0])
    | succ k1 =>
      have H := HA.out
      clear HA
      simp only [spec_whole.l0] at H
      by_cases c2 : x0_1 > 9
      · rw [if_pos c2] at H
        have c2b0 : decide (9 < x0_1) = true := decide_eq_true c2
        clear c2
        obtain ⟨ji3, hji3⟩ : ∃ j_ : Int, (mx (Int.tmod x0_1 10) (wrap64 (-(Int.tmod x0_1 10)))) = j_ := ⟨_, rfl⟩
        replace H : ((some (([(wrap64 (48 + (ji3))) % 256] : List Int) : List Int)).bind fun y101 => (if (strOfNums y101).size + x3_1.size ≤ 9223372036854775807 then (spec_whole.l0 k1 (wrap64 (Int.tdiv x0_1 10)) ((strOfNums y101) ++ x3_1) (decide (a0 < 0))) else (none))) = some r := by first | (rw [hji3] at H; exact H) | (simp only [hji3] at H ⊢; exact H)
        have hji3_ : (if (Int.tmod x0_1 10) < (wrap64 (-(Int.tmod x0_1 10))) then (wrap64 (-(Int.tmod x0_1 10))) else (Int.tmod x0_1 10)) = ji3 := hji3
        obtain ⟨y101, hy101⟩ : ∃ y_ : List Int, y_ = (([(wrap64 (48 + (ji3))) % 256] : List Int)) := ⟨_, rfl⟩
        replace H : (if (strOfNums y101).size + x3_1.size ≤ 9223372036854775807 then (spec_whole.l0 k1 (wrap64 (Int.tdiv x0_1 10)) ((strOfNums y101) ++ x3_1) (decide (a0 < 0))) else (none)) = some r := by first | (rw [hy101]; with_reducible exact H) | (have H2_ := (Option.bind_some _ _).symm.trans H; rw [hy101]; with_reducible exact H2_) | (have H2_ := (Option.bind_some _ _).symm.trans H; with_reducible exact H2_) | with_reducible exact H | (rw [hy101]; exact H) | exact H
        have Ny101 := Aside0.mk hy101
        clear hy101
        by_cases c4 : (strOfNums y101).size + x3_1.size ≤ 9223372036854775807
        · rw [if_pos c4] at H
          have c4b0 := eq_true c4
          have c4b1 : decide ((strOfNums y101).size + x3_1.size ≤ 9223372036854775807) = true := decide_eq_true c4
          try have c4b2 : (9223372036854775807 < (strOfNums y101).size + x3_1.size) = False := eq_false (Nat.not_lt.2 c4)
          have H' := Aside0.mk H
          clear H
          go_wp2_with (first | ((with_reducible refine gate_dst (N := 22) rfl ?_); refine Kd.R_lit (Kd.int .u8) _ 5 ?hg (N := 22) ?hd (xs := ([(wrap64 (48 + (ji3))) % 256] : List Int)) (inner := [.int .u8 ((wrap64 (48 + (ji3))) % 256)]) (ok := fun _ => True) (okp := fun _ => True) ?hr ?hp (fun _ hk => hk) trivial (Below.refl _ _) (Nat.le_refl _) (by simp) ?_; (case hd => rfl); (case hg => rfl); (case hr => first | (go_simp; done) | (go_simp; rfl)); (case hp => exact (Reps.one (show Kd.M (Kd.int .u8) _ _ _ ((wrap64 (48 + (ji3))) % 256) [.int .u8 ((wrap64 (48 + (ji3))) % 256)] from rfl) (Reps.none _ _))); intro v102 w5 ho6 hb hg_ hnew_; clear hg_ hnew_; (first | rw [← Ny101.out] at ho6 | (simp only [Int.reduceToNat] at ho6; rw [← Ny101.out] at ho6)); have n0_ := Aside0.mk (Kd.R_lower ho6 (below_size (by repeat (first | (with_reducible first | exact HB.out | apply below_alloc | apply pw_below_drewN | apply below_drew1) | exact HB.out)))); have n1_ := Aside0.mk (below_step (by repeat (first | (with_reducible first | exact HB.out | apply below_alloc | apply pw_below_drewN | apply below_drew1) | exact HB.out)) hb); clear HB; have HO103 := n0_; have HB := n1_; clear n0_ n1_; clear hb ho6; have hcv7 := own_string (P := Tryz.prog) Tryz.underlying58 Tryz.underlying5 Tryz.underlying9 (Kd.own_of_R HO103.out)))
          go_roundg k1
          case measure => have := HK1.out; omega
          case rel => exact ⟨(wrap64 (Int.tdiv x0_1 10)), ((strOfNums y101) ++ x3_1), (by first | rfl | (simp; done) | (simp [*]; done)), (by first | rfl | (simp; done) | (simp [*]; done)), H', ⟨by have := HK1.out; omega⟩, ⟨by repeat (first | (with_reducible first | exact HB.out | apply below_alloc | apply pw_below_drewN | apply below_drew1) | exact HB.out)⟩⟩
        · rw [if_neg c4] at H
          exact absurd H (by simp)
      · rw [if_neg c2] at H
        have c2b0 : decide (9 < x0_1) = false := decide_eq_false c2
        clear c2
        by_cases c8 : x0_1 < (-9)
        · rw [if_pos c8] at H
          have c8b0 : decide (x0_1 < (-9)) = true := decide_eq_true c8
          clear c8
          obtain ⟨ji9, hji9⟩ : ∃ j_ : Int, (mx (Int.tmod x0_1 10) (wrap64 (-(Int.tmod x0_1 10)))) = j_ := ⟨_, rfl⟩
          replace H : ((some (([(wrap64 (48 + (ji9))) % 256] : List Int) : List Int)).bind fun y104 => (if (strOfNums y104).size + x3_1.size ≤ 9223372036854775807 then (spec_whole.l0 k1 (wrap64 (Int.tdiv x0_1 10)) ((strOfNums y104) ++ x3_1) (decide (a0 < 0))) else (none))) = some r := by first | (rw [hji9] at H; exact H) | (simp only [hji9] at H ⊢; exact H)
          have hji9_ : (if (Int.tmod x0_1 10) < (wrap64 (-(Int.tmod x0_1 10))) then (wrap64 (-(Int.tmod x0_1 10))) else (Int.tmod x0_1 10)) = ji9 := hji9
          obtain ⟨y104, hy104⟩ : ∃ y_ : List Int, y_ = (([(wrap64 (48 + (ji9))) % 256] : List Int)) := ⟨_, rfl⟩
          replace H : (if (strOfNums y104).size + x3_1.size ≤ 9223372036854775807 then (spec_whole.l0 k1 (wrap64 (Int.tdiv x0_1 10)) ((strOfNums y104) ++ x3_1) (decide (a0 < 0))) else (none)) = some r := by first | (rw [hy104]; with_reducible exact H) | (have H2_ := (Option.bind_some _ _).symm.trans H; rw [hy104]; with_reducible exact H2_) | (have H2_ := (Option.bind_some _ _).symm.trans H; with_reducible exact H2_) | with_reducible exact H | (rw [hy104]; exact H) | exact H
          have Ny104 := Aside0.mk hy104
          clear hy104
          by_cases c10 : (strOfNums y104).size + x3_1.size ≤ 9223372036854775807
          · rw [if_pos c10] at H
            have c10b0 := eq_true c10
            have c10b1 : decide ((strOfNums y104).size + x3_1.size ≤ 9223372036854775807) = true := decide_eq_true c10
            try have c10b2 : (9223372036854775807 < (strOfNums y104).size + x3_1.size) = False := eq_false (Nat.not_lt.2 c10)
            have H' := Aside0.mk H
            clear H
            go_wp2_with (first | ((with_reducible refine gate_dst (N := 22) rfl ?_); refine Kd.R_lit (Kd.int .u8) _ 5 ?hg (N := 22) ?hd (xs := ([(wrap64 (48 + (ji9))) % 256] : List Int)) (inner := [.int .u8 ((wrap64 (48 + (ji9))) % 256)]) (ok := fun _ => True) (okp := fun _ => True) ?hr ?hp (fun _ hk => hk) trivial (Below.refl _ _) (Nat.le_refl _) (by simp) ?_; (case hd => rfl); (case hg => rfl); (case hr => first | (go_simp; done) | (go_simp; rfl)); (case hp => exact (Reps.one (show Kd.M (Kd.int .u8) _ _ _ ((wrap64 (48 + (ji9))) % 256) [.int .u8 ((wrap64 (48 + (ji9))) % 256)] from rfl) (Reps.none _ _))); intro v105 w11 ho12 hb hg_ hnew_; clear hg_ hnew_; (first | rw [← Ny104.out] at ho12 | (simp only [Int.reduceToNat] at ho12; rw [← Ny104.out] at ho12)); have n0_ := Aside0.mk (Kd.R_lower ho12 (below_size (by repeat (first | (with_reducible first | exact HB.out | apply below_alloc | apply pw_below_drewN | apply below_drew1) | exact HB.out)))); have n1_ := Aside0.mk (below_step (by repeat (first | (with_reducible first | exact HB.out | apply below_alloc | apply pw_below_drewN | apply below_drew1) | exact HB.out)) hb); clear HB; have HO106 := n0_; have HB := n1_; clear n0_ n1_; clear hb ho12; have hcv13 := own_string (P := Tryz.prog) Tryz.underlying58 Tryz.underlying5 Tryz.underlying9 (Kd.own_of_R HO106.out)))
            go_roundg k1
            case measure => have := HK1.out; omega
            case rel => exact ⟨(wrap64 (Int.tdiv x0_1 10)), ((strOfNums y104) ++ x3_1), (by first | rfl | (simp; done) | (simp [*]; done)), (by first | rfl | (simp; done) | (simp [*]; done)), H', ⟨by have := HK1.out; omega⟩, ⟨by repeat (first | (with_reducible first | exact HB.out | apply below_alloc | apply pw_below_drewN | apply below_drew1) | exact HB.out)⟩⟩
          · rw [if_neg c10] at H
            exact absurd H (by simp)
        · rw [if_neg c8] at H
          have c8b0 : decide (x0_1 < (-9)) = false := decide_eq_false c8
          clear c8
          obtain ⟨ji14, hji14⟩ : ∃ j_ : Int, (mx x0_1 (wrap64 (-x0_1))) = j_ := ⟨_, rfl⟩
          replace H : ((some (([(wrap64 (48 + (ji14))) % 256] : List Int) : List Int)).bind fun y107 => (if (strOfNums y107).size + x3_1.size ≤ 9223372036854775807 then (if (decide (a0 < 0)) = true then (if 1 + ((strOfNums y107) ++ x3_1).size ≤ 9223372036854775807 then (some ((⟨#[45]⟩ : ByteArray) ++ ((strOfNums y107) ++ x3_1))) else (none)) else (some ((strOfNums y107) ++ x3_1))) else (none))) = some r := by first | (rw [hji14] at H; exact H) | (simp only [hji14] at H ⊢; exact H)
          have hji14_ : (if x0_1 < (wrap64 (-x0_1)) then (wrap64 (-x0_1)) else x0_1) = ji14 := hji14
          obtain ⟨y107, hy107⟩ : ∃ y_ : List Int, y_ = (([(wrap64 (48 + (ji14))) % 256] : List Int)) := ⟨_, rfl⟩
          replace H : (if (strOfNums y107).size + x3_1.size ≤ 9223372036854775807 then (if (decide (a0 < 0)) = true then (if 1 + ((strOfNums y107) ++ x3_1).size ≤ 9223372036854775807 then (some ((⟨#[45]⟩ : ByteArray) ++ ((strOfNums y107) ++ x3_1))) else (none)) else (some ((strOfNums y107) ++ x3_1))) else (none)) = some r := by first | (rw [hy107]; with_reducible exact H) | (have H2_ := (Option.bind_some _ _).symm.trans H; rw [hy107]; with_reducible exact H2_) | (have H2_ := (Option.bind_some _ _).symm.trans H; with_reducible exact H2_) | with_reducible exact H | (rw [hy107]; exact H) | exact H
          have Ny107 := Aside0.mk hy107
          clear hy107
          by_cases c15 : (strOfNums y107).size + x3_1.size ≤ 9223372036854775807
          · rw [if_pos c15] at H
            have c15b0 := eq_true c15
            have c15b1 : decide ((strOfNums y107).size + x3_1.size ≤ 9223372036854775807) = true := decide_eq_true c15
            try have c15b2 : (9223372036854775807 < (strOfNums y107).size + x3_1.size) = False := eq_false (Nat.not_lt.2 c15)
            by_cases c16 : (decide (a0 < 0)) = true
            · rw [if_pos c16] at H
              have c16b0 : (decide (a0 < 0)) = true := c16
              clear c16
              by_cases c17 : 1 + ((strOfNums y107) ++ x3_1).size ≤ 9223372036854775807
              · rw [if_pos c17] at H
                have c17b0 := eq_true c17
                have c17b1 : decide (1 + ((strOfNums y107) ++ x3_1).size ≤ 9223372036854775807) = true := decide_eq_true c17
                try have c17b2 : (9223372036854775807 < 1 + ((strOfNums y107) ++ x3_1).size) = False := eq_false (Nat.not_lt.2 c17)
                have c17b9 : (9223372036854775807 < 1 + ((strOfNums y107).size + x3_1.size)) = False := (show ((strOfNums y107) ++ x3_1).size = (strOfNums y107).size + x3_1.size from ByteArray.size_append) ▸ c17b2
                obtain rfl := Option.some.inj H
                go_wp2_with (first | ((with_reducible refine gate_dst (N := 34) rfl ?_); refine Kd.R_lit (Kd.int .u8) _ 5 ?hg (N := 34) ?hd (xs := ([(wrap64 (48 + (ji14))) % 256] : List Int)) (inner := [.int .u8 ((wrap64 (48 + (ji14))) % 256)]) (ok := fun _ => True) (okp := fun _ => True) ?hr ?hp (fun _ hk => hk) trivial (Below.refl _ _) (Nat.le_refl _) (by simp) ?_; (case hd => rfl); (case hg => rfl); (case hr => first | (go_simp; done) | (go_simp; rfl)); (case hp => exact (Reps.one (show Kd.M (Kd.int .u8) _ _ _ ((wrap64 (48 + (ji14))) % 256) [.int .u8 ((wrap64 (48 + (ji14))) % 256)] from rfl) (Reps.none _ _))); intro v108 w18 ho19 hb hg_ hnew_; clear hg_ hnew_; (first | rw [← Ny107.out] at ho19 | (simp only [Int.reduceToNat] at ho19; rw [← Ny107.out] at ho19)); have n0_ := Aside0.mk (Kd.R_lower ho19 (below_size (by repeat (first | (with_reducible first | exact HB.out | apply below_alloc | apply pw_below_drewN | apply below_drew1) | exact HB.out)))); have n1_ := Aside0.mk (below_step (by repeat (first | (with_reducible first | exact HB.out | apply below_alloc | apply pw_below_drewN | apply below_drew1) | exact HB.out)) hb); clear HB; have HO109 := n0_; have HB := n1_; clear n0_ n1_; clear hb ho19; have hcv20 := own_string (P := Tryz.prog) Tryz.underlying58 Tryz.underlying5 Tryz.underlying9 (Kd.own_of_R HO109.out)))
                go_ret
                exact ⟨by first | rfl | (simp [errW_none, errW_some] <;> rfl) | (simp only [← hji14]; first | rfl | (simp [errW_none, errW_some] <;> rfl)) | (simp [*, errW_none, errW_some] <;> rfl), by repeat (first | (with_reducible first | exact HB.out | apply below_alloc | apply pw_below_drewN | apply below_drew1) | exact HB.out)⟩
              · rw [if_neg c17] at H
                exact absurd H (by simp)
            · rw [if_neg c16] at H
              have c16b0 : (decide (a0 < 0)) = false := by simpa using c16
              clear c16
              obtain rfl := Option.some.inj H
              go_wp2_with (first | ((with_reducible refine gate_dst (N := 34) rfl ?_); refine Kd.R_lit (Kd.int .u8) _ 5 ?hg (N := 34) ?hd (xs := ([(wrap64 (48 + (ji14))) % 256] : List Int)) (inner := [.int .u8 ((wrap64 (48 + (ji14))) % 256)]) (ok := fun _ => True) (okp := fun _ => True) ?hr ?hp (fun _ hk => hk) trivial (Below.refl _ _) (Nat.le_refl _) (by simp) ?_; (case hd => rfl); (case hg => rfl); (case hr => first | (go_simp; done) | (go_simp; rfl)); (case hp => exact (Reps.one (show Kd.M (Kd.int .u8) _ _ _ ((wrap64 (48 + (ji14))) % 256) [.int .u8 ((wrap64 (48 + (ji14))) % 256)] from rfl) (Reps.none _ _))); intro v108 w21 ho22 hb hg_ hnew_; clear hg_ hnew_; (first | rw [← Ny107.out] at ho22 | (simp only [Int.reduceToNat] at ho22; rw [← Ny107.out] at ho22)); have n0_ := Aside0.mk (Kd.R_lower ho22 (below_size (by repeat (first | (with_reducible first | exact HB.out | apply below_alloc | apply pw_below_drewN | apply below_drew1) | exact HB.out)))); have n1_ := Aside0.mk (below_step (by repeat (first | (with_reducible first | exact HB.out | apply below_alloc | apply pw_below_drewN | apply below_drew1) | exact HB.out)) hb); clear HB; have HO109 := n0_; have HB := n1_; clear n0_ n1_; clear hb ho22; have hcv23 := own_string (P := Tryz.prog) Tryz.underlying58 Tryz.underlying5 Tryz.underlying9 (Kd.own_of_R HO109.out)))
              go_ret
              exact ⟨by first | rfl | (simp [errW_none, errW_some] <;> rfl) | (simp only [← hji14]; first | rfl | (simp [errW_none, errW_some] <;> rfl)) | (simp [*, errW_none, errW_some] <;> rfl), by repeat (first | (with_reducible first | exact HB.out | apply below_alloc | apply pw_below_drewN | apply below_drew1) | exact HB.out)⟩
          · rw [if_neg c15] at H
            exact absurd H (by simp)

-- NOT PRINTED: function 20 (spec_Shown)

-- NOT PRINTED: function 12 (spec_ShownAll)

-- NOT PRINTED: function 30 (impl_goDict)

-- NOT PRINTED: function 24 (impl_goOf)

-- NOT PRINTED: function 18 (impl_goList)

-- NOT PRINTED: function 54 (abi_NoEscape)

-- NOT PRINTED: function 47 (strings_Builder_copyCheck)

-- NOT PRINTED: function 55 (bytealg_MakeNoZero)

-- NOT PRINTED: function 48 (strings_Builder_grow)

-- NOT PRINTED: function 36 (strings_Builder_Grow)

-- NOT PRINTED: function 37 (strings_Builder_WriteString)

-- NOT PRINTED: function 38 (strings_Builder_String)

-- NOT PRINTED: function 31 (strings_Join)

/-! ### strconv_FormatBool_49: function 49 -/
def strconv_FormatBool_49.f (a0 : Bool) : Option (ByteArray) := if a0 = true then (some (⟨#[116, 114, 117, 101]⟩ : ByteArray)) else (some (⟨#[102, 97, 108, 115, 101]⟩ : ByteArray))
set_option maxHeartbeats 8000000 in
set_option maxRecDepth 100000 in
theorem strconv_FormatBool_49.calls (a0 : Bool) (r : ByteArray) (w : World) (h : strconv_FormatBool_49.f a0 = some r) :
    Calls Tryz.prog 49 #[.bool a0] w fun e w' => e = .returned (.string r) ∧ Drawn0 w w' := by
  have H : (if a0 = true then (some (⟨#[116, 114, 117, 101]⟩ : ByteArray)) else (some (⟨#[102, 97, 108, 115, 101]⟩ : ByteArray))) = some r := h
  clear h
  by_cases c2 : a0 = true
  · subst c2
    have H1 : (some (⟨#[116, 114, 117, 101]⟩ : ByteArray)) = some r := by rw [if_pos rfl] at H; exact H
    clear H
    have H := H1
    clear H1
    obtain rfl := Option.some.inj H
    go_enter Tryz.func49, Tryz.ntmps49
    go_wp2
    go_ret
    exact ⟨by first | rfl | (simp; done) | (simp [*]; done), by repeat (first | exact Drawn0.refl _ | apply Drawn0.step)⟩
  · replace c2 := Bool.eq_false_iff.mpr c2
    subst c2
    have H1 : (some (⟨#[102, 97, 108, 115, 101]⟩ : ByteArray)) = some r := by rw [if_neg (show ¬ (false = true) by decide)] at H; exact H
    clear H
    have H := H1
    clear H1
    obtain rfl := Option.some.inj H
    go_enter Tryz.func49, Tryz.ntmps49
    go_wp2
    go_ret
    exact ⟨by first | rfl | (simp; done) | (simp [*]; done), by repeat (first | exact Drawn0.refl _ | apply Drawn0.step)⟩

/-! ### strconv_FormatBool_40: function 40 -/
def strconv_FormatBool_40.f (a0 : Bool) : Option (ByteArray) := (strconv_FormatBool_49.f a0).bind fun t111 => (some t111)
set_option maxHeartbeats 8000000 in
set_option maxRecDepth 100000 in
theorem strconv_FormatBool_40.calls (a0 : Bool) (r : ByteArray) (w : World) (h : strconv_FormatBool_40.f a0 = some r) :
    Calls Tryz.prog 40 #[.bool a0] w fun e w' => e = .returned (.string r) ∧ Drawn0 w w' := by
  have H : ((strconv_FormatBool_49.f a0).bind fun t111 => (some t111)) = some r := h
  clear h
  replace H := Option.bind_eq_some_iff.mp H
  obtain ⟨t111, A20, H⟩ := H
  replace H : (some t111) = some r := H
  have A2 := Aside0.mk A20
  clear A20
  obtain rfl := Option.some.inj H
  go_enter Tryz.func40, Tryz.ntmps40
  go_wp2_with (first | ((with_reducible refine gate_callee (f := 49) rfl ?_); refine goesL_ (some 4) rfl rfl Tryz.func49 (by kernel_rfl) rfl #[.bool a0] rfl (by (try simp only [List.map_toArray, List.map_cons, List.map_nil]); first | done | rfl | (simp only [List.length_drop, List.length_take]; rfl)) ?_; (with_reducible refine (strconv_FormatBool_49.calls a0 t111 _ A2.out).mono ?_); rintro e w' ⟨rfl, ⟨nd, rfl⟩⟩; refine ⟨_, rfl, ?_⟩))
  go_ret
  exact ⟨by first | rfl | (simp; done) | (simp [*]; done), by repeat (first | exact Drawn0.refl _ | apply Drawn0.step)⟩

/-! ### spec_Joined: function 14 -/
def spec_Joined.l0 : Nat → ByteArray → List ByteArray → ByteArray → Int → Int → Option (ByteArray)
  | 0, _, _, _, _, _ => none
  | k + 1, x0, x1, x5, x8, x9 => if x9 < x8 then (if x9 > 0 then (if x5.size + x0.size ≤ 9223372036854775807 then (if 0 ≤ x9 then (if x9 < (x1.length : Int) then (if (x5 ++ x0).size + (rdOf ByteArray.empty x1 x9).size ≤ 9223372036854775807 then (spec_Joined.l0 k x0 x1 ((x5 ++ x0) ++ (rdOf ByteArray.empty x1 x9)) x8 (wrap64 (x9 + 1))) else (none)) else (none)) else (none)) else (none)) else (if 0 ≤ x9 then (if x9 < (x1.length : Int) then (if x5.size + (rdOf ByteArray.empty x1 x9).size ≤ 9223372036854775807 then (spec_Joined.l0 k x0 x1 (x5 ++ (rdOf ByteArray.empty x1 x9)) x8 (wrap64 (x9 + 1))) else (none)) else (none)) else (none))) else (some x5)
def spec_Joined.f (k : Nat) (a0 : ByteArray) (l1 : List ByteArray) : Option (ByteArray) := spec_Joined.l0 k a0 l1 (⟨#[]⟩ : ByteArray) (l1.length : Int) 0
theorem spec_Joined.mono_l : ∀ k, (∀ y0 y1 y2 y3 y4, LeO (spec_Joined.l0 k y0 y1 y2 y3 y4) (spec_Joined.l0 (k + 1) y0 y1 y2 y3 y4))
  | 0 => fun _ _ _ _ _ r h => by simp [spec_Joined.l0] at h
  | k + 1 => by
    have ih0 := spec_Joined.mono_l k
    · intro y0 y1 y2 y3 y4
      unfold spec_Joined.l0
      repeat' first
      | (with_reducible exact ih0 _ _ _ _ _)
      | (with_reducible exact LeO.refl _)
      | (with_reducible exact LeO.none _)
      | (with_reducible refine LeO.ite ?_ ?_)
      | (with_reducible refine LeO.bind ?_ (fun _ => ?_))
      | exact ih0 _ _ _ _ _
      | exact LeO.none _
      | refine LeO.ite ?_ ?_
      | refine LeO.bind ?_ (fun _ => ?_)
theorem spec_Joined.mono : ∀ a0 a1 k, LeO (spec_Joined.f k a0 a1) (spec_Joined.f (k + 1) a0 a1) := by
  intro a0 a1 k
  have ih0 := spec_Joined.mono_l k
  unfold spec_Joined.f
  repeat' first
      | (with_reducible exact ih0 _ _ _ _ _)
      | (with_reducible exact LeO.refl _)
      | (with_reducible exact LeO.none _)
      | (with_reducible refine LeO.ite ?_ ?_)
      | (with_reducible refine LeO.bind ?_ (fun _ => ?_))
      | exact ih0 _ _ _ _ _
      | exact LeO.none _
      | refine LeO.ite ?_ ?_
      | refine LeO.bind ?_ (fun _ => ?_)
set_option maxHeartbeats 8000000 in
set_option maxRecDepth 100000 in
theorem spec_Joined.calls (k : Nat) (a0 : ByteArray) (A1 : Option Addr) (c1 : Nat) (l1 : List ByteArray) (r : ByteArray) (w : World) (hr1 : Kd.C Kd.string w A1 l1.length l1) (hc1 : l1.length ≤ c1) (h : spec_Joined.f k a0 l1 = some r) :
    Calls Tryz.prog 14 #[.string a0, .slice A1 l1.length c1] w fun e w' => e = .returned (.string r) ∧ Drawn0 w w' := by
  have HR1 := Aside0.mk hr1
  have HC1 := Aside0.mk hc1
  clear hr1 hc1
  have H : (spec_Joined.l0 k a0 l1 (⟨#[]⟩ : ByteArray) (l1.length : Int) 0) = some r := h
  clear h
  have H' := Aside0.mk H
  clear H
  go_enter Tryz.func14, Tryz.ntmps14
  go_wp2
  go_loopg [5, 9] k (fun kq v5 v9 w' => ∃ (x5_1 : ByteArray) (x9_1 : Int), v5 = .string x5_1 ∧ v9 = .int .i64 x9_1 ∧ Aside0 (spec_Joined.l0 kq a0 l1 x5_1 (l1.length : Int) x9_1 = some r) ∧ Aside0 (kq ≤ k) ∧ Drawn0 w w')
  case atStart => exact ⟨((⟨#[]⟩ : ByteArray)), (0), (by first | rfl | (simp; done) | (simp [*]; done)), (by first | rfl | (simp; done) | (simp [*]; done)), H', ⟨Nat.le_refl _⟩, by repeat (first | exact Drawn0.refl _ | apply Drawn0.step)⟩
  case round =>
    clear H'
    try clear c1
    try clear p2
    obtain ⟨x5_1, x9_1, rfl, rfl, HA, HK1, ⟨m1, rfl⟩⟩ := hrel
    cases gk with
    | zero => exact absurd HA.out (by simp [spec_Joined.l0])
    | succ k1 =>
      have H := HA.out
      clear HA
      simp only [spec_Joined.l0] at H
      by_cases c3 : x9_1 < (l1.length : Int)
      · rw [if_pos c3] at H
        have c3b0 : decide (x9_1 < (l1.length : Int)) = true := decide_eq_true c3
        clear c3
        by_cases c4 : x9_1 > 0
        · rw [if_pos c4] at H
          have c4b0 : decide (0 < x9_1) = true := decide_eq_true c4
          clear c4
          by_cases c5 : x5_1.size + a0.size ≤ 9223372036854775807
          · rw [if_pos c5] at H
            have c5b0 := eq_true c5
            have c5b1 : decide (x5_1.size + a0.size ≤ 9223372036854775807) = true := decide_eq_true c5
            try have c5b2 : (9223372036854775807 < x5_1.size + a0.size) = False := eq_false (Nat.not_lt.2 c5)
            by_cases c6 : 0 ≤ x9_1
            · rw [if_pos c6] at H
              have c6b0 : decide (0 ≤ x9_1) = true := decide_eq_true c6
              clear c6
              by_cases c7 : x9_1 < (l1.length : Int)
              · rw [if_pos c7] at H
                have c7b0 : decide (x9_1 < (l1.length : Int)) = true := decide_eq_true c7
                clear c7
                by_cases c8 : (x5_1 ++ a0).size + (rdOf ByteArray.empty l1 x9_1).size ≤ 9223372036854775807
                · rw [if_pos c8] at H
                  have c8b0 := eq_true c8
                  have c8b1 : decide ((x5_1 ++ a0).size + (rdOf ByteArray.empty l1 x9_1).size ≤ 9223372036854775807) = true := decide_eq_true c8
                  try have c8b2 : (9223372036854775807 < (x5_1 ++ a0).size + (rdOf ByteArray.empty l1 x9_1).size) = False := eq_false (Nat.not_lt.2 c8)
                  have H' := Aside0.mk H
                  clear H
                  have p410 : 0 ≤ (x9_1 : Int) := of_decide_eq_true (by first | (with_reducible assumption) | assumption)
                  have q410 : x9_1 < (l1.length : Int) := of_decide_eq_true (by first | (with_reducible assumption) | assumption)
                  obtain ⟨ad410, e410, hx410_0⟩ := Kd.at_string HR1.out x9_1 p410 q410
                  cases e410
                  replace p410 := eq_true p410
                  replace q410 := eq_true q410
                  go_wp2
                  go_roundg k1
                  case measure => have := HK1.out; omega
                  case rel => exact ⟨((x5_1 ++ a0) ++ (rdOf ByteArray.empty l1 x9_1)), (wrap64 (x9_1 + 1)), (by first | rfl | (simp; done) | (simp [*]; done)), (by first | rfl | (simp; done) | (simp [*]; done)), H', ⟨by have := HK1.out; omega⟩, by repeat (first | exact Drawn0.refl _ | apply Drawn0.step)⟩
                · rw [if_neg c8] at H
                  exact absurd H (by simp)
              · rw [if_neg c7] at H
                exact absurd H (by simp)
            · rw [if_neg c6] at H
              exact absurd H (by simp)
          · rw [if_neg c5] at H
            exact absurd H (by simp)
        · rw [if_neg c4] at H
          have c4b0 : decide (0 < x9_1) = false := decide_eq_false c4
          clear c4
          by_cases c9 : 0 ≤ x9_1
          · rw [if_pos c9] at H
            have c9b0 : decide (0 ≤ x9_1) = true := decide_eq_true c9
            clear c9
            by_cases c10 : x9_1 < (l1.length : Int)
            · rw [if_pos c10] at H
              have c10b0 : decide (x9_1 < (l1.length : Int)) = true := decide_eq_true c10
              clear c10
              by_cases c11 : x5_1.size + (rdOf ByteArray.empty l1 x9_1).size ≤ 9223372036854775807
              · rw [if_pos c11] at H
                have c11b0 := eq_true c11
                have c11b1 : decide (x5_1.size + (rdOf ByteArray.empty l1 x9_1).size ≤ 9223372036854775807) = true := decide_eq_true c11
                try have c11b2 : (9223372036854775807 < x5_1.size + (rdOf ByteArray.empty l1 x9_1).size) = False := eq_false (Nat.not_lt.2 c11)
                have H' := Aside0.mk H
                clear H
                have p411 : 0 ≤ (x9_1 : Int) := of_decide_eq_true (by first | (with_reducible assumption) | assumption)
                have q411 : x9_1 < (l1.length : Int) := of_decide_eq_true (by first | (with_reducible assumption) | assumption)
                obtain ⟨ad411, e411, hx411_0⟩ := Kd.at_string HR1.out x9_1 p411 q411
                cases e411
                replace p411 := eq_true p411
                replace q411 := eq_true q411
                go_wp2
                go_roundg k1
                case measure => have := HK1.out; omega
                case rel => exact ⟨(x5_1 ++ (rdOf ByteArray.empty l1 x9_1)), (wrap64 (x9_1 + 1)), (by first | rfl | (simp; done) | (simp [*]; done)), (by first | rfl | (simp; done) | (simp [*]; done)), H', ⟨by have := HK1.out; omega⟩, by repeat (first | exact Drawn0.refl _ | apply Drawn0.step)⟩
              · rw [if_neg c11] at H
                exact absurd H (by simp)
            · rw [if_neg c10] at H
              exact absurd H (by simp)
          · rw [if_neg c9] at H
            exact absurd H (by simp)
      · rw [if_neg c3] at H
        have c3b0 : decide (x9_1 < (l1.length : Int)) = false := decide_eq_false c3
        clear c3
        obtain rfl := Option.some.inj H
        go_wp2
        go_ret
        exact ⟨by first | rfl | (simp; done) | (simp [*]; done), by repeat (first | exact Drawn0.refl _ | apply Drawn0.step)⟩

-- NOT PRINTED: function 4 (laws_FnSquote)


end Go.Proofs.YtkikkeegdooenaaGreatDoor.PFnSquote
