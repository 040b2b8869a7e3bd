/- Semantic versions: (*Version).Compare answers cver. Printed by gen_svcv.py. -/
import Derived.Test.YtmoilbhkjmhoaaaDoorSvCl
import Derived.Test.YtmoilbhkjmhoaaaDoorNear
namespace Go.Proofs.YtmoilbhkjmhoaaaDoor.Sv
open Go.RowKit Go.Proofs.YtmoilbhkjmhoaaaDoor.PFnSemverOrderThree Go.Proofs.YtmoilbhkjmhoaaaDoorW.PrintWords Go.Proofs.YtmoilbhkjmhoaaaDoor.Txt Go.Proofs.YtmoilbhkjmhoaaaDoor Go.Proofs.YtmoilbhkjmhoaaaDoor.Vals
set_option linter.unusedVariables false
set_option linter.unusedSimpArgs false
set_option maxRecDepth 20000

theorem seg_calls (a b : Nat) (W : World) : Calls Tryd.prog 34 #[.int .u64 (a : Int), .int .u64 (b : Int)] W fun e w' => e = .returned (.int .i64 (cseg a b)) ∧ Below W.heap.size W w' :=
  (semver_compareSegment.calls _ _ (cseg a b) W (by
    unfold semver_compareSegment.f cseg
    by_cases h1 : a < b
    · rw [if_pos (by omega), if_pos h1]
    · rw [if_neg (by omega), if_neg h1]
      by_cases h2 : b < a
      · rw [if_pos (by omega), if_pos h2]
      · rw [if_neg (by omega), if_neg h2])).mono fun e w' ⟨he, hB⟩ => ⟨he, hB.below⟩
/-- What Compare says: numbers first, then the names. -/
def cmpV (a m p a' m' p' : Nat) (pre pre' : ByteArray) (r : Int) : Int :=
  if cseg a a' ≠ 0 then cseg a a' else if cseg m m' ≠ 0 then cseg m m' else if cseg p p' ≠ 0 then cseg p p' else
  if pre.toList.isEmpty = true ∧ pre'.toList.isEmpty = true then 0 else if pre.toList.isEmpty = true then 1 else if pre'.toList.isEmpty = true then -1 else r

set_option maxHeartbeats 8000000 in
theorem compare_walk (b c : Nat) (a m p a' m' p' : Nat) (pre me og pre' me' og' : ByteArray) (w : World) (hv : VerIs w b a m p pre me og) (hw : VerIs w c a' m' p' pre' me' og') (r : Int)
    (U : pre.toList.isEmpty = false → pre'.toList.isEmpty = false → ∀ W, Below w.heap.size w W → Calls Tryd.prog 39 #[.string pre, .string pre'] W fun e w' => e = .returned (.int .i64 r) ∧ Below W.heap.size W w') :
    Calls Tryd.prog 25 #[.pointer (some ⟨b, 0, none⟩), .pointer (some ⟨c, 0, none⟩)] w fun e w' => e = .returned (.int .i64 (cmpV a m p a' m' p' pre pre' r)) ∧ Below w.heap.size w w' := by
  obtain ⟨R, hR⟩ : ∃ R, R = cmpV a m p a' m' p' pre pre' r := ⟨_, rfl⟩
  rw [← hR]
  unfold cmpV at hR
  have HR0 := Lib.hid hR
  have HU := Lib.hid U
  have HB0 := Lib.hid (Below.refl w.heap.size w)
  clear hR U
  go_enter Tryd.func25, Tryd.ntmps25
  have hb_ := blk_lt hv
  have hc_ := blk_lt hw
  have e0 : ∀ x : Near w.heap.size w, x.W.cell? ⟨b, 0, none⟩ = some (.int .u64 (a : Int)) := fun x => x.cell hb_ (by rw [blk_cell hv]; rfl)
  have f0 : ∀ x : Near w.heap.size w, x.W.cell? ⟨c, 0, none⟩ = some (.int .u64 (a' : Int)) := fun x => x.cell hc_ (by rw [blk_cell hw]; rfl)
  have e1 : ∀ x : Near w.heap.size w, x.W.cell? ⟨b, 1, none⟩ = some (.int .u64 (m : Int)) := fun x => x.cell hb_ (by rw [blk_cell hv]; rfl)
  have f1 : ∀ x : Near w.heap.size w, x.W.cell? ⟨c, 1, none⟩ = some (.int .u64 (m' : Int)) := fun x => x.cell hc_ (by rw [blk_cell hw]; rfl)
  have e2 : ∀ x : Near w.heap.size w, x.W.cell? ⟨b, 2, none⟩ = some (.int .u64 (p : Int)) := fun x => x.cell hb_ (by rw [blk_cell hv]; rfl)
  have f2 : ∀ x : Near w.heap.size w, x.W.cell? ⟨c, 2, none⟩ = some (.int .u64 (p' : Int)) := fun x => x.cell hc_ (by rw [blk_cell hw]; rfl)
  have e3 : ∀ x : Near w.heap.size w, x.W.cell? ⟨b, 3, none⟩ = some (.string pre) := fun x => x.cell hb_ (by rw [blk_cell hv]; rfl)
  have f3 : ∀ x : Near w.heap.size w, x.W.cell? ⟨c, 3, none⟩ = some (.string pre') := fun x => x.cell hc_ (by rw [blk_cell hw]; rfl)
  have e4 : ∀ x : Near w.heap.size w, x.W.cell? ⟨b, 4, none⟩ = some (.string me) := fun x => x.cell hb_ (by rw [blk_cell hv]; rfl)
  have f4 : ∀ x : Near w.heap.size w, x.W.cell? ⟨c, 4, none⟩ = some (.string me') := fun x => x.cell hc_ (by rw [blk_cell hw]; rfl)
  have e5 : ∀ x : Near w.heap.size w, x.W.cell? ⟨b, 5, none⟩ = some (.string og) := fun x => x.cell hb_ (by rw [blk_cell hv]; rfl)
  have f5 : ∀ x : Near w.heap.size w, x.W.cell? ⟨c, 5, none⟩ = some (.string og') := fun x => x.cell hc_ (by rw [blk_cell hw]; rfl)
  have HA : Hid (∀ x : Near w.heap.size w, Calls Tryd.prog 35 #[.agg #[.int .u64 (a : Int), .int .u64 (m : Int), .int .u64 (p : Int), .string pre, .string me, .string og]] x.W fun e w' => e = .returned (.int .u64 (a : Int)) ∧ ∃ y : Near w.heap.size w, w' = y.W) := Lib.hid fun x =>
    (semver_Version_Major.calls _ _ _ _ _ _ _ x.W rfl).mono fun e w' ⟨he, hB⟩ => ⟨he, x.of hB (Nat.le_refl _)⟩
  have HA' : Hid (∀ x : Near w.heap.size w, Calls Tryd.prog 35 #[.agg #[.int .u64 (a' : Int), .int .u64 (m' : Int), .int .u64 (p' : Int), .string pre', .string me', .string og']] x.W fun e w' => e = .returned (.int .u64 (a' : Int)) ∧ ∃ y : Near w.heap.size w, w' = y.W) := Lib.hid fun x =>
    (semver_Version_Major.calls _ _ _ _ _ _ _ x.W rfl).mono fun e w' ⟨he, hB⟩ => ⟨he, x.of hB (Nat.le_refl _)⟩
  have HSG : Hid (∀ x : Near w.heap.size w, Calls Tryd.prog 34 #[.int .u64 (a : Int), .int .u64 (a' : Int)] x.W fun e w' => e = .returned (.int .i64 (cseg a a')) ∧ ∃ y : Near w.heap.size w, w' = y.W) := Lib.hid fun x =>
    (seg_calls a a' x.W).mono fun e w' ⟨he, hB⟩ => ⟨he, x.of hB (Nat.le_refl _)⟩
  obtain ⟨d0, hd_⟩ : ∃ d, d = cseg a a' := ⟨_, rfl⟩
  rw [← hd_] at HSG
  have hr_ := HR0.out
  rw [← hd_] at hr_
  have HQ0 := Lib.hid hr_
  clear hr_ hd_ hb_ hc_
  have HV0 := Lib.hid hv
  have HW0 := Lib.hid hw
  clear hv hw
  go_upto_region 1 with fail
  refine wp_region_near w.heap.size w (by kernel_rfl) (by kernel_rfl) (Below.refl _ _) ?_
  iterate 4 (go_big_quiet_step ((exact HA.out _)))
  iterate 4 (go_big_quiet_step ((exact HA'.out _)))
  repeat (go_big_quiet_step ((exact HSG.out _)))
  refine wpQuiet_nil ?_
  intro w1 hw'
  obtain ⟨x_, hx_⟩ := hw'
  have hW_ : Below w.heap.size w w1 := by rw [hx_]; exact x_.h
  clear hx_ e0 e1 e2 e3 e4 e5 f0 f1 f2 f3 f4 f5 HA HA' HSG
  have HB1 := Lib.hid (HB0.out.trans (hW_.mono HB0.out.size))
  have hv : VerIs w1 b a m p pre me og := (hW_.block _ (blk_lt HV0.out)).trans HV0.out
  have hw : VerIs w1 c a' m' p' pre' me' og' := (hW_.block _ (blk_lt HW0.out)).trans HW0.out
  clear hW_
  by_cases hd_ : d0 = 0
  rotate_left
  · have hr_ := HQ0.out
    rw [if_pos hd_] at hr_
    subst hr_
    clear hv hw
    go_wp2_with fail
    go_ret
    exact ⟨rfl, HB1.out⟩
  have HR1 := Lib.hid (HQ0.out.trans (if_neg (by rw [hd_]; simp)))
  subst hd_
  have hb_ := blk_lt hv
  have hc_ := blk_lt hw
  have e0 : ∀ x : Near w1.heap.size w1, x.W.cell? ⟨b, 0, none⟩ = some (.int .u64 (a : Int)) := fun x => x.cell hb_ (by rw [blk_cell hv]; rfl)
  have f0 : ∀ x : Near w1.heap.size w1, x.W.cell? ⟨c, 0, none⟩ = some (.int .u64 (a' : Int)) := fun x => x.cell hc_ (by rw [blk_cell hw]; rfl)
  have e1 : ∀ x : Near w1.heap.size w1, x.W.cell? ⟨b, 1, none⟩ = some (.int .u64 (m : Int)) := fun x => x.cell hb_ (by rw [blk_cell hv]; rfl)
  have f1 : ∀ x : Near w1.heap.size w1, x.W.cell? ⟨c, 1, none⟩ = some (.int .u64 (m' : Int)) := fun x => x.cell hc_ (by rw [blk_cell hw]; rfl)
  have e2 : ∀ x : Near w1.heap.size w1, x.W.cell? ⟨b, 2, none⟩ = some (.int .u64 (p : Int)) := fun x => x.cell hb_ (by rw [blk_cell hv]; rfl)
  have f2 : ∀ x : Near w1.heap.size w1, x.W.cell? ⟨c, 2, none⟩ = some (.int .u64 (p' : Int)) := fun x => x.cell hc_ (by rw [blk_cell hw]; rfl)
  have e3 : ∀ x : Near w1.heap.size w1, x.W.cell? ⟨b, 3, none⟩ = some (.string pre) := fun x => x.cell hb_ (by rw [blk_cell hv]; rfl)
  have f3 : ∀ x : Near w1.heap.size w1, x.W.cell? ⟨c, 3, none⟩ = some (.string pre') := fun x => x.cell hc_ (by rw [blk_cell hw]; rfl)
  have e4 : ∀ x : Near w1.heap.size w1, x.W.cell? ⟨b, 4, none⟩ = some (.string me) := fun x => x.cell hb_ (by rw [blk_cell hv]; rfl)
  have f4 : ∀ x : Near w1.heap.size w1, x.W.cell? ⟨c, 4, none⟩ = some (.string me') := fun x => x.cell hc_ (by rw [blk_cell hw]; rfl)
  have e5 : ∀ x : Near w1.heap.size w1, x.W.cell? ⟨b, 5, none⟩ = some (.string og) := fun x => x.cell hb_ (by rw [blk_cell hv]; rfl)
  have f5 : ∀ x : Near w1.heap.size w1, x.W.cell? ⟨c, 5, none⟩ = some (.string og') := fun x => x.cell hc_ (by rw [blk_cell hw]; rfl)
  have HA : Hid (∀ x : Near w1.heap.size w1, Calls Tryd.prog 36 #[.agg #[.int .u64 (a : Int), .int .u64 (m : Int), .int .u64 (p : Int), .string pre, .string me, .string og]] x.W fun e w' => e = .returned (.int .u64 (m : Int)) ∧ ∃ y : Near w1.heap.size w1, w' = y.W) := Lib.hid fun x =>
    (semver_Version_Minor.calls _ _ _ _ _ _ _ x.W rfl).mono fun e w' ⟨he, hB⟩ => ⟨he, x.of hB (Nat.le_refl _)⟩
  have HA' : Hid (∀ x : Near w1.heap.size w1, Calls Tryd.prog 36 #[.agg #[.int .u64 (a' : Int), .int .u64 (m' : Int), .int .u64 (p' : Int), .string pre', .string me', .string og']] x.W fun e w' => e = .returned (.int .u64 (m' : Int)) ∧ ∃ y : Near w1.heap.size w1, w' = y.W) := Lib.hid fun x =>
    (semver_Version_Minor.calls _ _ _ _ _ _ _ x.W rfl).mono fun e w' ⟨he, hB⟩ => ⟨he, x.of hB (Nat.le_refl _)⟩
  have HSG : Hid (∀ x : Near w1.heap.size w1, Calls Tryd.prog 34 #[.int .u64 (m : Int), .int .u64 (m' : Int)] x.W fun e w' => e = .returned (.int .i64 (cseg m m')) ∧ ∃ y : Near w1.heap.size w1, w' = y.W) := Lib.hid fun x =>
    (seg_calls m m' x.W).mono fun e w' ⟨he, hB⟩ => ⟨he, x.of hB (Nat.le_refl _)⟩
  obtain ⟨d1, hd_⟩ : ∃ d, d = cseg m m' := ⟨_, rfl⟩
  rw [← hd_] at HSG
  have hr_ := HR1.out
  rw [← hd_] at hr_
  have HQ1 := Lib.hid hr_
  clear hr_ hd_ hb_ hc_
  have HV1 := Lib.hid hv
  have HW1 := Lib.hid hw
  clear hv hw
  go_upto_region 4 with fail
  refine wp_region_near w1.heap.size w1 (by kernel_rfl) (by kernel_rfl) (Below.refl _ _) ?_
  iterate 4 (go_big_quiet_step ((exact HA.out _)))
  iterate 4 (go_big_quiet_step ((exact HA'.out _)))
  repeat (go_big_quiet_step ((exact HSG.out _)))
  refine wpQuiet_nil ?_
  intro w2 hw'
  obtain ⟨x_, hx_⟩ := hw'
  have hW_ : Below w1.heap.size w1 w2 := by rw [hx_]; exact x_.h
  clear hx_ e0 e1 e2 e3 e4 e5 f0 f1 f2 f3 f4 f5 HA HA' HSG
  have HB2 := Lib.hid (HB1.out.trans (hW_.mono HB1.out.size))
  have hv : VerIs w2 b a m p pre me og := (hW_.block _ (blk_lt HV1.out)).trans HV1.out
  have hw : VerIs w2 c a' m' p' pre' me' og' := (hW_.block _ (blk_lt HW1.out)).trans HW1.out
  clear hW_
  by_cases hd_ : d1 = 0
  rotate_left
  · have hr_ := HQ1.out
    rw [if_pos hd_] at hr_
    subst hr_
    clear hv hw
    go_wp2_with fail
    go_ret
    exact ⟨rfl, HB2.out⟩
  have HR2 := Lib.hid (HQ1.out.trans (if_neg (by rw [hd_]; simp)))
  subst hd_
  have hb_ := blk_lt hv
  have hc_ := blk_lt hw
  have e0 : ∀ x : Near w2.heap.size w2, x.W.cell? ⟨b, 0, none⟩ = some (.int .u64 (a : Int)) := fun x => x.cell hb_ (by rw [blk_cell hv]; rfl)
  have f0 : ∀ x : Near w2.heap.size w2, x.W.cell? ⟨c, 0, none⟩ = some (.int .u64 (a' : Int)) := fun x => x.cell hc_ (by rw [blk_cell hw]; rfl)
  have e1 : ∀ x : Near w2.heap.size w2, x.W.cell? ⟨b, 1, none⟩ = some (.int .u64 (m : Int)) := fun x => x.cell hb_ (by rw [blk_cell hv]; rfl)
  have f1 : ∀ x : Near w2.heap.size w2, x.W.cell? ⟨c, 1, none⟩ = some (.int .u64 (m' : Int)) := fun x => x.cell hc_ (by rw [blk_cell hw]; rfl)
  have e2 : ∀ x : Near w2.heap.size w2, x.W.cell? ⟨b, 2, none⟩ = some (.int .u64 (p : Int)) := fun x => x.cell hb_ (by rw [blk_cell hv]; rfl)
  have f2 : ∀ x : Near w2.heap.size w2, x.W.cell? ⟨c, 2, none⟩ = some (.int .u64 (p' : Int)) := fun x => x.cell hc_ (by rw [blk_cell hw]; rfl)
  have e3 : ∀ x : Near w2.heap.size w2, x.W.cell? ⟨b, 3, none⟩ = some (.string pre) := fun x => x.cell hb_ (by rw [blk_cell hv]; rfl)
  have f3 : ∀ x : Near w2.heap.size w2, x.W.cell? ⟨c, 3, none⟩ = some (.string pre') := fun x => x.cell hc_ (by rw [blk_cell hw]; rfl)
  have e4 : ∀ x : Near w2.heap.size w2, x.W.cell? ⟨b, 4, none⟩ = some (.string me) := fun x => x.cell hb_ (by rw [blk_cell hv]; rfl)
  have f4 : ∀ x : Near w2.heap.size w2, x.W.cell? ⟨c, 4, none⟩ = some (.string me') := fun x => x.cell hc_ (by rw [blk_cell hw]; rfl)
  have e5 : ∀ x : Near w2.heap.size w2, x.W.cell? ⟨b, 5, none⟩ = some (.string og) := fun x => x.cell hb_ (by rw [blk_cell hv]; rfl)
  have f5 : ∀ x : Near w2.heap.size w2, x.W.cell? ⟨c, 5, none⟩ = some (.string og') := fun x => x.cell hc_ (by rw [blk_cell hw]; rfl)
  have HA : Hid (∀ x : Near w2.heap.size w2, Calls Tryd.prog 37 #[.agg #[.int .u64 (a : Int), .int .u64 (m : Int), .int .u64 (p : Int), .string pre, .string me, .string og]] x.W fun e w' => e = .returned (.int .u64 (p : Int)) ∧ ∃ y : Near w2.heap.size w2, w' = y.W) := Lib.hid fun x =>
    (semver_Version_Patch.calls _ _ _ _ _ _ _ x.W rfl).mono fun e w' ⟨he, hB⟩ => ⟨he, x.of hB (Nat.le_refl _)⟩
  have HA' : Hid (∀ x : Near w2.heap.size w2, Calls Tryd.prog 37 #[.agg #[.int .u64 (a' : Int), .int .u64 (m' : Int), .int .u64 (p' : Int), .string pre', .string me', .string og']] x.W fun e w' => e = .returned (.int .u64 (p' : Int)) ∧ ∃ y : Near w2.heap.size w2, w' = y.W) := Lib.hid fun x =>
    (semver_Version_Patch.calls _ _ _ _ _ _ _ x.W rfl).mono fun e w' ⟨he, hB⟩ => ⟨he, x.of hB (Nat.le_refl _)⟩
  have HSG : Hid (∀ x : Near w2.heap.size w2, Calls Tryd.prog 34 #[.int .u64 (p : Int), .int .u64 (p' : Int)] x.W fun e w' => e = .returned (.int .i64 (cseg p p')) ∧ ∃ y : Near w2.heap.size w2, w' = y.W) := Lib.hid fun x =>
    (seg_calls p p' x.W).mono fun e w' ⟨he, hB⟩ => ⟨he, x.of hB (Nat.le_refl _)⟩
  obtain ⟨d2, hd_⟩ : ∃ d, d = cseg p p' := ⟨_, rfl⟩
  rw [← hd_] at HSG
  have hr_ := HR2.out
  rw [← hd_] at hr_
  have HQ2 := Lib.hid hr_
  clear hr_ hd_ hb_ hc_
  have HV2 := Lib.hid hv
  have HW2 := Lib.hid hw
  clear hv hw
  go_upto_region 7 with fail
  refine wp_region_near w2.heap.size w2 (by kernel_rfl) (by kernel_rfl) (Below.refl _ _) ?_
  iterate 4 (go_big_quiet_step ((exact HA.out _)))
  iterate 4 (go_big_quiet_step ((exact HA'.out _)))
  repeat (go_big_quiet_step ((exact HSG.out _)))
  refine wpQuiet_nil ?_
  intro w3 hw'
  obtain ⟨x_, hx_⟩ := hw'
  have hW_ : Below w2.heap.size w2 w3 := by rw [hx_]; exact x_.h
  clear hx_ e0 e1 e2 e3 e4 e5 f0 f1 f2 f3 f4 f5 HA HA' HSG
  have HB3 := Lib.hid (HB2.out.trans (hW_.mono HB2.out.size))
  have hv : VerIs w3 b a m p pre me og := (hW_.block _ (blk_lt HV2.out)).trans HV2.out
  have hw : VerIs w3 c a' m' p' pre' me' og' := (hW_.block _ (blk_lt HW2.out)).trans HW2.out
  clear hW_
  by_cases hd_ : d2 = 0
  rotate_left
  · have hr_ := HQ2.out
    rw [if_pos hd_] at hr_
    subst hr_
    clear hv hw
    go_wp2_with fail
    go_ret
    exact ⟨rfl, HB3.out⟩
  have HR3 := Lib.hid (HQ2.out.trans (if_neg (by rw [hd_]; simp)))
  subst hd_
  have g3 : w3.cell? ⟨b, 3, none⟩ = some (.string pre) := by rw [blk_cell hv]; rfl
  have f0 : w3.cell? ⟨c, 0, none⟩ = some (.int .u64 (a' : Int)) := by rw [blk_cell hw]; rfl
  have f1 : w3.cell? ⟨c, 1, none⟩ = some (.int .u64 (m' : Int)) := by rw [blk_cell hw]; rfl
  have f2 : w3.cell? ⟨c, 2, none⟩ = some (.int .u64 (p' : Int)) := by rw [blk_cell hw]; rfl
  have f3 : w3.cell? ⟨c, 3, none⟩ = some (.string pre') := by rw [blk_cell hw]; rfl
  have f4 : w3.cell? ⟨c, 4, none⟩ = some (.string me') := by rw [blk_cell hw]; rfl
  have f5 : w3.cell? ⟨c, 5, none⟩ = some (.string og') := by rw [blk_cell hw]; rfl
  have HP := Lib.hid (semver_Version_Prerelease.calls (a' : Int) (m' : Int) (p' : Int) pre' me' og' pre' w3 rfl)
  clear hv hw
  go_wp2_with fail
  refine HP.out.mono ?_
  rintro e w4 ⟨rfl, hb4⟩
  have HB4 := Lib.hid (HB3.out.trans (hb4.mono HB3.out.size))
  clear hb4 g3 f0 f1 f2 f3 f4 f5
  have hr_ := HR3.out
  cases h1 : pre.toList.isEmpty with
  | true =>
    cases h2 : pre'.toList.isEmpty with
    | true =>
      rw [h1, h2, if_pos ⟨rfl, rfl⟩] at hr_
      subst hr_
      go_wp2_with fail
      go_ret
      exact ⟨rfl, HB4.out⟩
    | false =>
      rw [h1, h2, if_neg (by simp), if_pos rfl] at hr_
      subst hr_
      go_wp2_with fail
      go_ret
      exact ⟨rfl, HB4.out⟩
  | false =>
    cases h2 : pre'.toList.isEmpty with
    | true =>
      rw [h1, h2, if_neg (by simp), if_neg (by simp), if_pos rfl] at hr_
      subst hr_
      go_wp2_with fail
      go_ret
      exact ⟨rfl, HB4.out⟩
    | false =>
      rw [h1, h2, if_neg (by simp), if_neg (by simp), if_neg (by simp)] at hr_
      subst hr_
      have HC := Lib.hid (HU.out h1 h2 w4 HB4.out)
      go_wp2_with fail
      refine HC.out.mono ?_
      rintro e w5 ⟨rfl, hb5⟩
      have HB5 := Lib.hid (HB4.out.trans (hb5.mono HB4.out.size))
      go_wp2_with fail
      go_ret
      exact ⟨rfl, HB5.out⟩
end Go.Proofs.YtmoilbhkjmhoaaaDoor.Sv
