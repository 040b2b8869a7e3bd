/- FnRangeCaret: what ^ stands for: the law's walk. Printed by gen_caret.py. -/
import Derived.Test.YtmoilbhkjmhoaaaDoorSvC18
namespace Go.Proofs.YtmoilbhkjmhoaaaDoor.Pure
/-- Nothing more is asked. -/
theorem FnRangeCaret : True := trivial
end Go.Proofs.YtmoilbhkjmhoaaaDoor.Pure
namespace Go.Proofs.YtmoilbhkjmhoaaaDoor.PFnRangeCaret
open Go.RowKit Go.Proofs.YtmoilbhkjmhoaaaDoor.Vals Go.Proofs.YtmoilbhkjmhoaaaDoorW.PrintWords Go.Proofs.YtmoilbhkjmhoaaaDoor.Txt Go.Proofs.YtmoilbhkjmhoaaaDoor Go.Proofs.YtmoilbhkjmhoaaaDoor.Sv
set_option linter.unusedVariables false
set_option linter.unusedSimpArgs false
set_option maxRecDepth 20000
theorem pow_tl : (⟨#[94]⟩ : ByteArray).toList = [94] := by rw [Lib.toList_data]
theorem o94 : ([94] : List UInt8) ∈ opsLL := by decide
set_option maxHeartbeats 8000000 in
theorem laws_FnRangeCaret.walk (_P : True) (a0 a1 a2 a3 a4 a5 : Int) (w : World) (w0 : (Lit.int .u16 a0).wf = true) (w1 : (Lit.int .u16 a1).wf = true) (w2 : (Lit.int .u16 a2).wf = true) (w3 : (Lit.int .u16 a3).wf = true) (w4 : (Lit.int .u16 a4).wf = true) (w5 : (Lit.int .u16 a5).wf = true) :
    Calls Tryd.prog 5 #[.int .u16 a0, .int .u16 a1, .int .u16 a2, .int .u16 a3, .int .u16 a4, .int .u16 a5] w fun e w' => e = .returned (.bool true) ∧ Below w.heap.size w w' := by
  obtain ⟨A, M, P, hA, hM, hP, HW⟩ := v16_call a0 a1 a2 w0 w1 w2
  obtain ⟨x, y, z, hx, hy, hz, HV⟩ := v16_call a3 a4 a5 w3 w4 w5
  have HW1 := Lib.hid HW
  have HV1 := Lib.hid HV
  have wa : IntKind.u64.wrap ((A : Int) + 1) = (A : Int) + 1 := wrap64u (A + 1) (by omega)
  have wm : IntKind.u64.wrap ((M : Int) + 1) = (M : Int) + 1 := wrap64u (M + 1) (by omega)
  have wp : IntKind.u64.wrap ((P : Int) + 1) = (P : Int) + 1 := wrap64u (P + 1) (by omega)
  have lA := dec9 (n := A) (by omega)
  have lM := dec9 (n := M) (by omega)
  have lP := dec9 (n := P) (by omega)
  obtain ⟨s3, hs3⟩ : ∃ s, s = text3 A M P := ⟨_, rfl⟩
  have z3 : s3.size = (Lib.decDigits A).length + (Lib.decDigits M).length + (Lib.decDigits P).length + 2 := by rw [hs3, text3_size]
  have l3 : ((⟨#[94]⟩ : ByteArray) ++ s3).toList = (cn3 [94] [] A M P).text := by
    rw [tl_append, pow_tl, hs3, text3_list]; unfold cn3 Cn.text Cn.vt; simp [sg_dec]
  have g3 : ((⟨#[94]⟩ : ByteArray) ++ s3).size ≤ 512 := by rw [size_append, show (⟨#[94]⟩ : ByteArray).size = 1 from rfl]; omega
  have HT3 : Hid (∀ W, Calls Tryd.prog 9 #[.agg #[.int .u64 (A : Int), .int .u64 (M : Int), .int .u64 (P : Int), .string ⟨#[]⟩, .string ⟨#[]⟩]] W fun e w' => e = .returned (.string s3) ∧ Below W.heap.size W w') := Lib.hid fun W => by rw [hs3]; exact textOf_walk A M P (by omega) (by omega) (by omega) W
  have c3 : (9223372036854775807 < 1 + s3.size) = False := eq_false (by omega)
  clear HW HV w0 w1 w2 w3 w4 w5
  by_cases hA0 : A = 0
  · have eA : ((A : Int) == 0) = true := by simp; omega
    by_cases hM0 : 0 < M
    · have HR3 : Hid (∀ W, Calls Tryd.prog 14 #[.string ((⟨#[94]⟩ : ByteArray) ++ s3), .agg #[.int .u64 (x : Int), .int .u64 (y : Int), .int .u64 (z : Int), .string ⟨#[]⟩, .string ⟨#[]⟩], .agg #[.int .u64 (A : Int), .int .u64 (M : Int), .int .u64 (P : Int), .string ⟨#[]⟩, .string ⟨#[]⟩], .agg #[.int .u64 0, .int .u64 ((M : Int) + 1), .int .u64 0, .string ⟨#[]⟩, .string ⟨#[]⟩]] W fun e w' => e = .returned (.bool true) ∧ Below W.heap.size W w') := Lib.hid fun W => by
        have := ranged_walk ((⟨#[94]⟩ : ByteArray) ++ s3) x y z (by omega) (by omega) (by omega) A M P 0 ((M : Int) + 1) 0 (by omega) _ W (fun W2 => compare_one _ (cn3 [94] [] A M P) (cn3_ok o94 (.inl rfl) A M P) (cn3_small (by omega) (by omega) (by omega)) (cn3_dirty o94 A M P) g3 l3 x y z (by omega) (by omega) (by omega) W2)
        rw [caret_minor x y z A M P hA0 hM0] at this
        exact this
      have eM : decide ((0 : Int) < (M : Int)) = true := by simp; omega
      have eM' : decide (0 < M) = true := by simp; omega
      clear hM0
      clear l3 g3 hs3 z3 lA lM lP hA hM hP hx hy hz
      have HA0 := Lib.hid hA0
      clear hA0
      go_enter Tryd.func5, Tryd.ntmps5
      go_wp2_with fail
      refine (HW1.out _).mono ?_
      rintro e w1 ⟨rfl, hb1⟩
      go_wp2_with fail
      refine (HV1.out _).mono ?_
      rintro e w2 ⟨rfl, hb2⟩
      have HB2 := Lib.hid (hb1.trans (hb2.mono hb1.size))
      clear hb1 hb2
      go_wp2_with fail
      obtain ⟨w3, hw3, q1, q2, q3, hb3⟩ := three_new w2 (A : Int) (M : Int) (P : Int) (x : Int) (y : Int) (z : Int) 0 ((M : Int) + 1) 0
      rw [← hw3]
      have HB3 := Lib.hid (HB2.out.trans (hb3.mono HB2.out.size))
      obtain ⟨b1, h1⟩ : ∃ b, b = w2.heap.size := ⟨_, rfl⟩
      obtain ⟨b2, h2⟩ : ∃ b, b = w2.heap.size + 1 := ⟨_, rfl⟩
      obtain ⟨b3, h3⟩ : ∃ b, b = w2.heap.size + 1 + 1 := ⟨_, rfl⟩
      rw [← h3] at q3
      rw [← h2] at q2
      rw [← h1] at q1
      rw [← h3, ← h2, ← h1]
      have Q1 := Lib.hid q1
      have Q2 := Lib.hid q2
      have Q3 := Lib.hid q3
      clear hw3 q1 q2 q3 hb3 h1 h2 h3
      have ltb1 := blk_lt Q1.out
      have b1c0 : ∀ q : Near w3.heap.size w3, q.W.cell? ⟨b1, 0, none⟩ = some (.int .u64 (A : Int)) := fun q => q.cell ltb1 Q1.out.cells.c0
      have b1c1 : ∀ q : Near w3.heap.size w3, q.W.cell? ⟨b1, 1, none⟩ = some (.int .u64 (M : Int)) := fun q => q.cell ltb1 Q1.out.cells.c1
      have b1c2 : ∀ q : Near w3.heap.size w3, q.W.cell? ⟨b1, 2, none⟩ = some (.int .u64 (P : Int)) := fun q => q.cell ltb1 Q1.out.cells.c2
      have b1c3 : ∀ q : Near w3.heap.size w3, q.W.cell? ⟨b1, 3, none⟩ = some (.string ⟨#[]⟩) := fun q => q.cell ltb1 Q1.out.cells.c3
      have b1c4 : ∀ q : Near w3.heap.size w3, q.W.cell? ⟨b1, 4, none⟩ = some (.string ⟨#[]⟩) := fun q => q.cell ltb1 Q1.out.cells.c4
      have ltb2 := blk_lt Q2.out
      have b2c0 : ∀ q : Near w3.heap.size w3, q.W.cell? ⟨b2, 0, none⟩ = some (.int .u64 (x : Int)) := fun q => q.cell ltb2 Q2.out.cells.c0
      have b2c1 : ∀ q : Near w3.heap.size w3, q.W.cell? ⟨b2, 1, none⟩ = some (.int .u64 (y : Int)) := fun q => q.cell ltb2 Q2.out.cells.c1
      have b2c2 : ∀ q : Near w3.heap.size w3, q.W.cell? ⟨b2, 2, none⟩ = some (.int .u64 (z : Int)) := fun q => q.cell ltb2 Q2.out.cells.c2
      have b2c3 : ∀ q : Near w3.heap.size w3, q.W.cell? ⟨b2, 3, none⟩ = some (.string ⟨#[]⟩) := fun q => q.cell ltb2 Q2.out.cells.c3
      have b2c4 : ∀ q : Near w3.heap.size w3, q.W.cell? ⟨b2, 4, none⟩ = some (.string ⟨#[]⟩) := fun q => q.cell ltb2 Q2.out.cells.c4
      have ltb3 := blk_lt Q3.out
      have b3c0 : ∀ q : Near w3.heap.size w3, q.W.cell? ⟨b3, 0, none⟩ = some (.int .u64 0) := fun q => q.cell ltb3 Q3.out.cells.c0
      have b3c1 : ∀ q : Near w3.heap.size w3, q.W.cell? ⟨b3, 1, none⟩ = some (.int .u64 ((M : Int) + 1)) := fun q => q.cell ltb3 Q3.out.cells.c1
      have b3c2 : ∀ q : Near w3.heap.size w3, q.W.cell? ⟨b3, 2, none⟩ = some (.int .u64 0) := fun q => q.cell ltb3 Q3.out.cells.c2
      have b3c3 : ∀ q : Near w3.heap.size w3, q.W.cell? ⟨b3, 3, none⟩ = some (.string ⟨#[]⟩) := fun q => q.cell ltb3 Q3.out.cells.c3
      have b3c4 : ∀ q : Near w3.heap.size w3, q.W.cell? ⟨b3, 4, none⟩ = some (.string ⟨#[]⟩) := fun q => q.cell ltb3 Q3.out.cells.c4
      have NT := Lib.hid (nearC w3 HT3.out)
      have NR := Lib.hid (nearC w3 HR3.out)
      have u0 : w3.cell? ⟨b1, 0, none⟩ = some (.int .u64 (A : Int)) := Q1.out.cells.c0
      clear ltb1 ltb2 ltb3
      go_upto_region 9 with fail
      clear u0
      refine wp_region_near w3.heap.size w3 (by kernel_rfl) (by kernel_rfl) (Below.refl _ _) ?_
      iterate 2 (go_big_quiet_step ((exact NT.out _)))
      repeat (go_big_quiet_step ((exact NR.out _)))
      refine wpQuiet_nil ?_
      intro w4 hw'
      obtain ⟨q_, hx_⟩ := hw'
      have hb_ : Below w3.heap.size w3 w4 := by rw [hx_]; exact q_.h
      have HB4 := Lib.hid (HB3.out.trans (hb_.mono HB3.out.size))
      have Q1_ := Lib.hid (Q1.out.below hb_)
      have Q2_ := Lib.hid (Q2.out.below hb_)
      have Q3_ := Lib.hid (Q3.out.below hb_)
      clear hx_ hb_ Q1 Q2 Q3 b1c0 b1c1 b1c2 b1c3 b1c4 b2c0 b2c1 b2c2 b2c3 b2c4 b3c0 b3c1 b3c2 b3c3 b3c4 NT NR
      have Q1 := Q1_
      have Q2 := Q2_
      have Q3 := Q3_
      clear Q1_ Q2_ Q3_
      have u0 : w4.cell? ⟨b1, 0, none⟩ = some (.int .u64 (A : Int)) := Q1.out.cells.c0
      go_wp2_with fail
      go_ret
      exact ⟨rfl, HB4.out⟩
    · by_cases hP0 : 0 < P
      · have HR3 : Hid (∀ W, Calls Tryd.prog 14 #[.string ((⟨#[94]⟩ : ByteArray) ++ s3), .agg #[.int .u64 (x : Int), .int .u64 (y : Int), .int .u64 (z : Int), .string ⟨#[]⟩, .string ⟨#[]⟩], .agg #[.int .u64 (A : Int), .int .u64 (M : Int), .int .u64 (P : Int), .string ⟨#[]⟩, .string ⟨#[]⟩], .agg #[.int .u64 0, .int .u64 0, .int .u64 ((P : Int) + 1), .string ⟨#[]⟩, .string ⟨#[]⟩]] W fun e w' => e = .returned (.bool true) ∧ Below W.heap.size W w') := Lib.hid fun W => by
          have := ranged_walk ((⟨#[94]⟩ : ByteArray) ++ s3) x y z (by omega) (by omega) (by omega) A M P 0 0 ((P : Int) + 1) (by omega) _ W (fun W2 => compare_one _ (cn3 [94] [] A M P) (cn3_ok o94 (.inl rfl) A M P) (cn3_small (by omega) (by omega) (by omega)) (cn3_dirty o94 A M P) g3 l3 x y z (by omega) (by omega) (by omega) W2)
          rw [caret_patch x y z A M P hA0 (by omega) hP0] at this
          exact this
        have eM : decide ((0 : Int) < (M : Int)) = false := by simp; omega
        have eM' : decide (0 < M) = false := by simp; omega
        have eP : decide ((0 : Int) < (P : Int)) = true := by simp; omega
        have eP' : decide (0 < P) = true := by simp; omega
        clear hM0 hP0
        clear l3 g3 hs3 z3 lA lM lP hA hM hP hx hy hz
        have HA0 := Lib.hid hA0
        clear hA0
        go_enter Tryd.func5, Tryd.ntmps5
        go_wp2_with fail
        refine (HW1.out _).mono ?_
        rintro e w1 ⟨rfl, hb1⟩
        go_wp2_with fail
        refine (HV1.out _).mono ?_
        rintro e w2 ⟨rfl, hb2⟩
        have HB2 := Lib.hid (hb1.trans (hb2.mono hb1.size))
        clear hb1 hb2
        go_wp2_with fail
        obtain ⟨w3, hw3, q1, q2, q3, hb3⟩ := three_new w2 (A : Int) (M : Int) (P : Int) (x : Int) (y : Int) (z : Int) 0 0 ((P : Int) + 1)
        rw [← hw3]
        have HB3 := Lib.hid (HB2.out.trans (hb3.mono HB2.out.size))
        obtain ⟨b1, h1⟩ : ∃ b, b = w2.heap.size := ⟨_, rfl⟩
        obtain ⟨b2, h2⟩ : ∃ b, b = w2.heap.size + 1 := ⟨_, rfl⟩
        obtain ⟨b3, h3⟩ : ∃ b, b = w2.heap.size + 1 + 1 := ⟨_, rfl⟩
        rw [← h3] at q3
        rw [← h2] at q2
        rw [← h1] at q1
        rw [← h3, ← h2, ← h1]
        have Q1 := Lib.hid q1
        have Q2 := Lib.hid q2
        have Q3 := Lib.hid q3
        clear hw3 q1 q2 q3 hb3 h1 h2 h3
        have ltb1 := blk_lt Q1.out
        have b1c0 : ∀ q : Near w3.heap.size w3, q.W.cell? ⟨b1, 0, none⟩ = some (.int .u64 (A : Int)) := fun q => q.cell ltb1 Q1.out.cells.c0
        have b1c1 : ∀ q : Near w3.heap.size w3, q.W.cell? ⟨b1, 1, none⟩ = some (.int .u64 (M : Int)) := fun q => q.cell ltb1 Q1.out.cells.c1
        have b1c2 : ∀ q : Near w3.heap.size w3, q.W.cell? ⟨b1, 2, none⟩ = some (.int .u64 (P : Int)) := fun q => q.cell ltb1 Q1.out.cells.c2
        have b1c3 : ∀ q : Near w3.heap.size w3, q.W.cell? ⟨b1, 3, none⟩ = some (.string ⟨#[]⟩) := fun q => q.cell ltb1 Q1.out.cells.c3
        have b1c4 : ∀ q : Near w3.heap.size w3, q.W.cell? ⟨b1, 4, none⟩ = some (.string ⟨#[]⟩) := fun q => q.cell ltb1 Q1.out.cells.c4
        have ltb2 := blk_lt Q2.out
        have b2c0 : ∀ q : Near w3.heap.size w3, q.W.cell? ⟨b2, 0, none⟩ = some (.int .u64 (x : Int)) := fun q => q.cell ltb2 Q2.out.cells.c0
        have b2c1 : ∀ q : Near w3.heap.size w3, q.W.cell? ⟨b2, 1, none⟩ = some (.int .u64 (y : Int)) := fun q => q.cell ltb2 Q2.out.cells.c1
        have b2c2 : ∀ q : Near w3.heap.size w3, q.W.cell? ⟨b2, 2, none⟩ = some (.int .u64 (z : Int)) := fun q => q.cell ltb2 Q2.out.cells.c2
        have b2c3 : ∀ q : Near w3.heap.size w3, q.W.cell? ⟨b2, 3, none⟩ = some (.string ⟨#[]⟩) := fun q => q.cell ltb2 Q2.out.cells.c3
        have b2c4 : ∀ q : Near w3.heap.size w3, q.W.cell? ⟨b2, 4, none⟩ = some (.string ⟨#[]⟩) := fun q => q.cell ltb2 Q2.out.cells.c4
        have ltb3 := blk_lt Q3.out
        have b3c0 : ∀ q : Near w3.heap.size w3, q.W.cell? ⟨b3, 0, none⟩ = some (.int .u64 0) := fun q => q.cell ltb3 Q3.out.cells.c0
        have b3c1 : ∀ q : Near w3.heap.size w3, q.W.cell? ⟨b3, 1, none⟩ = some (.int .u64 0) := fun q => q.cell ltb3 Q3.out.cells.c1
        have b3c2 : ∀ q : Near w3.heap.size w3, q.W.cell? ⟨b3, 2, none⟩ = some (.int .u64 ((P : Int) + 1)) := fun q => q.cell ltb3 Q3.out.cells.c2
        have b3c3 : ∀ q : Near w3.heap.size w3, q.W.cell? ⟨b3, 3, none⟩ = some (.string ⟨#[]⟩) := fun q => q.cell ltb3 Q3.out.cells.c3
        have b3c4 : ∀ q : Near w3.heap.size w3, q.W.cell? ⟨b3, 4, none⟩ = some (.string ⟨#[]⟩) := fun q => q.cell ltb3 Q3.out.cells.c4
        have NT := Lib.hid (nearC w3 HT3.out)
        have NR := Lib.hid (nearC w3 HR3.out)
        have u0 : w3.cell? ⟨b1, 0, none⟩ = some (.int .u64 (A : Int)) := Q1.out.cells.c0
        clear ltb1 ltb2 ltb3
        go_upto_region 9 with fail
        clear u0
        refine wp_region_near w3.heap.size w3 (by kernel_rfl) (by kernel_rfl) (Below.refl _ _) ?_
        iterate 2 (go_big_quiet_step ((exact NT.out _)))
        repeat (go_big_quiet_step ((exact NR.out _)))
        refine wpQuiet_nil ?_
        intro w4 hw'
        obtain ⟨q_, hx_⟩ := hw'
        have hb_ : Below w3.heap.size w3 w4 := by rw [hx_]; exact q_.h
        have HB4 := Lib.hid (HB3.out.trans (hb_.mono HB3.out.size))
        have Q1_ := Lib.hid (Q1.out.below hb_)
        have Q2_ := Lib.hid (Q2.out.below hb_)
        have Q3_ := Lib.hid (Q3.out.below hb_)
        clear hx_ hb_ Q1 Q2 Q3 b1c0 b1c1 b1c2 b1c3 b1c4 b2c0 b2c1 b2c2 b2c3 b2c4 b3c0 b3c1 b3c2 b3c3 b3c4 NT NR
        have Q1 := Q1_
        have Q2 := Q2_
        have Q3 := Q3_
        clear Q1_ Q2_ Q3_
        have u0 : w4.cell? ⟨b1, 0, none⟩ = some (.int .u64 (A : Int)) := Q1.out.cells.c0
        go_wp2_with fail
        go_ret
        exact ⟨rfl, HB4.out⟩
      · have eM : decide ((0 : Int) < (M : Int)) = false := by simp; omega
        have eM' : decide (0 < M) = false := by simp; omega
        have eP : decide ((0 : Int) < (P : Int)) = false := by simp; omega
        have eP' : decide (0 < P) = false := by simp; omega
        clear hM0 hP0
        clear l3 g3 hs3 z3 lA lM lP hA hM hP hx hy hz
        have HA0 := Lib.hid hA0
        clear hA0
        go_enter Tryd.func5, Tryd.ntmps5
        go_wp2_with fail
        refine (HW1.out _).mono ?_
        rintro e w1 ⟨rfl, hb1⟩
        go_wp2_with fail
        refine (HV1.out _).mono ?_
        rintro e w2 ⟨rfl, hb2⟩
        have HB2 := Lib.hid (hb1.trans (hb2.mono hb1.size))
        clear hb1 hb2
        go_wp2_with fail
        obtain ⟨w3, hw3, q1, q2, q3, hb3⟩ := three_new w2 (A : Int) (M : Int) (P : Int) (x : Int) (y : Int) (z : Int) ((A : Int) + 1) 0 0
        rw [← hw3]
        have HB3 := Lib.hid (HB2.out.trans (hb3.mono HB2.out.size))
        obtain ⟨b1, h1⟩ : ∃ b, b = w2.heap.size := ⟨_, rfl⟩
        obtain ⟨b2, h2⟩ : ∃ b, b = w2.heap.size + 1 := ⟨_, rfl⟩
        obtain ⟨b3, h3⟩ : ∃ b, b = w2.heap.size + 1 + 1 := ⟨_, rfl⟩
        rw [← h3] at q3
        rw [← h2] at q2
        rw [← h1] at q1
        rw [← h3, ← h2, ← h1]
        have Q1 := Lib.hid q1
        have Q2 := Lib.hid q2
        have Q3 := Lib.hid q3
        clear hw3 q1 q2 q3 hb3 h1 h2 h3
        clear Q1 Q2 Q3
        go_ret
        exact ⟨rfl, HB3.out⟩
  · have eA : ((A : Int) == 0) = false := by simp; omega
    have hA1 : 0 < A := by omega
    have HR3 : Hid (∀ W, Calls Tryd.prog 14 #[.string ((⟨#[94]⟩ : ByteArray) ++ s3), .agg #[.int .u64 (x : Int), .int .u64 (y : Int), .int .u64 (z : Int), .string ⟨#[]⟩, .string ⟨#[]⟩], .agg #[.int .u64 (A : Int), .int .u64 (M : Int), .int .u64 (P : Int), .string ⟨#[]⟩, .string ⟨#[]⟩], .agg #[.int .u64 ((A : Int) + 1), .int .u64 0, .int .u64 0, .string ⟨#[]⟩, .string ⟨#[]⟩]] W fun e w' => e = .returned (.bool true) ∧ Below W.heap.size W w') := Lib.hid fun W => by
      have := ranged_walk ((⟨#[94]⟩ : ByteArray) ++ s3) x y z (by omega) (by omega) (by omega) A M P ((A : Int) + 1) 0 0 (by omega) _ W (fun W2 => compare_one _ (cn3 [94] [] A M P) (cn3_ok o94 (.inl rfl) A M P) (cn3_small (by omega) (by omega) (by omega)) (cn3_dirty o94 A M P) g3 l3 x y z (by omega) (by omega) (by omega) W2)
      rw [caret_major x y z A M P hA1] at this
      exact this
    obtain ⟨s1, hs1⟩ : ∃ s, s = text3 A 0 0 := ⟨_, rfl⟩
    obtain ⟨s2, hs2⟩ : ∃ s, s = text3 A M 0 := ⟨_, rfl⟩
    have z1 : s1.size = (Lib.decDigits A).length + 4 := by rw [hs1, text3_size, dec0]; simp
    have z2 : s2.size = (Lib.decDigits A).length + (Lib.decDigits M).length + 3 := by rw [hs2, text3_size, dec0]; simp <;> omega
    have l1 : ((⟨#[94]⟩ : ByteArray) ++ s1.extract 0 (s1.size - 4)).toList = (cn1 [94] A).text := by
      rw [tl_append, pow_tl, tl_extract, z1, hs1, text3_list]; simp [cn1, Cn.text, Cn.vt, sg]
    have l2 : ((⟨#[94]⟩ : ByteArray) ++ s2.extract 0 (s2.size - 2)).toList = (cn2 [94] A M).text := by
      rw [tl_append, pow_tl, tl_extract, z2, hs2, text3_list, List.drop_zero, Nat.sub_zero, dec0]
      have e2 : Lib.decDigits A ++ 46 :: (Lib.decDigits M ++ [46, 48]) = (Lib.decDigits A ++ 46 :: Lib.decDigits M) ++ [46, 48] := by simp
      rw [e2, List.take_left' (by simp <;> omega)]
      unfold cn2 Cn.text Cn.vt
      simp [sg_dec, sg, dec_ne]
    have x1 : (s1.extract 0 (s1.size - 4)).size = s1.size - 4 := by rw [size_extract _ _ _ (Nat.zero_le _) (by omega)]; omega
    have x2 : (s2.extract 0 (s2.size - 2)).size = s2.size - 2 := by rw [size_extract _ _ _ (Nat.zero_le _) (by omega)]; omega
    have HT1 : Hid (∀ W, Calls Tryd.prog 9 #[.agg #[.int .u64 (A : Int), .int .u64 0, .int .u64 0, .string ⟨#[]⟩, .string ⟨#[]⟩]] W fun e w' => e = .returned (.string s1) ∧ Below W.heap.size W w') := Lib.hid fun W => by rw [hs1]; exact textOf_walk A 0 0 (by omega) (by decide) (by decide) W
    have HT2 : Hid (∀ W, Calls Tryd.prog 9 #[.agg #[.int .u64 (A : Int), .int .u64 (M : Int), .int .u64 0, .string ⟨#[]⟩, .string ⟨#[]⟩]] W fun e w' => e = .returned (.string s2) ∧ Below W.heap.size W w') := Lib.hid fun W => by rw [hs2]; exact textOf_walk A M 0 (by omega) (by omega) (by decide) W
    have HR2 : Hid (∀ W, Calls Tryd.prog 14 #[.string ((⟨#[94]⟩ : ByteArray) ++ s2.extract 0 (s2.size - 2)), .agg #[.int .u64 (x : Int), .int .u64 (y : Int), .int .u64 (z : Int), .string ⟨#[]⟩, .string ⟨#[]⟩], .agg #[.int .u64 (A : Int), .int .u64 (M : Int), .int .u64 0, .string ⟨#[]⟩, .string ⟨#[]⟩], .agg #[.int .u64 ((A : Int) + 1), .int .u64 0, .int .u64 0, .string ⟨#[]⟩, .string ⟨#[]⟩]] W fun e w' => e = .returned (.bool true) ∧ Below W.heap.size W w') := Lib.hid fun W => by
      have := ranged_walk ((⟨#[94]⟩ : ByteArray) ++ s2.extract 0 (s2.size - 2)) x y z (by omega) (by omega) (by omega) A M 0 (A + 1) 0 0 (by omega) _ W (fun W2 => compare_one _ (cn2 [94] A M) (cn2_ok o94 A M) (cn2_small (by omega) (by omega)) ⟨o94, .inr (.inr rfl)⟩ (by rw [size_append, x2, show (⟨#[94]⟩ : ByteArray).size = 1 from rfl]; omega) l2 x y z (by omega) (by omega) (by omega) W2)
      rw [caret_two x y z A M hA1] at this
      exact this
    have HR1 : Hid (∀ W, Calls Tryd.prog 14 #[.string ((⟨#[94]⟩ : ByteArray) ++ s1.extract 0 (s1.size - 4)), .agg #[.int .u64 (x : Int), .int .u64 (y : Int), .int .u64 (z : Int), .string ⟨#[]⟩, .string ⟨#[]⟩], .agg #[.int .u64 (A : Int), .int .u64 0, .int .u64 0, .string ⟨#[]⟩, .string ⟨#[]⟩], .agg #[.int .u64 ((A : Int) + 1), .int .u64 0, .int .u64 0, .string ⟨#[]⟩, .string ⟨#[]⟩]] W fun e w' => e = .returned (.bool true) ∧ Below W.heap.size W w') := Lib.hid fun W => by
      have := ranged_walk ((⟨#[94]⟩ : ByteArray) ++ s1.extract 0 (s1.size - 4)) x y z (by omega) (by omega) (by omega) A 0 0 (A + 1) 0 0 (by omega) _ W (fun W2 => compare_one _ (cn1 [94] A) (cn1_ok o94 A) (cn1_small (by omega)) ⟨o94, .inr (.inr rfl)⟩ (by rw [size_append, x1, show (⟨#[94]⟩ : ByteArray).size = 1 from rfl]; omega) l1 x y z (by omega) (by omega) (by omega) W2)
      rw [caret_one x y z A hA1] at this
      exact this
    have za : s1.size ≤ 20 := by omega
    have za4 : 4 ≤ s1.size := by omega
    have zb : s2.size ≤ 30 := by omega
    have zb2 : 2 ≤ s2.size := by omega
    have na : (0 : Int) ≤ (s1.size : Int) - 4 := by omega
    have nb : (0 : Int) ≤ (s2.size : Int) - 2 := by omega
    have na' : (s1.size : Int) - 4 ≤ (s1.size : Int) := by omega
    have nb' : (s2.size : Int) - 2 ≤ (s2.size : Int) := by omega
    have ta : ((s1.size : Int) - 4).toNat = s1.size - 4 := by omega
    have tb : ((s2.size : Int) - 2).toNat = s2.size - 2 := by omega
    have c1 : (9223372036854775807 < 1 + (s1.extract 0 (s1.size - 4)).size) = False := eq_false (by omega)
    have c2 : (9223372036854775807 < 1 + (s2.extract 0 (s2.size - 2)).size) = False := eq_false (by omega)
    have c1' : (9223372036854775807 < 1 + (s1.size - 4)) = False := eq_false (by omega)
    have c2' : (9223372036854775807 < 1 + (s2.size - 2)) = False := eq_false (by omega)
    clear l1 l2 x1 x2 z1 z2 hs1 hs2 hA1 hA0
    clear l3 g3 hs3 z3 lA lM lP hA hM hP hx hy hz
    go_enter Tryd.func5, Tryd.ntmps5
    go_wp2_with fail
    refine (HW1.out _).mono ?_
    rintro e w1 ⟨rfl, hb1⟩
    go_wp2_with fail
    refine (HV1.out _).mono ?_
    rintro e w2 ⟨rfl, hb2⟩
    have HB2 := Lib.hid (hb1.trans (hb2.mono hb1.size))
    clear hb1 hb2
    go_wp2_with fail
    obtain ⟨w3, hw3, q1, q2, q3, hb3⟩ := three_new w2 (A : Int) (M : Int) (P : Int) (x : Int) (y : Int) (z : Int) ((A : Int) + 1) 0 0
    rw [← hw3]
    have HB3 := Lib.hid (HB2.out.trans (hb3.mono HB2.out.size))
    obtain ⟨b1, h1⟩ : ∃ b, b = w2.heap.size := ⟨_, rfl⟩
    obtain ⟨b2, h2⟩ : ∃ b, b = w2.heap.size + 1 := ⟨_, rfl⟩
    obtain ⟨b3, h3⟩ : ∃ b, b = w2.heap.size + 1 + 1 := ⟨_, rfl⟩
    rw [← h3] at q3
    rw [← h2] at q2
    rw [← h1] at q1
    rw [← h3, ← h2, ← h1]
    have Q1 := Lib.hid q1
    have Q2 := Lib.hid q2
    have Q3 := Lib.hid q3
    clear hw3 q1 q2 q3 hb3 h1 h2 h3
    have ltb1 := blk_lt Q1.out
    have b1c0 : ∀ q : Near w3.heap.size w3, q.W.cell? ⟨b1, 0, none⟩ = some (.int .u64 (A : Int)) := fun q => q.cell ltb1 Q1.out.cells.c0
    have b1c1 : ∀ q : Near w3.heap.size w3, q.W.cell? ⟨b1, 1, none⟩ = some (.int .u64 (M : Int)) := fun q => q.cell ltb1 Q1.out.cells.c1
    have b1c2 : ∀ q : Near w3.heap.size w3, q.W.cell? ⟨b1, 2, none⟩ = some (.int .u64 (P : Int)) := fun q => q.cell ltb1 Q1.out.cells.c2
    have b1c3 : ∀ q : Near w3.heap.size w3, q.W.cell? ⟨b1, 3, none⟩ = some (.string ⟨#[]⟩) := fun q => q.cell ltb1 Q1.out.cells.c3
    have b1c4 : ∀ q : Near w3.heap.size w3, q.W.cell? ⟨b1, 4, none⟩ = some (.string ⟨#[]⟩) := fun q => q.cell ltb1 Q1.out.cells.c4
    have ltb2 := blk_lt Q2.out
    have b2c0 : ∀ q : Near w3.heap.size w3, q.W.cell? ⟨b2, 0, none⟩ = some (.int .u64 (x : Int)) := fun q => q.cell ltb2 Q2.out.cells.c0
    have b2c1 : ∀ q : Near w3.heap.size w3, q.W.cell? ⟨b2, 1, none⟩ = some (.int .u64 (y : Int)) := fun q => q.cell ltb2 Q2.out.cells.c1
    have b2c2 : ∀ q : Near w3.heap.size w3, q.W.cell? ⟨b2, 2, none⟩ = some (.int .u64 (z : Int)) := fun q => q.cell ltb2 Q2.out.cells.c2
    have b2c3 : ∀ q : Near w3.heap.size w3, q.W.cell? ⟨b2, 3, none⟩ = some (.string ⟨#[]⟩) := fun q => q.cell ltb2 Q2.out.cells.c3
    have b2c4 : ∀ q : Near w3.heap.size w3, q.W.cell? ⟨b2, 4, none⟩ = some (.string ⟨#[]⟩) := fun q => q.cell ltb2 Q2.out.cells.c4
    have ltb3 := blk_lt Q3.out
    have b3c0 : ∀ q : Near w3.heap.size w3, q.W.cell? ⟨b3, 0, none⟩ = some (.int .u64 ((A : Int) + 1)) := fun q => q.cell ltb3 Q3.out.cells.c0
    have b3c1 : ∀ q : Near w3.heap.size w3, q.W.cell? ⟨b3, 1, none⟩ = some (.int .u64 0) := fun q => q.cell ltb3 Q3.out.cells.c1
    have b3c2 : ∀ q : Near w3.heap.size w3, q.W.cell? ⟨b3, 2, none⟩ = some (.int .u64 0) := fun q => q.cell ltb3 Q3.out.cells.c2
    have b3c3 : ∀ q : Near w3.heap.size w3, q.W.cell? ⟨b3, 3, none⟩ = some (.string ⟨#[]⟩) := fun q => q.cell ltb3 Q3.out.cells.c3
    have b3c4 : ∀ q : Near w3.heap.size w3, q.W.cell? ⟨b3, 4, none⟩ = some (.string ⟨#[]⟩) := fun q => q.cell ltb3 Q3.out.cells.c4
    have NT := Lib.hid (nearC w3 HT3.out)
    have NR := Lib.hid (nearC w3 HR3.out)
    have u0 : w3.cell? ⟨b1, 0, none⟩ = some (.int .u64 (A : Int)) := Q1.out.cells.c0
    clear ltb1 ltb2 ltb3
    go_upto_region 9 with fail
    clear u0
    refine wp_region_near w3.heap.size w3 (by kernel_rfl) (by kernel_rfl) (Below.refl _ _) ?_
    iterate 2 (go_big_quiet_step ((exact NT.out _)))
    repeat (go_big_quiet_step ((exact NR.out _)))
    refine wpQuiet_nil ?_
    intro w4 hw'
    obtain ⟨q_, hx_⟩ := hw'
    have hb_ : Below w3.heap.size w3 w4 := by rw [hx_]; exact q_.h
    have HB4 := Lib.hid (HB3.out.trans (hb_.mono HB3.out.size))
    have Q1_ := Lib.hid (Q1.out.below hb_)
    have Q2_ := Lib.hid (Q2.out.below hb_)
    have Q3_ := Lib.hid (Q3.out.below hb_)
    clear hx_ hb_ Q1 Q2 Q3 b1c0 b1c1 b1c2 b1c3 b1c4 b2c0 b2c1 b2c2 b2c3 b2c4 b3c0 b3c1 b3c2 b3c3 b3c4 NT NR
    have Q1 := Q1_
    have Q2 := Q2_
    have Q3 := Q3_
    clear Q1_ Q2_ Q3_
    have ltb1 := blk_lt Q1.out
    have b1c0 : ∀ q : Near w4.heap.size w4, q.W.cell? ⟨b1, 0, none⟩ = some (.int .u64 (A : Int)) := fun q => q.cell ltb1 Q1.out.cells.c0
    have b1c1 : ∀ q : Near w4.heap.size w4, q.W.cell? ⟨b1, 1, none⟩ = some (.int .u64 (M : Int)) := fun q => q.cell ltb1 Q1.out.cells.c1
    have b1c2 : ∀ q : Near w4.heap.size w4, q.W.cell? ⟨b1, 2, none⟩ = some (.int .u64 (P : Int)) := fun q => q.cell ltb1 Q1.out.cells.c2
    have b1c3 : ∀ q : Near w4.heap.size w4, q.W.cell? ⟨b1, 3, none⟩ = some (.string ⟨#[]⟩) := fun q => q.cell ltb1 Q1.out.cells.c3
    have b1c4 : ∀ q : Near w4.heap.size w4, q.W.cell? ⟨b1, 4, none⟩ = some (.string ⟨#[]⟩) := fun q => q.cell ltb1 Q1.out.cells.c4
    have ltb2 := blk_lt Q2.out
    have b2c0 : ∀ q : Near w4.heap.size w4, q.W.cell? ⟨b2, 0, none⟩ = some (.int .u64 (x : Int)) := fun q => q.cell ltb2 Q2.out.cells.c0
    have b2c1 : ∀ q : Near w4.heap.size w4, q.W.cell? ⟨b2, 1, none⟩ = some (.int .u64 (y : Int)) := fun q => q.cell ltb2 Q2.out.cells.c1
    have b2c2 : ∀ q : Near w4.heap.size w4, q.W.cell? ⟨b2, 2, none⟩ = some (.int .u64 (z : Int)) := fun q => q.cell ltb2 Q2.out.cells.c2
    have b2c3 : ∀ q : Near w4.heap.size w4, q.W.cell? ⟨b2, 3, none⟩ = some (.string ⟨#[]⟩) := fun q => q.cell ltb2 Q2.out.cells.c3
    have b2c4 : ∀ q : Near w4.heap.size w4, q.W.cell? ⟨b2, 4, none⟩ = some (.string ⟨#[]⟩) := fun q => q.cell ltb2 Q2.out.cells.c4
    have ltb3 := blk_lt Q3.out
    have b3c0 : ∀ q : Near w4.heap.size w4, q.W.cell? ⟨b3, 0, none⟩ = some (.int .u64 ((A : Int) + 1)) := fun q => q.cell ltb3 Q3.out.cells.c0
    have b3c1 : ∀ q : Near w4.heap.size w4, q.W.cell? ⟨b3, 1, none⟩ = some (.int .u64 0) := fun q => q.cell ltb3 Q3.out.cells.c1
    have b3c2 : ∀ q : Near w4.heap.size w4, q.W.cell? ⟨b3, 2, none⟩ = some (.int .u64 0) := fun q => q.cell ltb3 Q3.out.cells.c2
    have b3c3 : ∀ q : Near w4.heap.size w4, q.W.cell? ⟨b3, 3, none⟩ = some (.string ⟨#[]⟩) := fun q => q.cell ltb3 Q3.out.cells.c3
    have b3c4 : ∀ q : Near w4.heap.size w4, q.W.cell? ⟨b3, 4, none⟩ = some (.string ⟨#[]⟩) := fun q => q.cell ltb3 Q3.out.cells.c4
    have NT := Lib.hid (nearC w4 HT1.out)
    have NR := Lib.hid (nearC w4 HT2.out)
    have u0 : w4.cell? ⟨b1, 0, none⟩ = some (.int .u64 (A : Int)) := Q1.out.cells.c0
    clear ltb1 ltb2 ltb3
    go_upto_region 13 with fail
    clear u0
    refine wp_region_near w4.heap.size w4 (by kernel_rfl) (by kernel_rfl) (Below.refl _ _) ?_
    iterate 4 (go_big_quiet_step ((exact NT.out _)))
    repeat (go_big_quiet_step ((exact NR.out _)))
    refine wpQuiet_nil ?_
    intro w5 hw'
    obtain ⟨q_, hx_⟩ := hw'
    have hb_ : Below w4.heap.size w4 w5 := by rw [hx_]; exact q_.h
    have HB5 := Lib.hid (HB4.out.trans (hb_.mono HB4.out.size))
    have Q1_ := Lib.hid (Q1.out.below hb_)
    have Q2_ := Lib.hid (Q2.out.below hb_)
    have Q3_ := Lib.hid (Q3.out.below hb_)
    clear hx_ hb_ Q1 Q2 Q3 b1c0 b1c1 b1c2 b1c3 b1c4 b2c0 b2c1 b2c2 b2c3 b2c4 b3c0 b3c1 b3c2 b3c3 b3c4 NT NR
    have Q1 := Q1_
    have Q2 := Q2_
    have Q3 := Q3_
    clear Q1_ Q2_ Q3_
    have ltb1 := blk_lt Q1.out
    have b1c0 : ∀ q : Near w5.heap.size w5, q.W.cell? ⟨b1, 0, none⟩ = some (.int .u64 (A : Int)) := fun q => q.cell ltb1 Q1.out.cells.c0
    have b1c1 : ∀ q : Near w5.heap.size w5, q.W.cell? ⟨b1, 1, none⟩ = some (.int .u64 (M : Int)) := fun q => q.cell ltb1 Q1.out.cells.c1
    have b1c2 : ∀ q : Near w5.heap.size w5, q.W.cell? ⟨b1, 2, none⟩ = some (.int .u64 (P : Int)) := fun q => q.cell ltb1 Q1.out.cells.c2
    have b1c3 : ∀ q : Near w5.heap.size w5, q.W.cell? ⟨b1, 3, none⟩ = some (.string ⟨#[]⟩) := fun q => q.cell ltb1 Q1.out.cells.c3
    have b1c4 : ∀ q : Near w5.heap.size w5, q.W.cell? ⟨b1, 4, none⟩ = some (.string ⟨#[]⟩) := fun q => q.cell ltb1 Q1.out.cells.c4
    have ltb2 := blk_lt Q2.out
    have b2c0 : ∀ q : Near w5.heap.size w5, q.W.cell? ⟨b2, 0, none⟩ = some (.int .u64 (x : Int)) := fun q => q.cell ltb2 Q2.out.cells.c0
    have b2c1 : ∀ q : Near w5.heap.size w5, q.W.cell? ⟨b2, 1, none⟩ = some (.int .u64 (y : Int)) := fun q => q.cell ltb2 Q2.out.cells.c1
    have b2c2 : ∀ q : Near w5.heap.size w5, q.W.cell? ⟨b2, 2, none⟩ = some (.int .u64 (z : Int)) := fun q => q.cell ltb2 Q2.out.cells.c2
    have b2c3 : ∀ q : Near w5.heap.size w5, q.W.cell? ⟨b2, 3, none⟩ = some (.string ⟨#[]⟩) := fun q => q.cell ltb2 Q2.out.cells.c3
    have b2c4 : ∀ q : Near w5.heap.size w5, q.W.cell? ⟨b2, 4, none⟩ = some (.string ⟨#[]⟩) := fun q => q.cell ltb2 Q2.out.cells.c4
    have ltb3 := blk_lt Q3.out
    have b3c0 : ∀ q : Near w5.heap.size w5, q.W.cell? ⟨b3, 0, none⟩ = some (.int .u64 ((A : Int) + 1)) := fun q => q.cell ltb3 Q3.out.cells.c0
    have b3c1 : ∀ q : Near w5.heap.size w5, q.W.cell? ⟨b3, 1, none⟩ = some (.int .u64 0) := fun q => q.cell ltb3 Q3.out.cells.c1
    have b3c2 : ∀ q : Near w5.heap.size w5, q.W.cell? ⟨b3, 2, none⟩ = some (.int .u64 0) := fun q => q.cell ltb3 Q3.out.cells.c2
    have b3c3 : ∀ q : Near w5.heap.size w5, q.W.cell? ⟨b3, 3, none⟩ = some (.string ⟨#[]⟩) := fun q => q.cell ltb3 Q3.out.cells.c3
    have b3c4 : ∀ q : Near w5.heap.size w5, q.W.cell? ⟨b3, 4, none⟩ = some (.string ⟨#[]⟩) := fun q => q.cell ltb3 Q3.out.cells.c4
    have NT := Lib.hid (nearC w5 HR2.out)
    have NR := Lib.hid (nearC w5 HR1.out)
    have u0 : w5.cell? ⟨b1, 0, none⟩ = some (.int .u64 (A : Int)) := Q1.out.cells.c0
    clear ltb1 ltb2 ltb3
    go_upto_region 14 with fail
    clear u0
    refine wp_region_near w5.heap.size w5 (by kernel_rfl) (by kernel_rfl) (Below.refl _ _) ?_
    iterate 14 (go_big_quiet_step ((exact NT.out _)))
    repeat (go_big_quiet_step ((exact NR.out _)))
    refine wpQuiet_nil ?_
    intro w6 hw'
    obtain ⟨q_, hx_⟩ := hw'
    have hb_ : Below w5.heap.size w5 w6 := by rw [hx_]; exact q_.h
    have HB6 := Lib.hid (HB5.out.trans (hb_.mono HB5.out.size))
    have Q1_ := Lib.hid (Q1.out.below hb_)
    have Q2_ := Lib.hid (Q2.out.below hb_)
    have Q3_ := Lib.hid (Q3.out.below hb_)
    clear hx_ hb_ Q1 Q2 Q3 b1c0 b1c1 b1c2 b1c3 b1c4 b2c0 b2c1 b2c2 b2c3 b2c4 b3c0 b3c1 b3c2 b3c3 b3c4 NT NR
    have Q1 := Q1_
    have Q2 := Q2_
    have Q3 := Q3_
    clear Q1_ Q2_ Q3_
    go_wp2_with fail
    go_ret
    exact ⟨rfl, HB6.out⟩
end Go.Proofs.YtmoilbhkjmhoaaaDoor.PFnRangeCaret
