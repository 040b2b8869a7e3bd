/- FnRangeShort: a version without its last number, or its last two, stands for all that begin so: the law's walk. -/
import Derived.Test.YtmoilbhkjmhoaaaDoorMF
namespace Go.Proofs.YtmoilbhkjmhoaaaDoor.Pure
/-- Nothing more is asked. -/
theorem FnRangeShort : True := trivial
end Go.Proofs.YtmoilbhkjmhoaaaDoor.Pure
namespace Go.Proofs.YtmoilbhkjmhoaaaDoor.PFnRangeShort
open Go.RowKit Go.Proofs.YtmoilbhkjmhoaaaDoor.Vals Go.Proofs.YtmoilbhkjmhoaaaDoorW.PrintWords Go.Proofs.YtmoilbhkjmhoaaaDoor.Txt Go.Proofs.YtmoilbhkjmhoaaaDoor Go.Proofs.YtmoilbhkjmhoaaaDoor.Sv
set_option linter.unusedVariables false
set_option linter.unusedSimpArgs false
set_option maxRecDepth 20000
theorem u16_mod {a : Int} (h : (Lit.int .u16 a).wf = true) : ∃ A : Nat, A < 1000 ∧ IntKind.u64.wrap (a.tmod 1000) = (A : Int) := by
  obtain ⟨n, rfl, hn⟩ := u16_nat h
  exact ⟨n % 1000, by omega, by rw [tmod_nat, wrap64u _ (by omega)]⟩
set_option maxHeartbeats 4000000 in
theorem laws_FnRangeShort.walk (_P : True) (a0 a1 a2 a3 a4 : Int) (w : World) (w0 : (Lit.int .u16 a0).wf = true) (w1 : (Lit.int .u16 a1).wf = true) (w2 : (Lit.int .u16 a2).wf = true) (w3 : (Lit.int .u16 a3).wf = true) (w4 : (Lit.int .u16 a4).wf = true) :
    Calls Tryd.prog 6 #[.int .u16 a0, .int .u16 a1, .int .u16 a2, .int .u16 a3, .int .u16 a4] w fun e w' => e = .returned (.bool true) ∧ Below w.heap.size w w' := by
  obtain ⟨x, y, z, hx, hy, hz, HV⟩ := v16_call a2 a3 a4 w2 w3 w4
  obtain ⟨A, hA, hAm⟩ := u16_mod w0
  obtain ⟨B, hB, hBm⟩ := u16_mod w1
  have HV1 := Lib.hid HV
  obtain ⟨s1, hs1⟩ : ∃ s, s = text3 A 0 0 := ⟨_, rfl⟩
  obtain ⟨s2, hs2⟩ : ∃ s, s = text3 A B 0 := ⟨_, rfl⟩
  have z1 : s1.size = (Lib.decDigits A).length + 4 := by rw [hs1, text3_size, dec0]; simp
  have z2 : s2.size = (Lib.decDigits A).length + (Lib.decDigits B).length + 3 := by rw [hs2, text3_size, dec0]; simp <;> omega
  have lA := dec9 (n := A) (by omega)
  have lB := dec9 (n := B) (by omega)
  have l1 : (s1.extract 0 (s1.size - 4)).toList = (cn1 [] A).text := by
    rw [tl_extract, z1, hs1, text3_list]; simp [cn1, Cn.text, Cn.vt, sg]
  have l2 : (s2.extract 0 (s2.size - 2)).toList = (cn2 [] A B).text := by
    rw [tl_extract, z2, hs2, text3_list, List.drop_zero, Nat.sub_zero, dec0]
    have e2 : Lib.decDigits A ++ 46 :: (Lib.decDigits B ++ [46, 48]) = (Lib.decDigits A ++ 46 :: Lib.decDigits B) ++ [46, 48] := by simp
    rw [e2, List.take_left' (by simp <;> omega)]
    unfold cn2 Cn.text Cn.vt
    simp [sg_dec, sg, dec_ne]
  have HT1 : Hid (∀ W, Calls Tryd.prog 9 #[.agg #[.int .u64 (A : Int), .int .u64 0, .int .u64 0, .string ⟨#[]⟩, .string ⟨#[]⟩]] W fun e w' => e = .returned (.string s1) ∧ Below W.heap.size W w') := Lib.hid fun W => by rw [hs1]; exact textOf_walk A 0 0 (by omega) (by decide) (by decide) W
  have HT2 : Hid (∀ W, Calls Tryd.prog 9 #[.agg #[.int .u64 (A : Int), .int .u64 (B : Int), .int .u64 0, .string ⟨#[]⟩, .string ⟨#[]⟩]] W fun e w' => e = .returned (.string s2) ∧ Below W.heap.size W w') := Lib.hid fun W => by rw [hs2]; exact textOf_walk A B 0 (by omega) (by omega) (by decide) W
  have HR1 : Hid (∀ W, Calls Tryd.prog 14 #[.string (s1.extract 0 (s1.size - 4)), .agg #[.int .u64 (x : Int), .int .u64 (y : Int), .int .u64 (z : Int), .string ⟨#[]⟩, .string ⟨#[]⟩], .agg #[.int .u64 (A : Int), .int .u64 0, .int .u64 0, .string ⟨#[]⟩, .string ⟨#[]⟩], .agg #[.int .u64 ((A : Int) + 1), .int .u64 0, .int .u64 0, .string ⟨#[]⟩, .string ⟨#[]⟩]] W fun e w' => e = .returned (.bool true) ∧ Below W.heap.size W w') := Lib.hid fun W => by
    have := ranged_walk (s1.extract 0 (s1.size - 4)) x y z (by omega) (by omega) (by omega) A 0 0 (A + 1) 0 0 (by omega) _ W (fun W2 => compare_one _ (cn1 [] A) (cn1_ok (by decide) A) (cn1_small (by omega)) ⟨(show ([] : List UInt8) ∈ opsLL by decide), .inr (.inl rfl)⟩ (by rw [size_extract _ _ _ (Nat.zero_le _) (by omega)]; omega) l1 x y z (by omega) (by omega) (by omega) W2)
    rw [short1 x y z A] at this
    exact this
  have HR2 : Hid (∀ W, Calls Tryd.prog 14 #[.string (s2.extract 0 (s2.size - 2)), .agg #[.int .u64 (x : Int), .int .u64 (y : Int), .int .u64 (z : Int), .string ⟨#[]⟩, .string ⟨#[]⟩], .agg #[.int .u64 (A : Int), .int .u64 (B : Int), .int .u64 0, .string ⟨#[]⟩, .string ⟨#[]⟩], .agg #[.int .u64 (A : Int), .int .u64 ((B : Int) + 1), .int .u64 0, .string ⟨#[]⟩, .string ⟨#[]⟩]] W fun e w' => e = .returned (.bool true) ∧ Below W.heap.size W w') := Lib.hid fun W => by
    have := ranged_walk (s2.extract 0 (s2.size - 2)) x y z (by omega) (by omega) (by omega) A B 0 A (B + 1) 0 (by omega) _ W (fun W2 => compare_one _ (cn2 [] A B) (cn2_ok (by decide) A B) (cn2_small (by omega) (by omega)) ⟨(show ([] : List UInt8) ∈ opsLL by decide), .inr (.inl rfl)⟩ (by rw [size_extract _ _ _ (Nat.zero_le _) (by omega)]; omega) l2 x y z (by omega) (by omega) (by omega) W2)
    rw [short2 x y z A B] at this
    exact this
  have za : s1.size ≤ 20 := by omega
  have za4 : 4 ≤ s1.size := by omega
  have zb : s2.size ≤ 30 := by omega
  have zb2 : 2 ≤ s2.size := by omega
  have na : (0 : Int) ≤ (s1.size : Int) - 4 := by omega
  have nb : (0 : Int) ≤ (s2.size : Int) - 2 := by omega
  have na' : (s1.size : Int) - 4 ≤ (s1.size : Int) := by omega
  have nb' : (s2.size : Int) - 2 ≤ (s2.size : Int) := by omega
  have ta : ((s1.size : Int) - 4).toNat = s1.size - 4 := by omega
  have tb : ((s2.size : Int) - 2).toNat = s2.size - 2 := by omega
  have wa : IntKind.u64.wrap ((A : Int) + 1) = (A : Int) + 1 := wrap64u (A + 1) (by omega)
  have wb : IntKind.u64.wrap ((B : Int) + 1) = (B : Int) + 1 := wrap64u (B + 1) (by omega)
  clear HV w2 w3 w4 w0 w1 hs1 hs2 z1 z2 lA lB l1 l2 hx hy hz hA hB
  go_enter Tryd.func6, Tryd.ntmps6
  go_wp2_with fail
  refine (HV1.out _).mono ?_
  rintro e w1 ⟨rfl, hb1⟩
  have q1 : Five (w1.alloc (.cells #[.int .u64 (x : Int), .int .u64 (y : Int), .int .u64 (z : Int), .string ⟨#[]⟩, .string ⟨#[]⟩] 26)) w1.heap.size x y z := heap_alloc_new w1 _
  have HB1 : Hid (Below w.heap.size w (w1.alloc (.cells #[.int .u64 (x : Int), .int .u64 (y : Int), .int .u64 (z : Int), .string ⟨#[]⟩, .string ⟨#[]⟩] 26))) := Lib.hid (hb1.alloc hb1.size _)
  have Q1 := Lib.hid q1
  clear q1 hb1
  go_wp2_with fail
  refine (HT1.out _).mono ?_
  rintro e w2 ⟨rfl, hb2⟩
  have HB2 := Lib.hid (HB1.out.trans (hb2.mono HB1.out.size))
  have Q2 := Lib.hid (Q1.out.below hb2)
  clear hb2
  go_wp2_with fail
  refine (HT2.out _).mono ?_
  rintro e w3 ⟨rfl, hb3⟩
  have HB3 := Lib.hid (HB2.out.trans (hb3.mono HB2.out.size))
  have Q3 := Lib.hid (Q2.out.below hb3)
  clear hb3
  obtain ⟨bv, hbv⟩ : ∃ bv, bv = w1.heap.size := ⟨_, rfl⟩
  rw [← hbv] at Q3 ⊢
  clear hbv Q1 Q2 HB1 HB2
  have hlt := blk_lt Q3.out
  have k0 : ∀ q : Near w3.heap.size w3, q.W.cell? ⟨bv, 0, none⟩ = some (.int .u64 (x : Int)) := fun q => q.cell hlt Q3.out.cells.c0
  have k1 : ∀ q : Near w3.heap.size w3, q.W.cell? ⟨bv, 1, none⟩ = some (.int .u64 (y : Int)) := fun q => q.cell hlt Q3.out.cells.c1
  have k2 : ∀ q : Near w3.heap.size w3, q.W.cell? ⟨bv, 2, none⟩ = some (.int .u64 (z : Int)) := fun q => q.cell hlt Q3.out.cells.c2
  have k3 : ∀ q : Near w3.heap.size w3, q.W.cell? ⟨bv, 3, none⟩ = some (.string ⟨#[]⟩) := fun q => q.cell hlt Q3.out.cells.c3
  have k4 : ∀ q : Near w3.heap.size w3, q.W.cell? ⟨bv, 4, none⟩ = some (.string ⟨#[]⟩) := fun q => q.cell hlt Q3.out.cells.c4
  have N1 : Hid (∀ q : Near w3.heap.size w3, Calls Tryd.prog 14 #[.string (s1.extract 0 (s1.size - 4)), .agg #[.int .u64 (x : Int), .int .u64 (y : Int), .int .u64 (z : Int), .string ⟨#[]⟩, .string ⟨#[]⟩], .agg #[.int .u64 (A : Int), .int .u64 0, .int .u64 0, .string ⟨#[]⟩, .string ⟨#[]⟩], .agg #[.int .u64 ((A : Int) + 1), .int .u64 0, .int .u64 0, .string ⟨#[]⟩, .string ⟨#[]⟩]] q.W fun e w' => e = .returned (.bool true) ∧ ∃ y : Near w3.heap.size w3, w' = y.W) := Lib.hid fun q => (HR1.out q.W).mono fun e w' ⟨he, hB⟩ => ⟨he, q.of hB (Nat.le_refl _)⟩
  have N2 : Hid (∀ q : Near w3.heap.size w3, Calls Tryd.prog 14 #[.string (s2.extract 0 (s2.size - 2)), .agg #[.int .u64 (x : Int), .int .u64 (y : Int), .int .u64 (z : Int), .string ⟨#[]⟩, .string ⟨#[]⟩], .agg #[.int .u64 (A : Int), .int .u64 (B : Int), .int .u64 0, .string ⟨#[]⟩, .string ⟨#[]⟩], .agg #[.int .u64 (A : Int), .int .u64 ((B : Int) + 1), .int .u64 0, .string ⟨#[]⟩, .string ⟨#[]⟩]] q.W fun e w' => e = .returned (.bool true) ∧ ∃ y : Near w3.heap.size w3, w' = y.W) := Lib.hid fun q => (HR2.out q.W).mono fun e w' ⟨he, hB⟩ => ⟨he, q.of hB (Nat.le_refl _)⟩
  clear HR1 HR2 HT1 HT2 HV1 hlt
  go_upto_region 4 with fail
  refine wp_region_near w3.heap.size w3 (by kernel_rfl) (by kernel_rfl) (Below.refl _ _) ?_
  iterate 14 (go_big_quiet_step ((exact N2.out _)))
  repeat (go_big_quiet_step ((exact N1.out _)))
  refine wpQuiet_nil ?_
  intro w4 hw'
  obtain ⟨q_, hx_⟩ := hw'
  have hb_ : Below w3.heap.size w3 w4 := by rw [hx_]; exact q_.h
  have HB4 := Lib.hid (HB3.out.trans (hb_.mono HB3.out.size))
  clear hx_ hb_ k0 k1 k2 k3 k4 N1 N2
  go_wp2_with fail
  go_ret
  exact ⟨rfl, HB4.out⟩
end Go.Proofs.YtmoilbhkjmhoaaaDoor.PFnRangeShort
