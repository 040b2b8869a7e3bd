/- FnCastReal: the law's walk. -/
import Derived.Test.YtakogidcjjmihaaGreatDoorRCast
namespace Go.Proofs.YtakogidcjjmihaaGreatDoor.Pure
/-- Nothing more is asked. -/
theorem FnCastReal : True := trivial
end Go.Proofs.YtakogidcjjmihaaGreatDoor.Pure
namespace Go.Proofs.YtakogidcjjmihaaGreatDoor.PFnCastReal
open Go.RowKit Ieee Go.Proofs.YtakogidcjjmihaaGreatDoorW.PrintWords Go.Proofs.YtakogidcjjmihaaGreatDoor.Txt Go.Proofs.YtakogidcjjmihaaGreatDoor.Re
set_option linter.unusedVariables false
set_option linter.unusedSimpArgs false
set_option maxRecDepth 100000
theorem int_of {x : Nat} {s : Bool} {k : Nat} (hk : k < 9007199254740992) (h : (FloatKind.f64.decode x).toInt .zero = some (signed s k 0)) : floatToIntVal .f64 x .i64 = some (signed s k 0) := by
  unfold floatToIntVal
  rw [h]
  have e1 : IntKind.i64.min = -9223372036854775808 := by decide
  have e2 : IntKind.i64.max = 9223372036854775807 := by decide
  have e3 : signed s k 0 = if s then -(k : Int) else (k : Int) := by unfold signed; rw [Nat.shiftLeft_zero]
  simp only
  rw [if_pos]
  rw [e1, e2, e3]
  split <;> omega
theorem int_cut {x : Nat} {s : Bool} {k : Nat} (h : (FloatKind.f64.decode x).integral .zero = .number s k 0) : (FloatKind.f64.decode x).toInt .zero = some (signed s k 0) := by
  unfold Datum.toInt; rw [h]
set_option maxHeartbeats 4000000 in
theorem laws_FnCastReal.walk (_P : True) (a0 : Nat) (w : World) (w0 : (Lit.float .f64 a0).wf = true) :
    Calls Tryz.prog 4 #[.float .f64 a0] w fun e w' => e = .returned (.bool true) ∧ Below w.heap.size w w' := by
  have hx : a0 < 18446744073709551616 := by simpa [Lit.wf] using w0
  have HNAN := Lib.hid (isNaN_walk a0)
  have HABS := Lib.hid (abs_walk a0 hx)
  cases hn : (FloatKind.f64.format.order a0 a0 == some .eq) with
  | false =>
    rw [hn] at HNAN
    clear hx w0
    go_enter Tryz.func4, Tryz.ntmps4
    go_wp2_with fail
    refine (HNAN.out _).mono ?_
    rintro e w1 ⟨rfl, rfl⟩
    go_wp2_with fail
    go_ret
    exact ⟨rfl, Below.refl _ _⟩
  | true =>
  rw [hn] at HNAN
  clear w0
  cases hg1 : (FloatKind.f64.format.order (a0 % 9223372036854775808) 4845873199050653696 == some .gt) with
  | true =>
    clear hx
    go_enter Tryz.func4, Tryz.ntmps4
    go_wp2_with fail
    refine (HNAN.out _).mono ?_
    rintro e w1 ⟨rfl, rfl⟩
    go_wp2_with fail
    refine (HABS.out _).mono ?_
    rintro e w1 ⟨rfl, rfl⟩
    go_wp2_with fail
    go_ret
    exact ⟨rfl, Below.refl _ _⟩
  | false =>
  cases hg2 : (FloatKind.f64.format.order (a0 % 9223372036854775808) 4845873199050653696 == some .eq) with
  | true =>
    clear hx
    go_enter Tryz.func4, Tryz.ntmps4
    go_wp2_with fail
    refine (HNAN.out _).mono ?_
    rintro e w1 ⟨rfl, rfl⟩
    go_wp2_with fail
    refine (HABS.out _).mono ?_
    rintro e w1 ⟨rfl, rfl⟩
    go_wp2_with fail
    go_ret
    exact ⟨rfl, Below.refl _ _⟩
  | false =>
  have hnn : (FloatKind.f64.decode a0).isNaN = false := by
    cases hd : FloatKind.f64.decode a0 with
    | nan s t =>
      unfold Format.order at hn
      rw [show FloatKind.f64.format.read a0 = FloatKind.f64.decode a0 from rfl, hd] at hn
      simp [Datum.order] at hn
    | _ => rfl
  obtain ⟨s, k, hk, hint⟩ := small_of a0 hx hnn (fun h => by rw [show b53 = 4845873199050653696 from rfl] at h; rw [h] at hg1; simp at hg1) (fun h => by rw [show b53 = 4845873199050653696 from rfl] at h; rw [h] at hg2; simp at hg2)
  obtain ⟨n, hnd⟩ : ∃ n, n = signed s k 0 := ⟨_, rfl⟩
  have hnr : -9223372036854775808 ≤ n ∧ n < 9223372036854775808 := by
    have e3 : signed s k 0 = if s then -(k : Int) else (k : Int) := by unfold signed; rw [Nat.shiftLeft_zero]
    rw [hnd, e3]
    split <;> omega
  have hi1 : floatToIntVal .f64 a0 .i64 = some n := by rw [hnd]; exact int_of hk (int_cut hint)
  have hi2 : floatToIntVal .f64 (FloatKind.f64.encode (.number s k 0)) .i64 = some n := by rw [hnd]; exact int_of hk (whole_again s k hk)
  have hi3 : floatToIntVal .f64 4612811918334230528 .i64 = some 2 := by decide
  have hwn := Pu.i64w n hnr.1 hnr.2
  obtain ⟨y, hy⟩ : ∃ y, y = FloatKind.f64.encode (.number s k 0) := ⟨_, rfl⟩
  have HTR := Lib.hid (trunc_walk a0 s k hint)
  rw [← hy] at hi2 HTR
  have hcv : ∀ W, (convert 25 2 (.float .f64 y)).run Tryz.prog W = .ok (.int .i64 n) W := fun W => run_convert_float_int W _ _ _ _ y n (by kernel_rfl) Tryz.underlying2 hi2
  have HI := Lib.hid (implTo_int a0 n hi1 hwn)
  have HI64 := Lib.hid (implTo_int64 a0 n hi1 hwn)
  have HFL := Lib.hid (implTo_float64 a0 trivial)
  have HI2 := Lib.hid (implTo_int 4612811918334230528 2 hi3 (by decide))
  have hsf : ∀ (W : World) (a : Addr), (store a (.float .f64 a0)).run Tryz.prog W = stored Tryz.prog W a (.float .f64 a0) .plain := fun W a => run_store _ W a _ _ rfl
  clear hi1 hi2 hi3 hnd hnr hint hk hnn hx hy hwn
  go_enter Tryz.func4, Tryz.ntmps4
  go_wp2_with fail
  refine (HNAN.out _).mono ?_
  rintro e w1 ⟨rfl, rfl⟩
  go_wp2_with fail
  refine (HABS.out _).mono ?_
  rintro e w1 ⟨rfl, rfl⟩
  go_wp2_with fail
  refine (HTR.out _).mono ?_
  rintro e w2 ⟨rfl, rfl⟩
  have HB2 : Hid (Below w1.heap.size w1 (w1.alloc (.cells #[.int .i64 4, .int .i64 0, .float .f64 a0, .string ⟨#[]⟩, .slice none 0 0, .slice none 0 0] 29))) := Lib.hid ((Below.refl _ _).alloc (Nat.le_refl _) _)
  go_wp2_with fail
  refine (HI.out _).mono ?_
  rintro e w3 ⟨rfl, hb3⟩
  have HB3 : Hid (Below w1.heap.size w1 w3) := Lib.hid (HB2.out.trans (hb3.mono HB2.out.size))
  have k0 : w3.cell? ⟨w1.heap.size, 0, none⟩ = some (.int .i64 4) := (hb3.cell (p := ⟨w1.heap.size, 0, none⟩) (by simp)).trans (by simp)
  have k1 : w3.cell? ⟨w1.heap.size, 1, none⟩ = some (.int .i64 0) := (hb3.cell (p := ⟨w1.heap.size, 1, none⟩) (by simp)).trans (by simp)
  have k2 : w3.cell? ⟨w1.heap.size, 2, none⟩ = some (.float .f64 a0) := (hb3.cell (p := ⟨w1.heap.size, 2, none⟩) (by simp)).trans (by simp)
  have k3 : w3.cell? ⟨w1.heap.size, 3, none⟩ = some (.string ⟨#[]⟩) := (hb3.cell (p := ⟨w1.heap.size, 3, none⟩) (by simp)).trans (by simp)
  have k4 : w3.cell? ⟨w1.heap.size, 4, none⟩ = some (.slice none 0 0) := (hb3.cell (p := ⟨w1.heap.size, 4, none⟩) (by simp)).trans (by simp)
  have k5 : w3.cell? ⟨w1.heap.size, 5, none⟩ = some (.slice none 0 0) := (hb3.cell (p := ⟨w1.heap.size, 5, none⟩) (by simp)).trans (by simp)
  have HC3 : Hid (∀ W, Below w3.heap.size w3 W → W.heap.size ≥ w3.heap.size ∧ True) := Lib.hid fun W h => ⟨h.size, trivial⟩
  have hlt : w1.heap.size < w3.heap.size := by have := hb3.size; rw [World.size_alloc] at this; omega
  clear hb3
  go_wp2_with fail
  refine (HI64.out _).mono ?_
  rintro e w4 ⟨rfl, hb4⟩
  have HB4 : Hid (Below w1.heap.size w1 w4) := Lib.hid (HB3.out.trans (hb4.mono HB3.out.size))
  have m0 : w4.cell? ⟨w1.heap.size, 0, none⟩ = some (.int .i64 4) := (hb4.cell (p := ⟨w1.heap.size, 0, none⟩) hlt).trans k0
  have m1 : w4.cell? ⟨w1.heap.size, 1, none⟩ = some (.int .i64 0) := (hb4.cell (p := ⟨w1.heap.size, 1, none⟩) hlt).trans k1
  have m2 : w4.cell? ⟨w1.heap.size, 2, none⟩ = some (.float .f64 a0) := (hb4.cell (p := ⟨w1.heap.size, 2, none⟩) hlt).trans k2
  have m3 : w4.cell? ⟨w1.heap.size, 3, none⟩ = some (.string ⟨#[]⟩) := (hb4.cell (p := ⟨w1.heap.size, 3, none⟩) hlt).trans k3
  have m4 : w4.cell? ⟨w1.heap.size, 4, none⟩ = some (.slice none 0 0) := (hb4.cell (p := ⟨w1.heap.size, 4, none⟩) hlt).trans k4
  have m5 : w4.cell? ⟨w1.heap.size, 5, none⟩ = some (.slice none 0 0) := (hb4.cell (p := ⟨w1.heap.size, 5, none⟩) hlt).trans k5
  clear hb4 hlt k0 k1 k2 k3 k4 k5 HC3
  go_wp2_with fail
  refine (HFL.out _).mono ?_
  rintro e w5 ⟨rfl, hb5⟩
  have HB5 : Hid (Below w1.heap.size w1 w5) := Lib.hid (HB4.out.trans (hb5.mono HB4.out.size))
  clear hb5 m0 m1 m2 m3 m4 m5
  go_wp2_with fail
  refine (HI2.out _).mono ?_
  rintro e w6 ⟨rfl, hb6⟩
  have HB6 : Hid (Below w1.heap.size w1 w6) := Lib.hid (HB5.out.trans (hb6.mono HB5.out.size))
  clear hb6
  go_wp2_with fail
  go_ret
  exact ⟨rfl, HB6.out⟩
end Go.Proofs.YtakogidcjjmihaaGreatDoor.PFnCastReal
