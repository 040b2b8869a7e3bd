/- A real as an int, an int64 and a float64, by cast. Printed by gen_rcast.py. -/
import Derived.Test.YtakogidcjjmihaaGreatDoorRealW
namespace Go.Proofs.YtakogidcjjmihaaGreatDoor.Re
open Go.RowKit Ieee Go.Proofs.YtakogidcjjmihaaGreatDoorW.PrintWords Go.Proofs.YtakogidcjjmihaaGreatDoor.Txt
set_option linter.unusedVariables false
set_option linter.unusedSimpArgs false
set_option maxRecDepth 100000
/-- A real as data. -/
abbrev reV (x : Nat) : Value := .agg #[.int .i64 4, .int .i64 0, .float .f64 x, .string ⟨#[]⟩, .slice none 0 0, .slice none 0 0]
theorem goOf_re (x : Nat) (w : World) :
    Calls Tryz.prog 12 #[reV x] w fun e w' => e = .returned (.tuple #[.iface 25 (.float .f64 x), .bool true]) ∧ Below w.heap.size w w' := by
  have hb := (Below.refl w.heap.size w).alloc (Nat.le_refl _) (.cells #[.int .i64 4, .int .i64 0, .float .f64 x, .string ⟨#[]⟩, .slice none 0 0, .slice none 0 0] 29)
  have HB := Lib.hid hb
  clear hb
  go_enter Tryz.func12, Tryz.ntmps12
  go_wp2_with fail
  go_ret2
  exact ⟨rfl, HB.out⟩
theorem toNumber_int (x : Nat) (n : Int) (h : floatToIntVal .f64 x .i64 = some n) (w : World) :
    Calls Tryz.prog 72 #[.iface 25 (.float .f64 x)] w fun e w' => e = .returned (.tuple #[.int .i64 n, .bool true]) ∧ w' = w := by
  have hta0 : ∀ w, (Instr.typeAssert (.iface 25 (.float .f64 x)) 20 3 true).run Tryz.prog w = .ok (.tuple #[.int .i64 0, .bool false]) w := fun w => by kernel_rfl
  have hta1 : ∀ w, (Instr.typeAssert (.iface 25 (.float .f64 x)) 20 136 true).run Tryz.prog w = .ok (.tuple #[.int .i8 0, .bool false]) w := fun w => by kernel_rfl
  have hta2 : ∀ w, (Instr.typeAssert (.iface 25 (.float .f64 x)) 20 137 true).run Tryz.prog w = .ok (.tuple #[.int .i16 0, .bool false]) w := fun w => by kernel_rfl
  have hta3 : ∀ w, (Instr.typeAssert (.iface 25 (.float .f64 x)) 20 21 true).run Tryz.prog w = .ok (.tuple #[.int .i32 0, .bool false]) w := fun w => by kernel_rfl
  have hta4 : ∀ w, (Instr.typeAssert (.iface 25 (.float .f64 x)) 20 2 true).run Tryz.prog w = .ok (.tuple #[.int .i64 0, .bool false]) w := fun w => by kernel_rfl
  have hta5 : ∀ w, (Instr.typeAssert (.iface 25 (.float .f64 x)) 20 48 true).run Tryz.prog w = .ok (.tuple #[.int .u64 0, .bool false]) w := fun w => by kernel_rfl
  have hta6 : ∀ w, (Instr.typeAssert (.iface 25 (.float .f64 x)) 20 5 true).run Tryz.prog w = .ok (.tuple #[.int .u8 0, .bool false]) w := fun w => by kernel_rfl
  have hta7 : ∀ w, (Instr.typeAssert (.iface 25 (.float .f64 x)) 20 138 true).run Tryz.prog w = .ok (.tuple #[.int .u16 0, .bool false]) w := fun w => by kernel_rfl
  have hta8 : ∀ w, (Instr.typeAssert (.iface 25 (.float .f64 x)) 20 108 true).run Tryz.prog w = .ok (.tuple #[.int .u32 0, .bool false]) w := fun w => by kernel_rfl
  have hta9 : ∀ w, (Instr.typeAssert (.iface 25 (.float .f64 x)) 20 22 true).run Tryz.prog w = .ok (.tuple #[.int .u64 0, .bool false]) w := fun w => by kernel_rfl
  have hta10 : ∀ w, (Instr.typeAssert (.iface 25 (.float .f64 x)) 20 90 true).run Tryz.prog w = .ok (.tuple #[.float .f32 0, .bool false]) w := fun w => by kernel_rfl
  have hta : ∀ w, (Instr.typeAssert (.iface 25 (.float .f64 x)) 20 25 true).run Tryz.prog w = .ok (.tuple #[.float .f64 x, .bool true]) w := fun w => by kernel_rfl
  have hcv : ∀ W, (convert 25 3 (.float .f64 x)).run Tryz.prog W = .ok (.int .i64 n) W := fun W => run_convert_float_int W _ _ _ _ x n (by kernel_rfl) Tryz.underlying3 h
  clear h
  go_enter Tryz.func72, Tryz.ntmps72
  go_wp2_with fail
  go_ret2
  exact ⟨rfl, rfl⟩
theorem toNumE_int (x : Nat) (n : Int) (h : floatToIntVal .f64 x .i64 = some n) (w : World) :
    Calls Tryz.prog 54 #[.iface 25 (.float .f64 x), .func (.func 55) #[] #[]] w fun e w' => e = .returned (.tuple #[.int .i64 n, .nilIface]) ∧ w' = w := by
  have HI := Lib.hid (toNumber_int x n h w)
  clear h
  go_enter Tryz.func54, Tryz.ntmps54
  go_wp2_with fail
  refine HI.out.mono ?_
  rintro e w1 ⟨rfl, rfl⟩
  go_wp2_with fail
  go_ret2
  exact ⟨rfl, rfl⟩
theorem toE_int (x : Nat) (n : Int) (h : floatToIntVal .f64 x .i64 = some n) (w : World) :
    Calls Tryz.prog 41 #[.iface 25 (.float .f64 x)] w fun e w' => e = .returned (.tuple #[.int .i64 n, .nilIface]) ∧ w' = w := by
  have HI := Lib.hid (toNumE_int x n h w)
  clear h
  go_enter Tryz.func41, Tryz.ntmps41
  go_wp2_with fail
  refine HI.out.mono ?_
  rintro e w1 ⟨rfl, rfl⟩
  go_wp2_with fail
  go_ret2
  exact ⟨rfl, rfl⟩
theorem to_int (x : Nat) (n : Int) (h : floatToIntVal .f64 x .i64 = some n) (w : World) :
    Calls Tryz.prog 30 #[.iface 25 (.float .f64 x)] w fun e w' => e = .returned (.int .i64 n) ∧ w' = w := by
  have HI := Lib.hid (toE_int x n h w)
  clear h
  go_enter Tryz.func30, Tryz.ntmps30
  go_wp2_with fail
  refine HI.out.mono ?_
  rintro e w1 ⟨rfl, rfl⟩
  go_wp2_with fail
  go_ret
  exact ⟨rfl, rfl⟩
theorem spTo_int (x : Nat) (n : Int) (h : floatToIntVal .f64 x .i64 = some n) (w : World) :
    Calls Tryz.prog 25 #[.iface 25 (.float .f64 x)] w fun e w' => e = .returned (.int .i64 n) ∧ w' = w := by
  have HI := Lib.hid (to_int x n h w)
  clear h
  go_enter Tryz.func25, Tryz.ntmps25
  go_wp2_with fail
  refine HI.out.mono ?_
  rintro e w1 ⟨rfl, rfl⟩
  go_wp2_with fail
  go_ret
  exact ⟨rfl, rfl⟩
theorem spTO_int (x : Nat) (n : Int) (h : floatToIntVal .f64 x .i64 = some n) (w : World) :
    Calls Tryz.prog 18 #[.iface 25 (.float .f64 x)] w fun e w' => e = .returned (.int .i64 n) ∧ w' = w := by
  have HI := Lib.hid (spTo_int x n h w)
  clear h
  go_enter Tryz.func18, Tryz.ntmps18
  go_wp2_with fail
  refine HI.out.mono ?_
  rintro e w1 ⟨rfl, rfl⟩
  go_wp2_with fail
  go_ret
  exact ⟨rfl, rfl⟩
theorem implTo_int (x : Nat) (n : Int) (h : floatToIntVal .f64 x .i64 = some n) (hw : IntKind.i64.wrap n = n) (w : World) :
    Calls Tryz.prog 9 #[reV x] w fun e w' => e = .returned (.int .i64 n) ∧ Below w.heap.size w w' := by
  have HS := Lib.hid (fun w => spTO_int x n h w)
  have HG := Lib.hid (fun W => goOf_re x W)
  have hb := (Below.refl w.heap.size w).alloc (Nat.le_refl _) (.cells #[.int .i64 4, .int .i64 0, .float .f64 x, .string ⟨#[]⟩, .slice none 0 0, .slice none 0 0] 29)
  have HB := Lib.hid hb
  clear hb h
  go_enter Tryz.func9, Tryz.ntmps9
  go_wp2_with fail
  refine (HG.out _).mono ?_
  rintro e w1 ⟨rfl, hb1⟩
  have HB1 := Lib.hid (HB.out.trans (hb1.mono HB.out.size))
  clear hb1
  go_wp2_with fail
  refine (HS.out _).mono ?_
  rintro e w2 ⟨rfl, rfl⟩
  go_wp2_with fail
  go_ret
  exact ⟨rfl, HB1.out⟩
theorem toNumber_int64 (x : Nat) (n : Int) (h : floatToIntVal .f64 x .i64 = some n) (w : World) :
    Calls Tryz.prog 74 #[.iface 25 (.float .f64 x)] w fun e w' => e = .returned (.tuple #[.int .i64 n, .bool true]) ∧ w' = w := by
  have hta0 : ∀ w, (Instr.typeAssert (.iface 25 (.float .f64 x)) 20 3 true).run Tryz.prog w = .ok (.tuple #[.int .i64 0, .bool false]) w := fun w => by kernel_rfl
  have hta1 : ∀ w, (Instr.typeAssert (.iface 25 (.float .f64 x)) 20 136 true).run Tryz.prog w = .ok (.tuple #[.int .i8 0, .bool false]) w := fun w => by kernel_rfl
  have hta2 : ∀ w, (Instr.typeAssert (.iface 25 (.float .f64 x)) 20 137 true).run Tryz.prog w = .ok (.tuple #[.int .i16 0, .bool false]) w := fun w => by kernel_rfl
  have hta3 : ∀ w, (Instr.typeAssert (.iface 25 (.float .f64 x)) 20 21 true).run Tryz.prog w = .ok (.tuple #[.int .i32 0, .bool false]) w := fun w => by kernel_rfl
  have hta4 : ∀ w, (Instr.typeAssert (.iface 25 (.float .f64 x)) 20 2 true).run Tryz.prog w = .ok (.tuple #[.int .i64 0, .bool false]) w := fun w => by kernel_rfl
  have hta5 : ∀ w, (Instr.typeAssert (.iface 25 (.float .f64 x)) 20 48 true).run Tryz.prog w = .ok (.tuple #[.int .u64 0, .bool false]) w := fun w => by kernel_rfl
  have hta6 : ∀ w, (Instr.typeAssert (.iface 25 (.float .f64 x)) 20 5 true).run Tryz.prog w = .ok (.tuple #[.int .u8 0, .bool false]) w := fun w => by kernel_rfl
  have hta7 : ∀ w, (Instr.typeAssert (.iface 25 (.float .f64 x)) 20 138 true).run Tryz.prog w = .ok (.tuple #[.int .u16 0, .bool false]) w := fun w => by kernel_rfl
  have hta8 : ∀ w, (Instr.typeAssert (.iface 25 (.float .f64 x)) 20 108 true).run Tryz.prog w = .ok (.tuple #[.int .u32 0, .bool false]) w := fun w => by kernel_rfl
  have hta9 : ∀ w, (Instr.typeAssert (.iface 25 (.float .f64 x)) 20 22 true).run Tryz.prog w = .ok (.tuple #[.int .u64 0, .bool false]) w := fun w => by kernel_rfl
  have hta10 : ∀ w, (Instr.typeAssert (.iface 25 (.float .f64 x)) 20 90 true).run Tryz.prog w = .ok (.tuple #[.float .f32 0, .bool false]) w := fun w => by kernel_rfl
  have hta : ∀ w, (Instr.typeAssert (.iface 25 (.float .f64 x)) 20 25 true).run Tryz.prog w = .ok (.tuple #[.float .f64 x, .bool true]) w := fun w => by kernel_rfl
  have hcv : ∀ W, (convert 25 2 (.float .f64 x)).run Tryz.prog W = .ok (.int .i64 n) W := fun W => run_convert_float_int W _ _ _ _ x n (by kernel_rfl) Tryz.underlying2 h
  clear h
  go_enter Tryz.func74, Tryz.ntmps74
  go_wp2_with fail
  go_ret2
  exact ⟨rfl, rfl⟩
theorem toNumE_int64 (x : Nat) (n : Int) (h : floatToIntVal .f64 x .i64 = some n) (w : World) :
    Calls Tryz.prog 56 #[.iface 25 (.float .f64 x), .func (.func 57) #[] #[]] w fun e w' => e = .returned (.tuple #[.int .i64 n, .nilIface]) ∧ w' = w := by
  have HI := Lib.hid (toNumber_int64 x n h w)
  clear h
  go_enter Tryz.func56, Tryz.ntmps56
  go_wp2_with fail
  refine HI.out.mono ?_
  rintro e w1 ⟨rfl, rfl⟩
  go_wp2_with fail
  go_ret2
  exact ⟨rfl, rfl⟩
theorem toE_int64 (x : Nat) (n : Int) (h : floatToIntVal .f64 x .i64 = some n) (w : World) :
    Calls Tryz.prog 42 #[.iface 25 (.float .f64 x)] w fun e w' => e = .returned (.tuple #[.int .i64 n, .nilIface]) ∧ w' = w := by
  have HI := Lib.hid (toNumE_int64 x n h w)
  clear h
  go_enter Tryz.func42, Tryz.ntmps42
  go_wp2_with fail
  refine HI.out.mono ?_
  rintro e w1 ⟨rfl, rfl⟩
  go_wp2_with fail
  go_ret2
  exact ⟨rfl, rfl⟩
theorem to_int64 (x : Nat) (n : Int) (h : floatToIntVal .f64 x .i64 = some n) (w : World) :
    Calls Tryz.prog 31 #[.iface 25 (.float .f64 x)] w fun e w' => e = .returned (.int .i64 n) ∧ w' = w := by
  have HI := Lib.hid (toE_int64 x n h w)
  clear h
  go_enter Tryz.func31, Tryz.ntmps31
  go_wp2_with fail
  refine HI.out.mono ?_
  rintro e w1 ⟨rfl, rfl⟩
  go_wp2_with fail
  go_ret
  exact ⟨rfl, rfl⟩
theorem spTo_int64 (x : Nat) (n : Int) (h : floatToIntVal .f64 x .i64 = some n) (w : World) :
    Calls Tryz.prog 26 #[.iface 25 (.float .f64 x)] w fun e w' => e = .returned (.int .i64 n) ∧ w' = w := by
  have HI := Lib.hid (to_int64 x n h w)
  clear h
  go_enter Tryz.func26, Tryz.ntmps26
  go_wp2_with fail
  refine HI.out.mono ?_
  rintro e w1 ⟨rfl, rfl⟩
  go_wp2_with fail
  go_ret
  exact ⟨rfl, rfl⟩
theorem spTO_int64 (x : Nat) (n : Int) (h : floatToIntVal .f64 x .i64 = some n) (w : World) :
    Calls Tryz.prog 19 #[.iface 25 (.float .f64 x)] w fun e w' => e = .returned (.int .i64 n) ∧ w' = w := by
  have HI := Lib.hid (spTo_int64 x n h w)
  clear h
  go_enter Tryz.func19, Tryz.ntmps19
  go_wp2_with fail
  refine HI.out.mono ?_
  rintro e w1 ⟨rfl, rfl⟩
  go_wp2_with fail
  go_ret
  exact ⟨rfl, rfl⟩
theorem implTo_int64 (x : Nat) (n : Int) (h : floatToIntVal .f64 x .i64 = some n) (hw : IntKind.i64.wrap n = n) (w : World) :
    Calls Tryz.prog 10 #[reV x] w fun e w' => e = .returned (.int .i64 n) ∧ Below w.heap.size w w' := by
  have HS := Lib.hid (fun w => spTO_int64 x n h w)
  have HG := Lib.hid (fun W => goOf_re x W)
  have hb := (Below.refl w.heap.size w).alloc (Nat.le_refl _) (.cells #[.int .i64 4, .int .i64 0, .float .f64 x, .string ⟨#[]⟩, .slice none 0 0, .slice none 0 0] 29)
  have HB := Lib.hid hb
  clear hb h
  go_enter Tryz.func10, Tryz.ntmps10
  go_wp2_with fail
  refine (HG.out _).mono ?_
  rintro e w1 ⟨rfl, hb1⟩
  have HB1 := Lib.hid (HB.out.trans (hb1.mono HB.out.size))
  clear hb1
  go_wp2_with fail
  refine (HS.out _).mono ?_
  rintro e w2 ⟨rfl, rfl⟩
  go_wp2_with fail
  go_ret
  exact ⟨rfl, HB1.out⟩
theorem toNumber_float64 (x : Nat) (_u : True) (w : World) :
    Calls Tryz.prog 75 #[.iface 25 (.float .f64 x)] w fun e w' => e = .returned (.tuple #[.float .f64 x, .bool true]) ∧ w' = w := by
  have hta : ∀ w, (Instr.typeAssert (.iface 25 (.float .f64 x)) 20 25 true).run Tryz.prog w = .ok (.tuple #[.float .f64 x, .bool true]) w := fun w => by kernel_rfl
  go_enter Tryz.func75, Tryz.ntmps75
  go_wp2_with fail
  go_ret2
  exact ⟨rfl, rfl⟩
theorem toNumE_float64 (x : Nat) (_u : True) (w : World) :
    Calls Tryz.prog 58 #[.iface 25 (.float .f64 x), .func (.func 59) #[] #[]] w fun e w' => e = .returned (.tuple #[.float .f64 x, .nilIface]) ∧ w' = w := by
  have HI := Lib.hid (toNumber_float64 x trivial w)
  skip
  go_enter Tryz.func58, Tryz.ntmps58
  go_wp2_with fail
  refine HI.out.mono ?_
  rintro e w1 ⟨rfl, rfl⟩
  go_wp2_with fail
  go_ret2
  exact ⟨rfl, rfl⟩
theorem toE_float64 (x : Nat) (_u : True) (w : World) :
    Calls Tryz.prog 43 #[.iface 25 (.float .f64 x)] w fun e w' => e = .returned (.tuple #[.float .f64 x, .nilIface]) ∧ w' = w := by
  have HI := Lib.hid (toNumE_float64 x trivial w)
  skip
  go_enter Tryz.func43, Tryz.ntmps43
  go_wp2_with fail
  refine HI.out.mono ?_
  rintro e w1 ⟨rfl, rfl⟩
  go_wp2_with fail
  go_ret2
  exact ⟨rfl, rfl⟩
theorem to_float64 (x : Nat) (_u : True) (w : World) :
    Calls Tryz.prog 32 #[.iface 25 (.float .f64 x)] w fun e w' => e = .returned (.float .f64 x) ∧ w' = w := by
  have HI := Lib.hid (toE_float64 x trivial w)
  skip
  go_enter Tryz.func32, Tryz.ntmps32
  go_wp2_with fail
  refine HI.out.mono ?_
  rintro e w1 ⟨rfl, rfl⟩
  go_wp2_with fail
  go_ret
  exact ⟨rfl, rfl⟩
theorem spTo_float64 (x : Nat) (_u : True) (w : World) :
    Calls Tryz.prog 27 #[.iface 25 (.float .f64 x)] w fun e w' => e = .returned (.float .f64 x) ∧ w' = w := by
  have HI := Lib.hid (to_float64 x trivial w)
  skip
  go_enter Tryz.func27, Tryz.ntmps27
  go_wp2_with fail
  refine HI.out.mono ?_
  rintro e w1 ⟨rfl, rfl⟩
  go_wp2_with fail
  go_ret
  exact ⟨rfl, rfl⟩
theorem spTO_float64 (x : Nat) (_u : True) (w : World) :
    Calls Tryz.prog 20 #[.iface 25 (.float .f64 x)] w fun e w' => e = .returned (.float .f64 x) ∧ w' = w := by
  have HI := Lib.hid (spTo_float64 x trivial w)
  skip
  go_enter Tryz.func20, Tryz.ntmps20
  go_wp2_with fail
  refine HI.out.mono ?_
  rintro e w1 ⟨rfl, rfl⟩
  go_wp2_with fail
  go_ret
  exact ⟨rfl, rfl⟩
theorem implTo_float64 (x : Nat) (_u : True) (w : World) :
    Calls Tryz.prog 11 #[reV x] w fun e w' => e = .returned (.float .f64 x) ∧ Below w.heap.size w w' := by
  have HS := Lib.hid (fun w => spTO_float64 x trivial w)
  have HG := Lib.hid (fun W => goOf_re x W)
  have hb := (Below.refl w.heap.size w).alloc (Nat.le_refl _) (.cells #[.int .i64 4, .int .i64 0, .float .f64 x, .string ⟨#[]⟩, .slice none 0 0, .slice none 0 0] 29)
  have HB := Lib.hid hb
  clear hb 
  go_enter Tryz.func11, Tryz.ntmps11
  go_wp2_with fail
  refine (HG.out _).mono ?_
  rintro e w1 ⟨rfl, hb1⟩
  have HB1 := Lib.hid (HB.out.trans (hb1.mono HB.out.size))
  clear hb1
  go_wp2_with fail
  refine (HS.out _).mono ?_
  rintro e w2 ⟨rfl, rfl⟩
  go_wp2_with fail
  go_ret
  exact ⟨rfl, HB1.out⟩
end Go.Proofs.YtakogidcjjmihaaGreatDoor.Re
