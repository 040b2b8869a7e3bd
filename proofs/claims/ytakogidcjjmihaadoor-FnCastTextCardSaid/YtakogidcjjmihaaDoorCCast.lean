/- A text as an int and an int64, by cast. Printed by gen_ccast.py. -/
import Derived.Test.YtakogidcjjmihaaDoorTDec
import Derived.Test.YtakogidcjjmihaaDoorCTrim
namespace Go.Proofs.YtakogidcjjmihaaDoor.Pu
open Go.RowKit Go.Proofs.YtakogidcjjmihaaDoorW.PrintWords Go.Proofs.YtakogidcjjmihaaDoor.Txt
set_option linter.unusedVariables false
set_option linter.unusedSimpArgs false
set_option maxRecDepth 100000
theorem toNumberE_gen : True := trivial
theorem toNumber_int (s : ByteArray) (w : World) :
    Calls Tryd.prog 22 #[.iface 9 (.string s)] w fun e w' => e = .returned (.tuple #[.int .i64 0, .bool false]) ∧ w' = w := by
  have hta0 : ∀ w, (Instr.typeAssert (.iface 9 (.string s)) 20 3 true).run Tryd.prog w = .ok (.tuple #[.int .i64 0, .bool false]) w := fun w => by kernel_rfl
  have hta1 : ∀ w, (Instr.typeAssert (.iface 9 (.string s)) 20 58 true).run Tryd.prog w = .ok (.tuple #[.int .i8 0, .bool false]) w := fun w => by kernel_rfl
  have hta2 : ∀ w, (Instr.typeAssert (.iface 9 (.string s)) 20 59 true).run Tryd.prog w = .ok (.tuple #[.int .i16 0, .bool false]) w := fun w => by kernel_rfl
  have hta3 : ∀ w, (Instr.typeAssert (.iface 9 (.string s)) 20 21 true).run Tryd.prog w = .ok (.tuple #[.int .i32 0, .bool false]) w := fun w => by kernel_rfl
  have hta4 : ∀ w, (Instr.typeAssert (.iface 9 (.string s)) 20 2 true).run Tryd.prog w = .ok (.tuple #[.int .i64 0, .bool false]) w := fun w => by kernel_rfl
  have hta5 : ∀ w, (Instr.typeAssert (.iface 9 (.string s)) 20 60 true).run Tryd.prog w = .ok (.tuple #[.int .u64 0, .bool false]) w := fun w => by kernel_rfl
  have hta6 : ∀ w, (Instr.typeAssert (.iface 9 (.string s)) 20 5 true).run Tryd.prog w = .ok (.tuple #[.int .u8 0, .bool false]) w := fun w => by kernel_rfl
  have hta7 : ∀ w, (Instr.typeAssert (.iface 9 (.string s)) 20 61 true).run Tryd.prog w = .ok (.tuple #[.int .u16 0, .bool false]) w := fun w => by kernel_rfl
  have hta8 : ∀ w, (Instr.typeAssert (.iface 9 (.string s)) 20 62 true).run Tryd.prog w = .ok (.tuple #[.int .u32 0, .bool false]) w := fun w => by kernel_rfl
  have hta9 : ∀ w, (Instr.typeAssert (.iface 9 (.string s)) 20 22 true).run Tryd.prog w = .ok (.tuple #[.int .u64 0, .bool false]) w := fun w => by kernel_rfl
  have hta10 : ∀ w, (Instr.typeAssert (.iface 9 (.string s)) 20 63 true).run Tryd.prog w = .ok (.tuple #[.float .f32 0, .bool false]) w := fun w => by kernel_rfl
  have hta11 : ∀ w, (Instr.typeAssert (.iface 9 (.string s)) 20 25 true).run Tryd.prog w = .ok (.tuple #[.float .f64 0, .bool false]) w := fun w => by kernel_rfl
  have hta12 : ∀ w, (Instr.typeAssert (.iface 9 (.string s)) 20 4 true).run Tryd.prog w = .ok (.tuple #[.bool false, .bool false]) w := fun w => by kernel_rfl
  go_enter Tryd.func22, Tryd.ntmps22
  go_wp2_with fail
  go_ret2
  exact ⟨rfl, rfl⟩
theorem parseInt_int (s u : ByteArray) (v : Int) (TR : ∀ W, Calls Tryd.prog 25 #[.string s] W fun e w' => e = .returned (.string u) ∧ Below W.heap.size W w')
    (PI : ∀ W, Calls Tryd.prog 24 #[.string u, .int .i64 0, .int .i64 0] W (Says W (.int .i64 v))) (w : World) :
    Calls Tryd.prog 19 #[.string s] w (Says w (.int .i64 v)) := by
  have HTR := Lib.hid TR
  have HPI := Lib.hid PI
  clear TR PI
  go_enter Tryd.func19, Tryd.ntmps19
  go_wp2_with fail
  refine (HTR.out _).mono ?_
  rintro e w1 ⟨rfl, hb1⟩
  have HB1 := Lib.hid hb1
  clear hb1
  go_wp2_with fail
  refine (HPI.out _).mono ?_
  rintro e w2 ⟨rfl, hb2⟩
  have HB2 := Lib.hid (HB1.out.trans (hb2.mono HB1.out.size))
  clear hb2
  go_wp2_with fail
  go_ret2
  exact ⟨rfl, HB2.out⟩
theorem toNumberE_int (s : ByteArray) (hs : s.toList.isEmpty = false) (v : Int) (PI : ∀ W, Calls Tryd.prog 19 #[.string s] W (Says W (.int .i64 v))) (w : World) :
    Calls Tryd.prog 18 #[.iface 9 (.string s), .func (.func 19) #[] #[]] w (Says w (.int .i64 v)) := by
  have HN := Lib.hid (toNumber_int s w)
  have HPI := Lib.hid PI
  have hta : ∀ w, (Instr.typeAssert (.iface 9 (.string s)) 20 9 true).run Tryd.prog w = .ok (.tuple #[.string s, .bool true]) w := fun w => by kernel_rfl
  have hcall : ∀ W : World, (callFunc 19 #[.string s]).run Tryd.prog W = .ok (.enter 19 #[.string s]) W := fun W => by kernel_rfl
  clear PI
  go_enter Tryd.func18, Tryd.ntmps18
  go_wp2_with fail
  refine HN.out.mono ?_
  rintro e w1 ⟨rfl, rfl⟩
  go_wp2_with fail
  refine (HPI.out _).mono ?_
  rintro e w2 ⟨rfl, hb2⟩
  go_wp2_with fail
  go_ret2
  exact ⟨rfl, hb2⟩
theorem toNumber_int64 (s : ByteArray) (w : World) :
    Calls Tryd.prog 26 #[.iface 9 (.string s)] w fun e w' => e = .returned (.tuple #[.int .i64 0, .bool false]) ∧ w' = w := by
  have hta0 : ∀ w, (Instr.typeAssert (.iface 9 (.string s)) 20 3 true).run Tryd.prog w = .ok (.tuple #[.int .i64 0, .bool false]) w := fun w => by kernel_rfl
  have hta1 : ∀ w, (Instr.typeAssert (.iface 9 (.string s)) 20 58 true).run Tryd.prog w = .ok (.tuple #[.int .i8 0, .bool false]) w := fun w => by kernel_rfl
  have hta2 : ∀ w, (Instr.typeAssert (.iface 9 (.string s)) 20 59 true).run Tryd.prog w = .ok (.tuple #[.int .i16 0, .bool false]) w := fun w => by kernel_rfl
  have hta3 : ∀ w, (Instr.typeAssert (.iface 9 (.string s)) 20 21 true).run Tryd.prog w = .ok (.tuple #[.int .i32 0, .bool false]) w := fun w => by kernel_rfl
  have hta4 : ∀ w, (Instr.typeAssert (.iface 9 (.string s)) 20 2 true).run Tryd.prog w = .ok (.tuple #[.int .i64 0, .bool false]) w := fun w => by kernel_rfl
  have hta5 : ∀ w, (Instr.typeAssert (.iface 9 (.string s)) 20 60 true).run Tryd.prog w = .ok (.tuple #[.int .u64 0, .bool false]) w := fun w => by kernel_rfl
  have hta6 : ∀ w, (Instr.typeAssert (.iface 9 (.string s)) 20 5 true).run Tryd.prog w = .ok (.tuple #[.int .u8 0, .bool false]) w := fun w => by kernel_rfl
  have hta7 : ∀ w, (Instr.typeAssert (.iface 9 (.string s)) 20 61 true).run Tryd.prog w = .ok (.tuple #[.int .u16 0, .bool false]) w := fun w => by kernel_rfl
  have hta8 : ∀ w, (Instr.typeAssert (.iface 9 (.string s)) 20 62 true).run Tryd.prog w = .ok (.tuple #[.int .u32 0, .bool false]) w := fun w => by kernel_rfl
  have hta9 : ∀ w, (Instr.typeAssert (.iface 9 (.string s)) 20 22 true).run Tryd.prog w = .ok (.tuple #[.int .u64 0, .bool false]) w := fun w => by kernel_rfl
  have hta10 : ∀ w, (Instr.typeAssert (.iface 9 (.string s)) 20 63 true).run Tryd.prog w = .ok (.tuple #[.float .f32 0, .bool false]) w := fun w => by kernel_rfl
  have hta11 : ∀ w, (Instr.typeAssert (.iface 9 (.string s)) 20 25 true).run Tryd.prog w = .ok (.tuple #[.float .f64 0, .bool false]) w := fun w => by kernel_rfl
  have hta12 : ∀ w, (Instr.typeAssert (.iface 9 (.string s)) 20 4 true).run Tryd.prog w = .ok (.tuple #[.bool false, .bool false]) w := fun w => by kernel_rfl
  go_enter Tryd.func26, Tryd.ntmps26
  go_wp2_with fail
  go_ret2
  exact ⟨rfl, rfl⟩
theorem parseInt_int64 (s u : ByteArray) (v : Int) (TR : ∀ W, Calls Tryd.prog 25 #[.string s] W fun e w' => e = .returned (.string u) ∧ Below W.heap.size W w')
    (PI : ∀ W, Calls Tryd.prog 24 #[.string u, .int .i64 0, .int .i64 0] W (Says W (.int .i64 v))) (w : World) :
    Calls Tryd.prog 21 #[.string s] w (Says w (.int .i64 v)) := by
  have HTR := Lib.hid TR
  have HPI := Lib.hid PI
  clear TR PI
  go_enter Tryd.func21, Tryd.ntmps21
  go_wp2_with fail
  refine (HTR.out _).mono ?_
  rintro e w1 ⟨rfl, hb1⟩
  have HB1 := Lib.hid hb1
  clear hb1
  go_wp2_with fail
  refine (HPI.out _).mono ?_
  rintro e w2 ⟨rfl, hb2⟩
  have HB2 := Lib.hid (HB1.out.trans (hb2.mono HB1.out.size))
  clear hb2
  go_wp2_with fail
  go_ret2
  exact ⟨rfl, HB2.out⟩
theorem toNumberE_int64 (s : ByteArray) (hs : s.toList.isEmpty = false) (v : Int) (PI : ∀ W, Calls Tryd.prog 21 #[.string s] W (Says W (.int .i64 v))) (w : World) :
    Calls Tryd.prog 20 #[.iface 9 (.string s), .func (.func 21) #[] #[]] w (Says w (.int .i64 v)) := by
  have HN := Lib.hid (toNumber_int64 s w)
  have HPI := Lib.hid PI
  have hta : ∀ w, (Instr.typeAssert (.iface 9 (.string s)) 20 9 true).run Tryd.prog w = .ok (.tuple #[.string s, .bool true]) w := fun w => by kernel_rfl
  have hcall : ∀ W : World, (callFunc 21 #[.string s]).run Tryd.prog W = .ok (.enter 21 #[.string s]) W := fun W => by kernel_rfl
  clear PI
  go_enter Tryd.func20, Tryd.ntmps20
  go_wp2_with fail
  refine HN.out.mono ?_
  rintro e w1 ⟨rfl, rfl⟩
  go_wp2_with fail
  refine (HPI.out _).mono ?_
  rintro e w2 ⟨rfl, hb2⟩
  go_wp2_with fail
  go_ret2
  exact ⟨rfl, hb2⟩
theorem toE_int (s : ByteArray) (hs : s.toList.isEmpty = false) (v : Int) (PI : ∀ W, Calls Tryd.prog 19 #[.string s] W (Says W (.int .i64 v))) (w : World) :
    Calls Tryd.prog 16 #[.iface 9 (.string s)] w fun e w' => e = .returned (.tuple #[.int .i64 v, .nilIface]) ∧ Below w.heap.size w w' := by
  have HI := Lib.hid (toNumberE_int s hs v PI w)
  clear PI
  go_enter Tryd.func16, Tryd.ntmps16
  go_wp2_with fail
  refine HI.out.mono ?_
  rintro e w1 ⟨rfl, hb⟩
  go_wp2_with fail
  go_ret2
  exact ⟨rfl, hb⟩
theorem to_int (s : ByteArray) (hs : s.toList.isEmpty = false) (v : Int) (PI : ∀ W, Calls Tryd.prog 19 #[.string s] W (Says W (.int .i64 v))) (w : World) :
    Calls Tryd.prog 14 #[.iface 9 (.string s)] w fun e w' => e = .returned (.int .i64 v) ∧ Below w.heap.size w w' := by
  have HI := Lib.hid (toE_int s hs v PI w)
  clear PI
  go_enter Tryd.func14, Tryd.ntmps14
  go_wp2_with fail
  refine HI.out.mono ?_
  rintro e w1 ⟨rfl, hb⟩
  go_wp2_with fail
  go_ret
  exact ⟨rfl, hb⟩
theorem spTo_int (s : ByteArray) (hs : s.toList.isEmpty = false) (v : Int) (PI : ∀ W, Calls Tryd.prog 19 #[.string s] W (Says W (.int .i64 v))) (w : World) :
    Calls Tryd.prog 12 #[.iface 9 (.string s)] w fun e w' => e = .returned (.int .i64 v) ∧ Below w.heap.size w w' := by
  have HI := Lib.hid (to_int s hs v PI w)
  clear PI
  go_enter Tryd.func12, Tryd.ntmps12
  go_wp2_with fail
  refine HI.out.mono ?_
  rintro e w1 ⟨rfl, hb⟩
  go_wp2_with fail
  go_ret
  exact ⟨rfl, hb⟩
theorem spTO_int (s : ByteArray) (hs : s.toList.isEmpty = false) (v : Int) (PI : ∀ W, Calls Tryd.prog 19 #[.string s] W (Says W (.int .i64 v))) (w : World) :
    Calls Tryd.prog 8 #[.iface 9 (.string s)] w fun e w' => e = .returned (.int .i64 v) ∧ Below w.heap.size w w' := by
  have HI := Lib.hid (spTo_int s hs v PI w)
  clear PI
  go_enter Tryd.func8, Tryd.ntmps8
  go_wp2_with fail
  refine HI.out.mono ?_
  rintro e w1 ⟨rfl, hb⟩
  go_wp2_with fail
  go_ret
  exact ⟨rfl, hb⟩
theorem implTo_int (s : ByteArray) (hs : s.toList.isEmpty = false) (v : Int) (PI : ∀ W, Calls Tryd.prog 19 #[.string s] W (Says W (.int .i64 v))) (hv : IntKind.i64.wrap v = v) (w : World) :
    Calls Tryd.prog 5 #[txV s] w fun e w' => e = .returned (.int .i64 v) ∧ Below w.heap.size w w' := by
  have HS := Lib.hid (fun W => spTO_int s hs v PI W)
  have HG := Lib.hid (fun W => goOf_tx s W)
  have hb := (Below.refl w.heap.size w).alloc (Nat.le_refl _) (.cells #[.int .i64 5, .int .i64 0, .float .f64 0, .string s, .slice none 0 0, .slice none 0 0] 28)
  have HB := Lib.hid hb
  clear PI hb
  go_enter Tryd.func5, Tryd.ntmps5
  go_wp2_with fail
  refine (HG.out _).mono ?_
  rintro e w1 ⟨rfl, hb1⟩
  have HB1 := Lib.hid (HB.out.trans (hb1.mono HB.out.size))
  clear hb1
  go_wp2_with fail
  refine (HS.out _).mono ?_
  rintro e w2 ⟨rfl, hb2⟩
  have HB2 := Lib.hid (HB1.out.trans (hb2.mono HB1.out.size))
  clear hb2
  go_wp2_with fail
  go_ret
  exact ⟨rfl, HB2.out⟩
theorem toE_int64 (s : ByteArray) (hs : s.toList.isEmpty = false) (v : Int) (PI : ∀ W, Calls Tryd.prog 21 #[.string s] W (Says W (.int .i64 v))) (w : World) :
    Calls Tryd.prog 17 #[.iface 9 (.string s)] w fun e w' => e = .returned (.tuple #[.int .i64 v, .nilIface]) ∧ Below w.heap.size w w' := by
  have HI := Lib.hid (toNumberE_int64 s hs v PI w)
  clear PI
  go_enter Tryd.func17, Tryd.ntmps17
  go_wp2_with fail
  refine HI.out.mono ?_
  rintro e w1 ⟨rfl, hb⟩
  go_wp2_with fail
  go_ret2
  exact ⟨rfl, hb⟩
theorem to_int64 (s : ByteArray) (hs : s.toList.isEmpty = false) (v : Int) (PI : ∀ W, Calls Tryd.prog 21 #[.string s] W (Says W (.int .i64 v))) (w : World) :
    Calls Tryd.prog 15 #[.iface 9 (.string s)] w fun e w' => e = .returned (.int .i64 v) ∧ Below w.heap.size w w' := by
  have HI := Lib.hid (toE_int64 s hs v PI w)
  clear PI
  go_enter Tryd.func15, Tryd.ntmps15
  go_wp2_with fail
  refine HI.out.mono ?_
  rintro e w1 ⟨rfl, hb⟩
  go_wp2_with fail
  go_ret
  exact ⟨rfl, hb⟩
theorem spTo_int64 (s : ByteArray) (hs : s.toList.isEmpty = false) (v : Int) (PI : ∀ W, Calls Tryd.prog 21 #[.string s] W (Says W (.int .i64 v))) (w : World) :
    Calls Tryd.prog 13 #[.iface 9 (.string s)] w fun e w' => e = .returned (.int .i64 v) ∧ Below w.heap.size w w' := by
  have HI := Lib.hid (to_int64 s hs v PI w)
  clear PI
  go_enter Tryd.func13, Tryd.ntmps13
  go_wp2_with fail
  refine HI.out.mono ?_
  rintro e w1 ⟨rfl, hb⟩
  go_wp2_with fail
  go_ret
  exact ⟨rfl, hb⟩
theorem spTO_int64 (s : ByteArray) (hs : s.toList.isEmpty = false) (v : Int) (PI : ∀ W, Calls Tryd.prog 21 #[.string s] W (Says W (.int .i64 v))) (w : World) :
    Calls Tryd.prog 9 #[.iface 9 (.string s)] w fun e w' => e = .returned (.int .i64 v) ∧ Below w.heap.size w w' := by
  have HI := Lib.hid (spTo_int64 s hs v PI w)
  clear PI
  go_enter Tryd.func9, Tryd.ntmps9
  go_wp2_with fail
  refine HI.out.mono ?_
  rintro e w1 ⟨rfl, hb⟩
  go_wp2_with fail
  go_ret
  exact ⟨rfl, hb⟩
theorem implTo_int64 (s : ByteArray) (hs : s.toList.isEmpty = false) (v : Int) (PI : ∀ W, Calls Tryd.prog 21 #[.string s] W (Says W (.int .i64 v))) (hv : IntKind.i64.wrap v = v) (w : World) :
    Calls Tryd.prog 6 #[txV s] w fun e w' => e = .returned (.int .i64 v) ∧ Below w.heap.size w w' := by
  have HS := Lib.hid (fun W => spTO_int64 s hs v PI W)
  have HG := Lib.hid (fun W => goOf_tx s W)
  have hb := (Below.refl w.heap.size w).alloc (Nat.le_refl _) (.cells #[.int .i64 5, .int .i64 0, .float .f64 0, .string s, .slice none 0 0, .slice none 0 0] 28)
  have HB := Lib.hid hb
  clear PI hb
  go_enter Tryd.func6, Tryd.ntmps6
  go_wp2_with fail
  refine (HG.out _).mono ?_
  rintro e w1 ⟨rfl, hb1⟩
  have HB1 := Lib.hid (HB.out.trans (hb1.mono HB.out.size))
  clear hb1
  go_wp2_with fail
  refine (HS.out _).mono ?_
  rintro e w2 ⟨rfl, hb2⟩
  have HB2 := Lib.hid (HB1.out.trans (hb2.mono HB1.out.size))
  clear hb2
  go_wp2_with fail
  go_ret
  exact ⟨rfl, HB2.out⟩
end Go.Proofs.YtakogidcjjmihaaDoor.Pu
