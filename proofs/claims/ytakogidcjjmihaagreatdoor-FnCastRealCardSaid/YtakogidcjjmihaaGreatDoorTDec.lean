/- A text as a value, and its octal digits as a number. -/
import Derived.Test.YtakogidcjjmihaaGreatDoorPInt
namespace Go.Proofs.YtakogidcjjmihaaGreatDoor.Pu
open Go.RowKit Go.Proofs.YtakogidcjjmihaaGreatDoorW.PrintWords Go.Proofs.YtakogidcjjmihaaGreatDoor.Txt
set_option linter.unusedVariables false
set_option linter.unusedSimpArgs false
set_option maxRecDepth 100000
/-- A text as data. -/
abbrev txV (s : ByteArray) : Value := .agg #[.int .i64 5, .int .i64 0, .float .f64 0, .string s, .slice none 0 0, .slice none 0 0]
theorem goOf_tx (s : ByteArray) (w : World) :
    Calls Tryz.prog 12 #[txV s] w fun e w' => e = .returned (.tuple #[.iface 9 (.string s), .bool true]) ∧ Below w.heap.size w w' := by
  have hb := (Below.refl w.heap.size w).alloc (Nat.le_refl _) (.cells #[.int .i64 5, .int .i64 0, .float .f64 0, .string s, .slice none 0 0, .slice none 0 0] 29)
  have HB := Lib.hid hb
  clear hb
  go_enter Tryz.func12, Tryz.ntmps12
  go_wp2_with fail
  go_ret2
  exact ⟨rfl, HB.out⟩
theorem zzText_tx (s : ByteArray) (w : World) :
    Calls Tryz.prog 29 #[.iface 9 (.string s)] w fun e w' => e = .returned (.string s) ∧ Below w.heap.size w w' := by
  have hta1 : ∀ w, (Instr.typeAssert (.iface 9 (.string s)) 20 4 true).run Tryz.prog w = .ok (.tuple #[.bool false, .bool false]) w := fun w => by kernel_rfl
  have hta2 : ∀ w, (Instr.typeAssert (.iface 9 (.string s)) 20 3 true).run Tryz.prog w = .ok (.tuple #[.int .i64 0, .bool false]) w := fun w => by kernel_rfl
  have hta3 : ∀ w, (Instr.typeAssert (.iface 9 (.string s)) 20 2 true).run Tryz.prog w = .ok (.tuple #[.int .i64 0, .bool false]) w := fun w => by kernel_rfl
  have hta4 : ∀ w, (Instr.typeAssert (.iface 9 (.string s)) 20 25 true).run Tryz.prog w = .ok (.tuple #[.float .f64 0, .bool false]) w := fun w => by kernel_rfl
  have hta : ∀ w, (Instr.typeAssert (.iface 9 (.string s)) 20 9 true).run Tryz.prog w = .ok (.tuple #[.string s, .bool true]) w := fun w => by kernel_rfl
  go_enter Tryz.func29, Tryz.ntmps29
  go_wp2_with fail
  go_ret
  exact ⟨rfl, Below.refl _ _⟩
theorem toDecimal_tx (s : ByteArray) (v : Int) (PI : ∀ W, Calls Tryz.prog 28 #[.string s, .int .i64 8, .int .i64 64] W (Says W (.int .i64 v))) (w : World) :
    Calls Tryz.prog 23 #[.iface 9 (.string s)] w fun e w' => e = .returned (.int .i64 v) ∧ Below w.heap.size w w' := by
  have HPI := Lib.hid PI
  have HZ := Lib.hid (zzText_tx s w)
  clear PI
  go_enter Tryz.func23, Tryz.ntmps23
  go_wp2_with fail
  refine HZ.out.mono ?_
  rintro e w1 ⟨rfl, hb1⟩
  have HB1 := Lib.hid hb1
  clear hb1
  go_wp2_with fail
  refine (HPI.out _).mono ?_
  rintro e w2 ⟨rfl, hb2⟩
  have HB2 := Lib.hid (HB1.out.trans (hb2.mono HB1.out.size))
  clear hb2
  go_wp2_with fail
  go_ret
  exact ⟨rfl, HB2.out⟩
theorem implDecimal_tx (s : ByteArray) (v : Int) (PI : ∀ W, Calls Tryz.prog 28 #[.string s, .int .i64 8, .int .i64 64] W (Says W (.int .i64 v))) (w : World) :
    Calls Tryz.prog 5 #[txV s] w fun e w' => e = .returned (.int .i64 v) ∧ Below w.heap.size w w' := by
  have HT := Lib.hid (fun W => toDecimal_tx s v PI W)
  have HS : Hid (∀ W, Calls Tryz.prog 13 #[.iface 9 (.string s)] W fun e w' => e = .returned (.int .i64 v) ∧ Below W.heap.size W w') := Lib.hid fun W => by
    clear PI
    go_enter Tryz.func13, Tryz.ntmps13
    go_wp2_with fail
    refine (HT.out _).mono ?_
    rintro e w1 ⟨rfl, hb1⟩
    go_wp2_with fail
    go_ret
    exact ⟨rfl, hb1⟩
  have HG := Lib.hid (fun W => goOf_tx s W)
  have hb := (Below.refl w.heap.size w).alloc (Nat.le_refl _) (.cells #[.int .i64 5, .int .i64 0, .float .f64 0, .string s, .slice none 0 0, .slice none 0 0] 29)
  have HB := Lib.hid hb
  clear PI HT hb
  go_enter Tryz.func5, Tryz.ntmps5
  go_wp2_with fail
  refine (HG.out _).mono ?_
  rintro e w1 ⟨rfl, hb1⟩
  have HB1 := Lib.hid (HB.out.trans (hb1.mono HB.out.size))
  clear hb1
  go_wp2_with fail
  refine (HS.out _).mono ?_
  rintro e w2 ⟨rfl, hb2⟩
  have HB2 := Lib.hid (HB1.out.trans (hb2.mono HB1.out.size))
  clear hb2
  go_wp2_with fail
  go_ret
  exact ⟨rfl, HB2.out⟩
end Go.Proofs.YtakogidcjjmihaaGreatDoor.Pu
