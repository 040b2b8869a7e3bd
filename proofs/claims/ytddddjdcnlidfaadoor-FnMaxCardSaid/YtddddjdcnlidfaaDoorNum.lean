/- Walks of sprig's sums, products and greatest numbers of integers (boxed ones): what they answer. -/
import Derived.Test.YtddddjdcnlidfaaDoorProg
import Derived.Test.YtddddjdcnlidfaaDoorTxt
import Derived.WalkKit
import Derived.BigCall
import Derived.WalkLawsBesides
import Derived.WalkSpells
import Derived.Outline
import Derived.Lib.Hide
namespace Go.Proofs.YtddddjdcnlidfaaDoor.Giv
open Go.RowKit Go.Proofs.YtddddjdcnlidfaaDoorW.PrintWords Go.Proofs.YtddddjdcnlidfaaDoor.Txt
set_option linter.unusedVariables false
set_option maxRecDepth 20000

/-- An integer as a value of any kind. -/
def box (n : Int) : Value := .iface 2 (.int .i64 n)
theorem toNumber_int (n : Int) (w : World) :
    Calls Tryd.prog 115 #[box n] w fun e w' => e = .returned (.tuple #[.int .i64 n, .bool true]) ∧ Drawn0 w w' := by
  unfold box
  have hta : ∀ w, (Instr.typeAssert (.iface 2 (.int .i64 n)) 20 2 true).run Tryd.prog w = .ok (.tuple #[.int .i64 n, .bool true]) w := fun w => by kernel_rfl
  go_enter Tryd.func115, Tryd.ntmps115
  go_wp2_with fail
  go_ret2
  exact ⟨rfl, by repeat (first | exact Drawn0.refl _ | apply Drawn0.step)⟩

theorem toNumberE_int (n : Int) (w : World) :
    Calls Tryd.prog 109 #[box n, .func (.func 110) #[] #[]] w fun e w' => e = .returned (.tuple #[.int .i64 n, .nilIface]) ∧ Drawn0 w w' := by
  have Hc := Lib.hid (fun w => toNumber_int n w)
  obtain ⟨v, hv⟩ : ∃ v, v = box n := ⟨_, rfl⟩
  rw [← hv] at Hc ⊢
  clear hv
  go_enter Tryd.func109, Tryd.ntmps109
  go_wp2_with fail
  refine (Hc.out _).mono ?_
  rintro e w' ⟨rfl, ⟨nd, rfl⟩⟩
  go_wp2_with fail
  go_ret2
  exact ⟨rfl, by repeat (first | exact Drawn0.refl _ | apply Drawn0.step)⟩
theorem toInt64E_int (n : Int) (w : World) :
    Calls Tryd.prog 100 #[box n] w fun e w' => e = .returned (.tuple #[.int .i64 n, .nilIface]) ∧ Drawn0 w w' := by
  have Hc := Lib.hid (fun w => toNumberE_int n w)
  obtain ⟨v, hv⟩ : ∃ v, v = box n := ⟨_, rfl⟩
  rw [← hv] at Hc ⊢
  clear hv
  go_enter Tryd.func100, Tryd.ntmps100
  go_wp2_with fail
  refine (Hc.out _).mono ?_
  rintro e w' ⟨rfl, ⟨nd, rfl⟩⟩
  go_wp2_with fail
  go_ret2
  exact ⟨rfl, by repeat (first | exact Drawn0.refl _ | apply Drawn0.step)⟩
theorem castToInt64_int (n : Int) (w : World) :
    Calls Tryd.prog 81 #[box n] w fun e w' => e = .returned (.int .i64 n) ∧ Drawn0 w w' := by
  have Hc := Lib.hid (fun w => toInt64E_int n w)
  obtain ⟨v, hv⟩ : ∃ v, v = box n := ⟨_, rfl⟩
  rw [← hv] at Hc ⊢
  clear hv
  go_enter Tryd.func81, Tryd.ntmps81
  go_wp2_with fail
  refine (Hc.out _).mono ?_
  rintro e w' ⟨rfl, ⟨nd, rfl⟩⟩
  go_wp2_with fail
  go_ret
  exact ⟨rfl, by repeat (first | exact Drawn0.refl _ | apply Drawn0.step)⟩
theorem toInt64_int (n : Int) (w : World) :
    Calls Tryd.prog 66 #[box n] w fun e w' => e = .returned (.int .i64 n) ∧ Drawn0 w w' := by
  have Hc := Lib.hid (fun w => castToInt64_int n w)
  obtain ⟨v, hv⟩ : ∃ v, v = box n := ⟨_, rfl⟩
  rw [← hv] at Hc ⊢
  clear hv
  go_enter Tryd.func66, Tryd.ntmps66
  go_wp2_with fail
  refine (Hc.out _).mono ?_
  rintro e w' ⟨rfl, ⟨nd, rfl⟩⟩
  go_wp2_with fail
  go_ret
  exact ⟨rfl, by repeat (first | exact Drawn0.refl _ | apply Drawn0.step)⟩

end Go.Proofs.YtddddjdcnlidfaaDoor.Giv
