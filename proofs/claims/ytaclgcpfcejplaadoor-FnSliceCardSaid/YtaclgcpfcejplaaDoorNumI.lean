/- Walks of sprig's toInt at a boxed int: what they answer. -/
import Derived.Test.YtaclgcpfcejplaaDoorProg
import Derived.Test.YtaclgcpfcejplaaDoorTxt
import Derived.WalkKit
import Derived.BigCall
import Derived.WalkLawsBesides
import Derived.WalkSpells
import Derived.Outline
import Derived.Lib.Hide
namespace Go.Proofs.YtaclgcpfcejplaaDoor.Giv
open Go.RowKit Go.Proofs.YtaclgcpfcejplaaDoorW.PrintWords Go.Proofs.YtaclgcpfcejplaaDoor.Txt
set_option linter.unusedVariables false
set_option maxRecDepth 20000

/-- An integer as a value of any kind. -/
def boxI (n : Int) : Value := .iface 3 (.int .i64 n)
theorem toNumber_boxed (n : Int) (w : World) :
    Calls Tryd.prog 33 #[boxI n] w fun e w' => e = .returned (.tuple #[.int .i64 n, .bool true]) ∧ Drawn0 w w' := by
  unfold boxI
  have hta : ∀ w, (Instr.typeAssert (.iface 3 (.int .i64 n)) 20 3 true).run Tryd.prog w = .ok (.tuple #[.int .i64 n, .bool true]) w := fun w => by kernel_rfl
  go_enter Tryd.func33, Tryd.ntmps33
  go_wp2_with fail
  go_ret2
  exact ⟨rfl, by repeat (first | exact Drawn0.refl _ | apply Drawn0.step)⟩

theorem toNumberE_boxed (n : Int) (w : World) :
    Calls Tryd.prog 29 #[boxI n, .func (.func 30) #[] #[]] w fun e w' => e = .returned (.tuple #[.int .i64 n, .nilIface]) ∧ Drawn0 w w' := by
  have Hc := Lib.hid (fun w => toNumber_boxed n w)
  obtain ⟨v, hv⟩ : ∃ v, v = boxI n := ⟨_, rfl⟩
  rw [← hv] at Hc ⊢
  clear hv
  go_enter Tryd.func29, Tryd.ntmps29
  go_wp2_with fail
  refine (Hc.out _).mono ?_
  rintro e w' ⟨rfl, ⟨nd, rfl⟩⟩
  go_wp2_with fail
  go_ret2
  exact ⟨rfl, by repeat (first | exact Drawn0.refl _ | apply Drawn0.step)⟩
theorem toIntE_boxed (n : Int) (w : World) :
    Calls Tryd.prog 27 #[boxI n] w fun e w' => e = .returned (.tuple #[.int .i64 n, .nilIface]) ∧ Drawn0 w w' := by
  have Hc := Lib.hid (fun w => toNumberE_boxed n w)
  obtain ⟨v, hv⟩ : ∃ v, v = boxI n := ⟨_, rfl⟩
  rw [← hv] at Hc ⊢
  clear hv
  go_enter Tryd.func27, Tryd.ntmps27
  go_wp2_with fail
  refine (Hc.out _).mono ?_
  rintro e w' ⟨rfl, ⟨nd, rfl⟩⟩
  go_wp2_with fail
  go_ret2
  exact ⟨rfl, by repeat (first | exact Drawn0.refl _ | apply Drawn0.step)⟩
theorem castToInt_boxed (n : Int) (w : World) :
    Calls Tryd.prog 25 #[boxI n] w fun e w' => e = .returned (.int .i64 n) ∧ Drawn0 w w' := by
  have Hc := Lib.hid (fun w => toIntE_boxed n w)
  obtain ⟨v, hv⟩ : ∃ v, v = boxI n := ⟨_, rfl⟩
  rw [← hv] at Hc ⊢
  clear hv
  go_enter Tryd.func25, Tryd.ntmps25
  go_wp2_with fail
  refine (Hc.out _).mono ?_
  rintro e w' ⟨rfl, ⟨nd, rfl⟩⟩
  go_wp2_with fail
  go_ret
  exact ⟨rfl, by repeat (first | exact Drawn0.refl _ | apply Drawn0.step)⟩
theorem toInt_boxed (n : Int) (w : World) :
    Calls Tryd.prog 22 #[boxI n] w fun e w' => e = .returned (.int .i64 n) ∧ Drawn0 w w' := by
  have Hc := Lib.hid (fun w => castToInt_boxed n w)
  obtain ⟨v, hv⟩ : ∃ v, v = boxI n := ⟨_, rfl⟩
  rw [← hv] at Hc ⊢
  clear hv
  go_enter Tryd.func22, Tryd.ntmps22
  go_wp2_with fail
  refine (Hc.out _).mono ?_
  rintro e w' ⟨rfl, ⟨nd, rfl⟩⟩
  go_wp2_with fail
  go_ret
  exact ⟨rfl, by repeat (first | exact Drawn0.refl _ | apply Drawn0.step)⟩

end Go.Proofs.YtaclgcpfcejplaaDoor.Giv
