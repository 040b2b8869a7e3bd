/- Walks over impl.Value: sizes, bare values. -/
import Derived.Test.YtaclgcpfcejplaaDoorVals
import Derived.Test.YtaclgcpfcejplaaDoorFlt
import Derived.WalkKit
import Derived.BigCall
import Derived.WalkLawsBesides
import Derived.WalkSpells
import Derived.Outline
import Derived.Lib.Hide
namespace Go.Proofs.YtaclgcpfcejplaaDoor.Vals
open Go.RowKit Go.Proofs.YtaclgcpfcejplaaDoorW.PrintWords
set_option linter.unusedVariables false
set_option maxRecDepth 20000

/-- Two values without keys and lists. -/
def bareB (k n : Int) (r : Nat) (t : ByteArray) (k' n' : Int) (r' : Nat) (t' : ByteArray) : Bool :=
  decide (k = k') && (decide (n = n') && ((feq r r' || (!feq r r && !feq r' r')) && (t.toList == t'.toList)))

theorem bare_walk (k n : Int) (r : Nat) (t : ByteArray) (kv lv : Value) (k' n' : Int) (r' : Nat) (t' : ByteArray) (kv' lv' : Value) (w : World) :
    Calls Tryd.prog 15 #[.agg #[.int .i64 k, .int .i64 n, .float .f64 r, .string t, kv, lv], .agg #[.int .i64 k', .int .i64 n', .float .f64 r', .string t', kv', lv']] w
      fun e w' => e = .returned (.bool (bareB k n r t k' n' r' t')) ∧ Below w.heap.size w w' := by
  obtain ⟨res, hres⟩ : ∃ res, res = bareB k n r t k' n' r' t' := ⟨_, rfl⟩
  rw [← hres]
  have HR := Lib.hid hres
  clear hres
  go_enter Tryd.func15, Tryd.ntmps15
  go_wp2_with fail
  all_goals go_ret
  all_goals refine ⟨?_, ((Below.refl _ _).alloc (Nat.le_refl _) _).alloc (by simp) _⟩
  all_goals (rw [HR.out]; congr 2; simp [bareB, feq, bne, *])

/-- A bool, whichever. -/
def SomeBool (Q : Bool → World → Prop) (e : Ending) (w' : World) : Prop := ∃ b, e = .returned (.bool b) ∧ Q b w'
end Go.Proofs.YtaclgcpfcejplaaDoor.Vals
