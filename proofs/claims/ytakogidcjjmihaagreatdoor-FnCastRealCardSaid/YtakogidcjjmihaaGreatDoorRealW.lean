/- Floats of 64 bits: IsNaN, Abs, Trunc, and a real as an integer, by cast. -/
import Derived.Test.YtakogidcjjmihaaGreatDoorRealPl
import Derived.Test.YtakogidcjjmihaaGreatDoorTDec
import Derived.Laws.Externs
namespace Go.Proofs.YtakogidcjjmihaaGreatDoor.Re
open Go.RowKit Ieee Go.Proofs.YtakogidcjjmihaaGreatDoorW.PrintWords Go.Proofs.YtakogidcjjmihaaGreatDoor.Txt
set_option linter.unusedVariables false
set_option linter.unusedSimpArgs false
set_option maxRecDepth 100000
theorem andNot63 (x : Nat) (h : x < 18446744073709551616) : bits BinOp.andNot IntKind.u64 (x : Int) 9223372036854775808 = ((x % 9223372036854775808 : Nat) : Int) := by
  have e : (BitVec.ofInt 64 (x : Int) &&& ~~~(BitVec.ofInt 64 9223372036854775808)).toNat = x % 9223372036854775808 := by
    have ha : (BitVec.ofInt 64 (x : Int)).toNat = x := by
      rw [BitVec.ofInt_natCast, BitVec.toNat_ofNat]
      exact Nat.mod_eq_of_lt h
    have hm : (BitVec.ofNat 64 (2 ^ 63 - 1)).toNat = 2 ^ 63 - 1 := by decide
    rw [BitVec.toNat_and, ha, show ~~~(BitVec.ofInt 64 9223372036854775808) = BitVec.ofNat 64 (2 ^ 63 - 1) by decide, hm, Nat.and_two_pow_sub_one_eq_mod]
  show IntKind.u64.wrap ((BitVec.ofInt 64 (x : Int) &&& ~~~(BitVec.ofInt 64 9223372036854775808)).toNat : Int) = _
  rw [e]
  exact Pu.u64w _ (by omega) (by omega)
theorem isNaN_walk (x : Nat) (w : World) :
    Calls Tryz.prog 6 #[.float .f64 x] w fun e w' => e = .returned (.bool (!(FloatKind.f64.format.order x x == some .eq))) ∧ w' = w := by
  go_enter Tryz.func6, Tryz.ntmps6
  go_wp2_with fail
  go_ret
  exact ⟨rfl, rfl⟩
theorem abs_walk (x : Nat) (hx : x < 18446744073709551616) (w : World) :
    Calls Tryz.prog 7 #[.float .f64 x] w fun e w' => e = .returned (.float .f64 (x % 9223372036854775808)) ∧ w' = w := by
  have hb := andNot63 x hx
  have c1 : ∀ W, (callFunc 15 #[.float .f64 x]).run Tryz.prog W = .ok (.value (.int .u64 (x : Int))) W := fun W => by
    rw [run_callFunc_extern Tryz.func15 (by kernel_rfl) (by kernel_rfl) (by kernel_rfl) (e := Extern.MathFloatBits.float64bits) (by kernel_rfl)]; rfl
  have ex : (x : Int) % 9223372036854775808 = ((x % 9223372036854775808 : Nat) : Int) := by omega
  have c2 : ∀ W, (callFunc 14 #[.int .u64 ((x : Int) % 9223372036854775808)]).run Tryz.prog W = .ok (.value (.float .f64 (x % 9223372036854775808))) W := fun W => by
    rw [ex, run_callFunc_extern Tryz.func14 (by kernel_rfl) (by kernel_rfl) (by kernel_rfl) (e := Extern.MathFloatBits.float64frombits) (by kernel_rfl)]; rfl
  go_enter Tryz.func7, Tryz.ntmps7
  clear ex
  go_wp2_with fail
  go_ret
  exact ⟨rfl, rfl⟩
theorem trunc_ext (x : Nat) (s : Bool) (m : Nat) (p : Int) (hd : FloatKind.f64.decode x = .number s m p) : Extern.MathFloor.toIntegral "math.archTrunc" .zero #[.float .f64 x] = pure (.float .f64 (FloatKind.f64.encode ((Datum.number s m p).integral .zero))) := by
  conv => lhs; whnf
  rw [hd]
theorem trunc_walk (x s k) (h : (FloatKind.f64.decode x).integral .zero = .number s k 0) (w : World) :
    Calls Tryz.prog 8 #[.float .f64 x] w fun e w' => e = .returned (.float .f64 (FloatKind.f64.encode (.number s k 0))) ∧ w' = w := by
  have c1 : ∀ W, (callFunc 16 #[.float .f64 x]).run Tryz.prog W = .ok (.value (.float .f64 (FloatKind.f64.encode (.number s k 0)))) W := fun W => by
    rw [run_callFunc_extern Tryz.func16 (by kernel_rfl) (by kernel_rfl) (by kernel_rfl) (e := Extern.MathFloor.toIntegral "math.archTrunc" .zero) (by kernel_rfl)]
    cases hd : FloatKind.f64.decode x with
    | nan s t => rw [hd] at h; cases h
    | infinity s => rw [hd] at h; cases h
    | number s' m p => rw [trunc_ext x s' m p hd, ← hd, h]; rfl
  clear h
  go_enter Tryz.func8, Tryz.ntmps8
  go_wp2_with fail
  go_ret
  exact ⟨rfl, rfl⟩
end Go.Proofs.YtakogidcjjmihaaGreatDoor.Re
