/- Floats of 64 bits: when two are alike by ==, and when a float less itself is 0. -/
import Derived.Test.YtkikkeegdooenaaGreatDoorProg
import Derived.WalkKit
import Derived.Laws.FloatArith
namespace Go.Proofs.YtkikkeegdooenaaGreatDoor.Vals
open Go.RowKit
set_option linter.unusedVariables false

/-- Floats that are alike by ==. -/
def feq (a b : Nat) : Bool := FloatKind.f64.format.order a b == some .eq
theorem feq_def (a b : Nat) : feq a b = (FloatKind.f64.format.order a b == some .eq) := rfl
theorem cmp_eq (x y : Int) : compare x y = .eq ↔ x = y := by
  simp only [compare, compareOfLessAndEq]
  split <;> rename_i h
  · exact ⟨fun h' => (by cases h'), fun h' => (by omega)⟩
  · split <;> rename_i h'
    · exact ⟨fun _ => h', fun _ => rfl⟩
    · exact ⟨fun h2 => (by cases h2), fun h2 => absurd h2 h'⟩
theorem datum_symm (a b : Ieee.Datum) : (a.order b == some .eq) = (b.order a == some .eq) := by
  cases a <;> cases b <;> simp only [Ieee.Datum.order]
  case number.number s m i t n j =>
    rw [Int.min_comm j i]
    rw [Bool.eq_iff_iff]; simp only [beq_iff_eq, Option.some.injEq, cmp_eq]; exact eq_comm
  case infinity.infinity s t => cases s <;> cases t <;> rfl
  case number.infinity s m i t => cases t <;> rfl
  case infinity.number t s m i => cases t <;> rfl
theorem feq_symm (a b : Nat) : feq a b = feq b a := datum_symm _ _
theorem datum_refl (a : Ieee.Datum) : (a.order a == some .eq) = !a.isNaN := by
  cases a with
  | number s m i =>
    simp only [Ieee.Datum.order, Ieee.Datum.isNaN]
    have := (cmp_eq (Ieee.signed s m (i - min i i).toNat) _).2 rfl
    rw [this]; rfl
  | infinity s => cases s <;> rfl
  | nan s f => rfl
theorem feq_refl (a : Nat) : feq a a = !(FloatKind.f64.decode a).isNaN := datum_refl _
theorem feq_nan {a b : Nat} (h : (FloatKind.f64.decode a).isNaN = true) : feq a b = false := by
  unfold feq FloatKind.decode at *
  unfold Ieee.Format.order
  cases he : FloatKind.f64.format.read a <;> rw [he] at h <;> simp_all [Ieee.Datum.isNaN, Ieee.Datum.order]
theorem feq_refl_of {a b : Nat} (h : feq a b = true) : feq a a = true := by
  rw [feq_refl]
  cases hn : (FloatKind.f64.decode a).isNaN with
  | false => rfl
  | true => rw [feq_nan hn] at h; cases h
theorem feq_zero : feq 0 0 = true := by decide
/-- A float that less itself is something is no NaN. -/
theorem sub_some {r q : Nat} (h : floatBits .sub .f64 r r = some q) : feq r r = true := by
  rw [feq_refl]
  unfold floatBits at h
  simp only [Ieee.Format.sub, FloatKind.decode] at *
  cases he : FloatKind.f64.format.read r <;> rw [he] at h <;> simp_all [Ieee.Datum.isNaN, Ieee.Datum.sum]
theorem nan_bits (t : Nat) (x y : Nat) : (FloatKind.f64.decode ((Question.nanBits .f64 x y).cut t)).isNaN = true := by
  have hcut : (Question.nanBits .f64 x y).cut t = (t % 2) * 2 ^ 63 + 0x7ff0000000000000 + 1 + (t / 2) % (2 ^ 52 - 1) := rfl
  rw [hcut]
  have hj : (t / 2) % (2 ^ 52 - 1) < 2 ^ 52 - 1 := Nat.mod_lt _ (by decide)
  generalize (t / 2) % (2 ^ 52 - 1) = j at *
  have hs : t % 2 < 2 := Nat.mod_lt _ (by decide)
  generalize t % 2 = s at *
  have e1 : FloatKind.f64.format.signWeight = 9223372036854775808 := rfl
  have e2 : FloatKind.f64.format.binade = 4503599627370496 := rfl
  have e3 : FloatKind.f64.format.infRung = 9218868437227405312 := rfl
  have hm : (s * 2 ^ 63 + 0x7ff0000000000000 + 1 + j) % 9223372036854775808 = 9218868437227405312 + 1 + j := by omega
  unfold FloatKind.decode Ieee.Format.read
  simp only [e1, e2, e3, hm]
  rw [if_neg (by omega), if_neg (by omega), if_neg (by omega)]
  rfl
/-- A NaN comes of a sum that is none: its bits are drawn. -/
theorem run_sub_none {P : Program} (t : TypeId) (r : Nat) (h : floatBits .sub .f64 r r = none) (w : World) : ∃ q, (binOp .sub t (.float .f64 r) (.float .f64 r)).run P w = .ok (.float .f64 q) w.drew ∧ ∀ b, feq q b = false := by
  unfold floatBits at h
  refine ⟨(Question.nanBits .f64 r r).cut (w.tape w.drawn (Question.nanBits .f64 r r)), ?_, fun b => feq_nan (nan_bits _ _ _)⟩
  simp [binOp, Op.floatArith, h, Question.forced]
end Go.Proofs.YtkikkeegdooenaaGreatDoor.Vals
