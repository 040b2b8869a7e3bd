/- strconv's table of tens as a condition on the world; strconv.FormatInt and Itoa at base 10 (the shelf's), spec.Decimal. -/
import Derived.Test.YtoebognfkigooaaGreatDoorShelf
import Derived.Test.YtoebognfkigooaaGreatDoorTxt
import Derived.WalkKit
import Derived.BigCall
import Derived.Lib.Hide
import Derived.Lib.AppendIntMem
namespace Go.Proofs.YtoebognfkigooaaGreatDoor.Giv
open Go.RowKit Go.Proofs.YtoebognfkigooaaGreatDoorW.PrintWords Go.Proofs.YtoebognfkigooaaGreatDoor.Txt
set_option linter.unusedVariables false
set_option maxRecDepth 20000

/-- The table of tens is as its initialiser says. -/
def Pow10 (w : World) : Prop := Lib.TabIs Tryz.prog w "internal/strconv.uint64pow10" .u64 Lib.pow10Tab
theorem Pow10.below {w w' : World} (h : Pow10 w) (hb : Below w.heap.size w w') : Pow10 w' := by
  have hg : Tryz.prog.globalNamed "internal/strconv.uint64pow10" = some 5 := by kernel_rfl
  unfold Pow10 Lib.TabIs World.var? at h ⊢
  rw [hg] at h ⊢
  simp only [Option.bind_some] at h ⊢
  have hlt : 5 < w.heap.size := by
    rcases Nat.lt_or_ge 5 w.heap.size with h' | h'
    · exact h'
    · rw [Array.getElem?_eq_none h'] at h; cases h
  rw [hb.block _ hlt]
  exact h
/-- A number's decimal numeral. -/
def itoaB (n : Int) : ByteArray := ⟨(Lib.itoa n).toArray⟩
theorem itoa_walk (n : Int) (h0 : -9223372036854775808 ≤ n) (h1 : n ≤ 9223372036854775807) (w : World) (T : Pow10 w) :
    Calls Tryz.prog 89 #[.int .i64 n] w fun e w' => e = .returned (.string (itoaB n)) ∧ Below w.heap.size w w' :=
  (Tryz.strconv_Itoa n h0 h1 w T).mono fun e w' ⟨he, k, os, hw⟩ => ⟨he, by rw [hw]; exact Lib.below_grow _ _ (Nat.le_refl _) _ _⟩
end Go.Proofs.YtoebognfkigooaaGreatDoor.Giv
