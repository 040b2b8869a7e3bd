/- A text as a value, and its octal digits as a number. -/
import Derived.Test.YtakogidcjjmihaaDoorPInt
namespace Go.Proofs.YtakogidcjjmihaaDoor.Pu
open Go.RowKit Go.Proofs.YtakogidcjjmihaaDoorW.PrintWords Go.Proofs.YtakogidcjjmihaaDoor.Txt
set_option linter.unusedVariables false
set_option linter.unusedSimpArgs false
set_option maxRecDepth 100000
/-- A text as data. -/
abbrev txV (s : ByteArray) : Value := .agg #[.int .i64 5, .int .i64 0, .float .f64 0, .string s, .slice none 0 0, .slice none 0 0]
theorem goOf_tx (s : ByteArray) (w : World) :
    Calls Tryd.prog 7 #[txV s] w fun e w' => e = .returned (.tuple #[.iface 9 (.string s), .bool true]) ∧ Below w.heap.size w w' := by
  have hb := (Below.refl w.heap.size w).alloc (Nat.le_refl _) (.cells #[.int .i64 5, .int .i64 0, .float .f64 0, .string s, .slice none 0 0, .slice none 0 0] 28)
  have HB := Lib.hid hb
  clear hb
  go_enter Tryd.func7, Tryd.ntmps7
  go_wp2_with fail
  go_ret2
  exact ⟨rfl, HB.out⟩
end Go.Proofs.YtakogidcjjmihaaDoor.Pu
