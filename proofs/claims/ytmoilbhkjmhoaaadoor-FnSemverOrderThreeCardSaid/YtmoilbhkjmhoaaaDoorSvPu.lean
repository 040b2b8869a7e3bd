/- strconv.ParseUint, at whatever text: the number, or an error. -/
import Derived.Test.YtmoilbhkjmhoaaaDoorSvOt
import Derived.Test.YtmoilbhkjmhoaaaDoorShelf
namespace Go.Proofs.YtmoilbhkjmhoaaaDoor.Sv
open Go.RowKit Go.Proofs.YtmoilbhkjmhoaaaDoor.PFnSemverOrderThree Go.Proofs.YtmoilbhkjmhoaaaDoorW.PrintWords Go.Proofs.YtmoilbhkjmhoaaaDoor.Txt Go.Proofs.YtmoilbhkjmhoaaaDoor
set_option linter.unusedVariables false
/-- Both errors are laid. -/
def ErrsOk (w : World) : Prop := (∃ tp p, w.var? Tryd.prog "strconv.ErrSyntax" = some #[.iface tp p]) ∧ (∃ tp p, w.var? Tryd.prog "strconv.ErrRange" = some #[.iface tp p])
theorem pu_says {a : ByteArray} (ha : a.size ≤ 1000) {W : World} (T : ErrsOk W) : Calls Tryd.prog 42 #[.string a, .int .i64 10, .int .i64 64] W (PuSays a W) := by
  obtain ⟨⟨tp, p, hv⟩, ⟨tp', p', hv'⟩⟩ := T
  cases hx : Lib.parseUintB 64 a.toList with
  | ok u =>
    refine (uint_walk ha hx W).mono ?_
    rintro e w' ⟨rfl, hb⟩
    exact ⟨u, _, rfl, Lib.hid (.inl ⟨by unfold num; rw [hx], rfl⟩), Lib.hid hb⟩
  | range =>
    have hn : num a.toList = none := by unfold num; rw [hx]
    rw [Lib.toList_data] at hx
    refine (Tryd.strconv_ParseUint_10_at64_range_var a (by omega) hx tp' p' W hv').mono ?_
    rintro e w' ⟨N, rfl, -, -, hb⟩
    exact ⟨18446744073709551615, _, rfl, Lib.hid (.inr ⟨hn, _, _, rfl⟩), Lib.hid hb⟩
  | _ =>
    have hn : num a.toList = none := by unfold num; rw [hx]
    rw [Lib.toList_data] at hx
    refine (Tryd.strconv_ParseUint_10_at64_syntax_var a (by omega) hx tp p W hv).mono ?_
    rintro e w' ⟨N, rfl, -, -, hb⟩
    exact ⟨0, _, rfl, Lib.hid (.inr ⟨hn, _, _, rfl⟩), Lib.hid hb⟩
end Go.Proofs.YtmoilbhkjmhoaaaDoor.Sv
