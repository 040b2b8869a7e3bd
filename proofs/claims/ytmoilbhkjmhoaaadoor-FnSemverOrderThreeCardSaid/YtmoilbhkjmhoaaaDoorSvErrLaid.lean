/- strconv's two errors, off a row's cell 'laid' in which they stand fourth and fifth. -/
import Derived.Test.YtmoilbhkjmhoaaaDoorSvPu
import Derived.Test.YtmoilbhkjmhoaaaDoorRows
import Derived.LaidMore
import Derived.OpenShut
import Derived.Stop.Joined
import Derived.Stop.LaidErr
namespace Go.Proofs.YtmoilbhkjmhoaaaDoor.Sv
open Go.RowKit Go.ChangeShapes

theorem err_row (u : TypeId) (h : Tryd.prog.typeName? 3 u = some "*errors.errorString") : u = 88 := by
  have star : "*" ++ "errors.errorString" = "*errors.errorString" := by decide
  exact typeName_ptr_named (nm := "errors.errorString") (by rw [star]; kernel_rfl) (by kernel_rfl) (by decide) u (by rw [star]; exact h)
theorem errs_of_laid {w : World} {x0 x1 x2 : String × DataW Unit} {l : List (String × DataW Unit)} (h : laidMetH Tryd.prog (x0 :: x1 :: x2 :: ("strconv.ErrRange", Rows.laid_strconv_ErrRange) :: ("strconv.ErrSyntax", Rows.laid_strconv_ErrSyntax) :: l) w) (hp : ∀ w, laidMetH Tryd.prog (x0 :: x1 :: x2 :: ("strconv.ErrRange", Rows.laid_strconv_ErrRange) :: ("strconv.ErrSyntax", Rows.laid_strconv_ErrSyntax) :: l) w = laidMet Tryd.prog (x0 :: x1 :: x2 :: ("strconv.ErrRange", Rows.laid_strconv_ErrRange) :: ("strconv.ErrSyntax", Rows.laid_strconv_ErrSyntax) :: l) w) : ErrsOk w := by
  rw [hp] at h
  obtain ⟨a, s, hv, _⟩ := laid_sentinel (laidMet.tail (laidMet.tail (laidMet.tail h))) (show Tryd.prog.globalNamed "strconv.ErrRange" = some 2 by kernel_rfl) (show (Tryd.prog.globals[2]?).map (·.type) = some 53 by kernel_rfl) Tryd.underlying53 err_row Tryd.underlying88 Tryd.underlying90 rfl rfl Tryd.underlying9 (by kernel_rfl) (by kernel_rfl)
  obtain ⟨a', s', hv', _⟩ := laid_sentinel (laidMet.tail (laidMet.tail (laidMet.tail (laidMet.tail h)))) (show Tryd.prog.globalNamed "strconv.ErrSyntax" = some 1 by kernel_rfl) (show (Tryd.prog.globals[1]?).map (·.type) = some 53 by kernel_rfl) Tryd.underlying53 err_row Tryd.underlying88 Tryd.underlying90 rfl rfl Tryd.underlying9 (by kernel_rfl) (by kernel_rfl)
  exact ⟨⟨_, _, hv'⟩, ⟨_, _, hv⟩⟩
end Go.Proofs.YtmoilbhkjmhoaaaDoor.Sv
