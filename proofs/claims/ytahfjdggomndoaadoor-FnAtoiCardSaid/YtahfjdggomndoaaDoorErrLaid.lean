/- strconv.ErrSyntax holds an error: off a row's cell 'laid' in which it stands fifth. -/
import Derived.Test.YtahfjdggomndoaaDoorAtoi
import Derived.Test.YtahfjdggomndoaaDoorRows
import Derived.LaidMore
import Derived.OpenShut
import Derived.Stop.Joined
import Derived.Stop.LaidErr
namespace Go.Proofs.YtahfjdggomndoaaDoor.Giv
open Go.RowKit Go.ChangeShapes

theorem err_row (u : TypeId) (h : Tryd.prog.typeName? 3 u = some "*errors.errorString") : u = 78 := by
  have star : "*" ++ "errors.errorString" = "*errors.errorString" := by decide
  exact typeName_ptr_named (nm := "errors.errorString") (by rw [star]; kernel_rfl) (by kernel_rfl) (by decide) u (by rw [star]; exact h)
theorem err_of_laid {w : World} {x0 x1 x2 x3 : String × DataW Unit} {l : List (String × DataW Unit)} (h : laidMetH Tryd.prog (x0 :: x1 :: x2 :: x3 :: ("strconv.ErrSyntax", Rows.laid_strconv_ErrSyntax) :: l) w) (hp : ∀ w, laidMetH Tryd.prog (x0 :: x1 :: x2 :: x3 :: ("strconv.ErrSyntax", Rows.laid_strconv_ErrSyntax) :: l) w = laidMet Tryd.prog (x0 :: x1 :: x2 :: x3 :: ("strconv.ErrSyntax", Rows.laid_strconv_ErrSyntax) :: l) w) : ErrV w := by
  rw [hp] at h
  obtain ⟨a, s, hv, _⟩ := laid_sentinel (laidMet.tail (laidMet.tail (laidMet.tail (laidMet.tail h)))) (show Tryd.prog.globalNamed "strconv.ErrSyntax" = some 1 by kernel_rfl) (show (Tryd.prog.globals[1]?).map (·.type) = some 35 by kernel_rfl) Tryd.underlying35 err_row Tryd.underlying78 Tryd.underlying80 rfl rfl Tryd.underlying9 (by kernel_rfl) (by kernel_rfl)
  exact ⟨_, _, hv⟩

end Go.Proofs.YtahfjdggomndoaaDoor.Giv
