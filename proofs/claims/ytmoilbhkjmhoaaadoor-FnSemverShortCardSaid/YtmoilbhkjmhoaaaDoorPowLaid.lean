/- strconv's table of tens, off a row's cell 'laid'. -/
import Derived.Test.YtmoilbhkjmhoaaaDoorPow
import Derived.Test.YtmoilbhkjmhoaaaDoorRows
import Derived.Lib.LaidU8
import Derived.LaidMore
import Derived.OpenShut
import Derived.Stop.Joined
namespace Go.Proofs.YtmoilbhkjmhoaaaDoor.Giv
open Go.RowKit

theorem pow_eq : (Rows.laid_internal_strconv_uint64pow10 : DataW Unit) = Lib.tabData .u64 Lib.pow10Tab := by kernel_rfl
theorem pow_of_laid {w : World} {l : List (String × DataW Unit)} (h : laidMetH Tryd.prog l w) (hp : ∀ w, laidMetH Tryd.prog l w = laidMet Tryd.prog l w)
    (m : ("internal/strconv.uint64pow10", Rows.laid_internal_strconv_uint64pow10) ∈ l) : Pow10 w := by
  rw [hp] at h
  have a := Lib.laidMet.reads h m
  rw [pow_eq] at a
  obtain ⟨g, t, cs, fuel, p, hg, hty, hvar, hd⟩ := a
  obtain rfl := Option.some.inj ((show Tryd.prog.globalNamed "internal/strconv.uint64pow10" = some 0 by kernel_rfl).symm.trans hg)
  obtain rfl := Option.some.inj ((show (Tryd.prog.globals[0]?).map (·.type) = some 119 by kernel_rfl).symm.trans hty)
  have hcs := Lib.cells_of_tab Tryd.underlying119 Tryd.underlying24 (by kernel_rfl) (by kernel_rfl) hd
  unfold Pow10 Lib.TabIs
  rw [hvar]
  congr 1
  rw [← hcs]

end Go.Proofs.YtmoilbhkjmhoaaaDoor.Giv
