/- The table unicode.properties, off a row's cell 'laid'. -/
import Derived.Test.YtpkdoinofenahaaDoorSwap
import Derived.Test.YtpkdoinofenahaaDoorRows
import Derived.Lib.LaidU8
import Derived.LaidMore
import Derived.OpenShut
import Derived.Stop.Joined
namespace Go.Proofs.YtpkdoinofenahaaDoor.Giv
open Go.RowKit

theorem props_eq : (Rows.laid_unicode_properties : DataW Unit) = Lib.tabData .u8 Lib.propertiesTab := by kernel_rfl
theorem props_of_laid {w : World} {l : List (String × DataW Unit)} (h : laidMetH Tryd.prog l w) (hp : ∀ w, laidMetH Tryd.prog l w = laidMet Tryd.prog l w)
    (m : ("unicode.properties", Rows.laid_unicode_properties) ∈ l) : Props w := by
  rw [hp] at h
  have a := Lib.laidMet.reads h m
  rw [props_eq] at a
  obtain ⟨g, t, cs, fuel, p, hg, hty, hvar, hd⟩ := a
  obtain rfl := Option.some.inj ((show Tryd.prog.globalNamed "unicode.properties" = some 0 by kernel_rfl).symm.trans hg)
  obtain rfl := Option.some.inj ((show (Tryd.prog.globals[0]?).map (·.type) = some 86 by kernel_rfl).symm.trans hty)
  have hcs := Lib.cells_of_tab Tryd.underlying86 Tryd.underlying5 (by kernel_rfl) (by kernel_rfl) hd
  unfold Props Lib.TabIs
  rw [hvar]
  congr 1
  rw [← hcs]

end Go.Proofs.YtpkdoinofenahaaDoor.Giv
