/- The tables of unicode/utf8, off a row's cell 'laid'. -/
import Derived.Test.YtpkdoinofenahaaDoorTabs
import Derived.Test.YtpkdoinofenahaaDoorRows
import Derived.Lib.LaidU8T
import Derived.LaidMore
import Derived.OpenShut
import Derived.Stop.Joined
namespace Go.Proofs.YtpkdoinofenahaaDoor.Giv
open Go.RowKit

theorem tabs_of_reads {w : World} (h3 : Lib.VarReads Tryd.prog w "unicode/utf8.first" Lib.firstData) (h4 : Lib.VarReads Tryd.prog w "unicode/utf8.acceptRanges" Lib.acceptData) : Tabs w :=
  utf8Tabs_of_readsT (ρ := Tryd.lays197_ren) { Tryd.lays197 with } ⟨by kernel_rfl, by kernel_rfl, by kernel_rfl, by kernel_rfl, by kernel_rfl, by kernel_rfl, by kernel_rfl⟩ h3 h4
theorem first_eq : (Rows.laid_unicode_utf8_first : DataW Unit) = Lib.firstData := by kernel_rfl
theorem accept_eq : (Rows.laid_unicode_utf8_acceptRanges : DataW Unit) = Lib.acceptData := by kernel_rfl
theorem tabs_of_laid {w : World} {l : List (String × DataW Unit)} (h : laidMetH Tryd.prog l w) (hp : ∀ w, laidMetH Tryd.prog l w = laidMet Tryd.prog l w)
    (m3 : ("unicode/utf8.first", Rows.laid_unicode_utf8_first) ∈ l) (m4 : ("unicode/utf8.acceptRanges", Rows.laid_unicode_utf8_acceptRanges) ∈ l) : Tabs w := by
  rw [hp] at h
  have a := Lib.laidMet.reads h m3
  have b := Lib.laidMet.reads h m4
  rw [first_eq] at a
  rw [accept_eq] at b
  exact tabs_of_reads a b

end Go.Proofs.YtpkdoinofenahaaDoor.Giv
