/- Semantic versions, plain: what Compare says is cver. -/
import Derived.Test.YtmoilbhkjmhoaaaDoorSvOd
namespace Go.Proofs.YtmoilbhkjmhoaaaDoor.Sv
open Go.RowKit Go.Proofs.YtmoilbhkjmhoaaaDoorW.PrintWords Go.Proofs.YtmoilbhkjmhoaaaDoor.Txt Go.Proofs.YtmoilbhkjmhoaaaDoor
set_option linter.unusedVariables false

theorem dots_emp {ps : List (List UInt8)} (h : ps = [] ∨ PartsOk ps) : (ba (dots ps)).toList.isEmpty = true ↔ ps = [] := by
  rw [tl_ba, List.isEmpty_iff]
  constructor
  · intro e
    rcases h with h | h
    · exact h
    · exact absurd e (dots_ne h)
  · rintro rfl; rfl
theorem cmp_cver (a m p a' m' p' : Nat) (ps os : List (List UInt8)) (hp : ps = [] ∨ PartsOk ps) (ho : os = [] ∨ PartsOk os) :
    cmpV a m p a' m' p' (ba (dots ps)) (ba (dots os)) (cls ps os) = cver ⟨a, m, p, ps⟩ ⟨a', m', p', os⟩ := by
  unfold cmpV cver
  simp only [dots_emp hp, dots_emp ho]
end Go.Proofs.YtmoilbhkjmhoaaaDoor.Sv
