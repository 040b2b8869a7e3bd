/- FnTrunc, as a plain statement: the first bytes, or the last ones. For all integers of 64 bits and all texts of at most 2^47 - 4096 bytes. -/
import Derived.Test.YtjpocldnibmopaaPFnTruncx1
import Derived.Test.YtjpocldnibmopaaTxt
namespace Go.Proofs.Ytjpocldnibmopaa.Pure
open Go.RowKit Go.Proofs.Ytjpocldnibmopaa.PFnTrunc Go.Proofs.YtjpocldnibmopaaW.PrintWords Go.Proofs.YtjpocldnibmopaaW.PrintLast Go.Proofs.Ytjpocldnibmopaa.Txt Go.Proofs.Ytjpocldnibmopaa

theorem spec_ev (n : Int) (s : ByteArray) (hs : s.size ≤ 1000) (h0 : -9223372036854775808 ≤ n) (h1 : n ≤ 9223372036854775807) : Ev (fun k => spec_Trunc.f k n s) (Giv.truncS n s) := by
  unfold spec_Trunc.f Giv.truncS
  by_cases hn : n < 0
  · refine Ev.pos hn ?_
    have hw : wrap64 ((s.size : Int) + n) = (s.size : Int) + n := w64 (by omega) (by omega)
    rw [hw]
    by_cases hp : 0 < (s.size : Int) + n
    · rw [decide_eq_true (show (s.size : Int) + n > 0 from hp), if_pos ⟨hn, hp⟩]
      refine Ev.step (f := fun _ => some _) (fun k => ?_) (Ev.now _)
      simp only [spec_Trunc.j0]
      rw [if_pos trivial, hw, if_pos (by omega), if_pos (by omega)]
    · rw [decide_eq_false (show ¬ (s.size : Int) + n > 0 from hp), if_neg (by omega), if_neg (by omega)]
      refine Ev.step (f := fun _ => some _) (fun k => ?_) (Ev.now _)
      simp only [spec_Trunc.j0]
      rw [if_neg (by decide), if_neg (by omega)]
  · rw [if_neg (by omega)]
    refine Ev.neg hn ?_
    by_cases hp : n < (s.size : Int)
    · rw [if_pos (by omega)]
      refine Ev.step (f := fun _ => some _) (fun k => ?_) (Ev.now _)
      simp only [spec_Trunc.j0]
      rw [if_neg (by decide), if_pos (by omega), if_pos (by omega), if_pos (by omega), if_pos (by omega)]
    · rw [if_neg (by omega)]
      refine Ev.step (f := fun _ => some _) (fun k => ?_) (Ev.now _)
      simp only [spec_Trunc.j0]
      rw [if_neg (by decide), if_pos (by omega), if_neg (by omega)]
theorem FnTrunc : laws_FnTrunc.Pure := by
  intro n s hn hs
  apply Ev.rounds
  have hb := wf64 hn
  unfold laws_FnTrunc.f
  by_cases h1 : (s.size : Int) > 2147483647
  · exact Ev.pos h1 (Ev.now _)
  refine Ev.neg h1 ?_
  by_cases h2 : (s.size : Int) > 500
  · exact Ev.pos h2 (Ev.now _)
  refine Ev.neg h2 ?_
  have hi : Giv.impl_Trunc.f n s = some (Giv.truncS n s, true) := by unfold Giv.impl_Trunc.f; rw [if_pos ⟨hb.1, hb.2, by omega⟩]
  refine Ev.thenC hi (Ev.pos rfl (Ev.andThen (spec_ev n s (by omega) hb.1 hb.2) (Ev.const ?_)))
  simp

end Go.Proofs.Ytjpocldnibmopaa.Pure
