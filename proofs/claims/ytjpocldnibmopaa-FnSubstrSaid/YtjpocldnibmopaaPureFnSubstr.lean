/- FnSubstr, as a plain statement: the bytes from a place to another one. For all integers of 64 bits and all texts of at most 2^47 - 4096 bytes. -/
import Derived.Test.YtjpocldnibmopaaPFnSubstrx1
import Derived.Test.YtjpocldnibmopaaTxt
namespace Go.Proofs.Ytjpocldnibmopaa.Pure
open Go.RowKit Go.Proofs.Ytjpocldnibmopaa.PFnSubstr Go.Proofs.YtjpocldnibmopaaW.PrintWords Go.Proofs.YtjpocldnibmopaaW.PrintLast Go.Proofs.Ytjpocldnibmopaa.Txt Go.Proofs.Ytjpocldnibmopaa

theorem spec_ev (a b : Int) (s : ByteArray) (_hs : s.size ≤ 1000) : Ev (fun k => spec_Substr.f k a b s) ((Giv.subS a b s).getD ⟨#[]⟩, (Giv.subS a b s).isSome) := by
  unfold spec_Substr.f Giv.subS
  by_cases ha : a < 0
  · refine Ev.pos ha ?_
    rw [if_pos ha]
    have t : Ev (fun k => spec_Substr.j0 k 0 b s true) ((⟨#[]⟩ : ByteArray), false) := Ev.step (f := fun _ => some _) (fun k => by simp only [spec_Substr.j0]; rw [if_pos trivial]) (Ev.now _)
    by_cases hb : b < 0
    · refine Ev.pos hb ?_
      rw [if_neg (by omega)]; exact t
    · refine Ev.neg hb ?_
      by_cases hb' : b > (s.size : Int)
      · rw [decide_eq_true hb', if_neg (by omega)]; exact t
      · rw [decide_eq_false hb', if_pos (by omega)]
        refine Ev.step (f := fun _ => some _) (fun k => ?_) (Ev.now _)
        simp only [spec_Substr.j0]
        rw [if_neg (by decide), if_neg (by omega), if_pos (by omega), if_pos (by omega), if_pos (by omega)]; rfl
  · refine Ev.neg ha ?_
    rw [if_neg ha]
    have t : Ev (fun k => spec_Substr.j1 k a b s true) ((if a ≤ s.size then some (s.extract a.toNat s.size) else none : Option ByteArray).getD ⟨#[]⟩, (if a ≤ s.size then some (s.extract a.toNat s.size) else none : Option ByteArray).isSome) := by
      by_cases h : a ≤ (s.size : Int)
      · rw [if_pos h]
        refine Ev.step (f := fun _ => some _) (fun k => ?_) (Ev.now _)
        simp only [spec_Substr.j1]
        rw [if_pos trivial, if_neg (by omega), if_pos (by omega), if_pos h, if_pos (Int.le_refl _), Int.toNat_natCast]; rfl
      · rw [if_neg h]
        refine Ev.step (f := fun _ => some _) (fun k => ?_) (Ev.now _)
        simp only [spec_Substr.j1]
        rw [if_pos trivial, if_pos (by omega)]; rfl
    by_cases hb : b < 0
    · rw [if_pos (.inl hb)]; exact Ev.pos hb t
    · refine Ev.neg hb ?_
      by_cases hb' : b > (s.size : Int)
      · rw [decide_eq_true hb', if_pos (.inr hb')]; exact t
      · rw [decide_eq_false hb', if_neg (by omega)]
        by_cases h : a ≤ b
        · rw [if_pos h]
          refine Ev.step (f := fun _ => some _) (fun k => ?_) (Ev.now _)
          simp only [spec_Substr.j1]
          rw [if_neg (by decide), if_neg (by omega), if_pos (by omega), if_pos h, if_pos (by omega)]; rfl
        · rw [if_neg h]
          refine Ev.step (f := fun _ => some _) (fun k => ?_) (Ev.now _)
          simp only [spec_Substr.j1]
          rw [if_neg (by decide), if_pos (by omega)]; rfl
theorem FnSubstr : laws_FnSubstr.Pure := by
  intro a b s ha hb hs
  apply Ev.rounds
  have wa := wf64 ha; have wb := wf64 hb
  unfold laws_FnSubstr.f
  by_cases h1 : (s.size : Int) > 2147483647
  · exact Ev.pos h1 (Ev.now _)
  refine Ev.neg h1 ?_
  by_cases h2 : (s.size : Int) > 500
  · exact Ev.pos h2 (Ev.now _)
  refine Ev.neg h2 ?_
  have hi : Giv.impl_Substr.f a b s = some ((Giv.subS a b s).getD ⟨#[]⟩, (Giv.subS a b s).isSome) := by unfold Giv.impl_Substr.f; rw [if_pos ⟨wa.1, wa.2, wb.1, wb.2, by omega⟩]
  refine Ev.andThen (spec_ev a b s (by omega)) (Ev.thenC hi (Ev.pos (by simp) (Ev.const ?_)))
  cases (Giv.subS a b s).isSome <;> simp

end Go.Proofs.Ytjpocldnibmopaa.Pure
