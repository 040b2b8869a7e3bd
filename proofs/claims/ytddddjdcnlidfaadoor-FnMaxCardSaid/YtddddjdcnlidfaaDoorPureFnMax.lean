/- FnMax, as a plain statement: the greatest of all, and the least. -/
import Derived.Test.YtddddjdcnlidfaaDoorPFnMaxx1
import Derived.Test.YtddddjdcnlidfaaDoorTxt
namespace Go.Proofs.YtddddjdcnlidfaaDoor.Pure
open Go.RowKit Go.Proofs.YtddddjdcnlidfaaDoor.PFnMax Go.Proofs.YtddddjdcnlidfaaDoorW.PrintWords Go.Proofs.YtddddjdcnlidfaaDoorW.PrintLast Go.Proofs.YtddddjdcnlidfaaDoor.Txt Go.Proofs.YtddddjdcnlidfaaDoor

/-! ### a fold over a list, place by place -/
theorem fold_ev (f : Int → Int → Int) (l : List Int) (hl : l.length ≤ 1000) (g : Nat → Int → Int → Option Int)
    (h : ∀ k x i, g (k + 1) x i = if i < (l.length : Int) then (if 0 ≤ i then g k (f x (l.getD i.toNat 0)) (wrap64 (i + 1)) else none) else some x) (a : Int) : Ev (fun k => g k a 0) (l.foldl f a) := by
  have key : ∀ (d i : Nat) (x : Int), l.length - i = d → i ≤ l.length → Ev (fun k => g k x (i : Int)) ((l.drop i).foldl f x) := by
    intro d
    induction d with
    | zero =>
      intro i x hd hi
      rw [List.drop_eq_nil_of_le (by omega)]
      exact Ev.step (f := fun _ => some x) (fun k => by rw [h, if_neg (by omega)]) (Ev.now _)
    | succ d ih =>
      intro i x hd hi
      have hlt : i < l.length := by omega
      have e : (l.drop i).foldl f x = (l.drop (i + 1)).foldl f (f x (l.getD i 0)) := by
        rw [List.drop_eq_getElem_cons hlt, List.foldl_cons]
        simp [List.getD, List.getElem?_eq_getElem hlt]
      rw [e]
      refine Ev.step (f := fun k => g k (f x (l.getD i 0)) ((i + 1 : Nat) : Int)) (fun k => ?_) (ih (i + 1) _ (by omega) (by omega))
      rw [h, if_pos (by omega), if_pos (by omega), Int.toNat_natCast, wsucc _ (by omega)]
  have := key _ 0 a rfl (Nat.zero_le _)
  simpa using this
theorem FnMax : laws_FnMax.Pure := by
  intro a l _ _ _ _
  apply Ev.rounds
  unfold laws_FnMax.f
  by_cases h1 : (l.length : Int) > 2147483647
  · exact Ev.pos h1 (Ev.now _)
  refine Ev.neg h1 ?_
  by_cases h2 : (l.length : Int) > 50
  · exact Ev.pos h2 (Ev.now _)
  refine Ev.neg h2 ?_
  have hf : Giv.impl_Max.f a l = some (l.foldl (fun x y => if x < y then y else x) a) := by unfold Giv.impl_Max.f; rw [if_pos (by omega)]
  have hf2 : Giv.impl_Biggest.f a l = some (l.foldl (fun x y => if x < y then y else x) a) := by unfold Giv.impl_Biggest.f; rw [if_pos (by omega)]
  have hf3 : Giv.impl_Min.f a l = some (l.foldl (fun x y => if y < x then y else x) a) := by unfold Giv.impl_Min.f; rw [if_pos (by omega)]
  have m1 : ∀ x y : Int, mx x y = if x < y then y else x := fun x y => by unfold mx; first | rfl | (split <;> split <;> omega)
  have m2 : ∀ x y : Int, mn x y = if y < x then y else x := fun x y => by unfold mn; first | rfl | (split <;> split <;> omega)
  have hs : Ev (fun k => spec_Greatest.f k a l) (l.foldl (fun x y => if x < y then y else x) a) :=
    fold_ev (fun x y => if x < y then y else x) l (by omega) (fun k x i => spec_Greatest.l0 k x l i) (fun k x i => by simp only [spec_Greatest.l0, m1]; rfl) a
  have hs2 : Ev (fun k => spec_Least.f k a l) (l.foldl (fun x y => if y < x then y else x) a) :=
    fold_ev (fun x y => if y < x then y else x) l (by omega) (fun k x i => spec_Least.l0 k x l i) (fun k x i => by simp only [spec_Least.l0, m2]; rfl) a
  refine Ev.thenC hf (Ev.andThen hs (Ev.pos rfl (Ev.thenC hf2 (Ev.andThen hs (Ev.pos rfl (Ev.thenC hf3 (Ev.andThen hs2 (Ev.pos rfl (Ev.const ?_)))))))))
  have : Giv.impl_Min.f 3 [2] = some 2 := by decide +kernel
  rw [this]; rfl

end Go.Proofs.YtddddjdcnlidfaaDoor.Pure
