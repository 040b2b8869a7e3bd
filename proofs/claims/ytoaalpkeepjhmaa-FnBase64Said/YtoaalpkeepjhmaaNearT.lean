/- A region that draws its order: its head reads old memory and makes calls, in whatever order; its last operations come last, one behind the other. -/
import Derived.Test.YtoaalpkeepjhmaaSplit
import Derived.Test.YtoaalpkeepjhmaaNear
namespace Go.Proofs.Ytoaalpkeepjhmaa.Split
open Go
set_option linter.unusedVariables false

theorem wp_region_neartail {P : Program} {Q : Exit → Act → World → Prop} {l : List Oper} {id : Nat} {a : Act} {w : World} (n : Nat) (C : World → Prop) (hm : P.follows .mixedOrders = true) (hB : splitB .any l.toArray n = true) (hX : Region.lexB .any (l.take n).toArray = true) (hC : C w.drew)
    (h : wpQuiet P (l.take n).toArray C (fun a' => ∀ w', C w' → wpList P l.toArray Q (l.drop n) a' w') (l.take n) a) : (Code.region id l.toArray true).wp P Q a w := by
  have hn : n < l.toArray.size := by
    simp only [splitB, Bool.and_eq_true, decide_eq_true_eq] at hB
    exact hB.1.1.1.1.1
  refine wp_region_any hm ?_
  have inv0 : HeadInv .any l.toArray n (Array.replicate l.toArray.size false) :=
    ⟨by simp, fun j oj _ hl => (by rw [getD_replicate_false] at hl; cases hl), fun t _ ht => getD_in (by simpa using ht) (getD_replicate_false _ _)⟩
  have hsz : (l.take n).toArray.size = n := by simp at hn ⊢; omega
  have hq : wpAny P .any (l.take n).toArray (TailQ P l.toArray (l.drop n) Q) n (Array.replicate n false) a w.drew := by
    simp only [Region.lexB, Bool.and_eq_true] at hX
    have h1 := wpAnyQ_lex (P := P) (C := C) (Q := fun a' => ∀ w', C w' → TailQ P l.toArray (l.drop n) Q .normal a' w') (md := .any) hX.1 (l.take n).toArray.toList 0 (Array.replicate (l.take n).toArray.size false) a (by simp) (by simpa using hX.2) (show wpQuiet P (l.take n).toArray C _ (l.take n) a from h)
    rw [hsz] at h1
    have h2 : wpAnyQ P .any (l.take n).toArray C (fun a' => ∀ w', C w' → TailQ P l.toArray (l.drop n) Q .normal a' w') n (Array.replicate n false) a := by
      have h3 : (l.take n).toArray.toList.length = n := by simpa using hsz
      rw [h3] at h1
      exact h1
    exact wpAny_of_quiet (Q := fun a' => ∀ w', C w' → TailQ P l.toArray (l.drop n) Q .normal a' w') (fun _ w' hw' h => h w' hw') _ _ _ _ hC h2
  have := wpAny_split (P := P) (Q := Q) hB n (Array.replicate l.toArray.size false) (Array.replicate n false) a w.drew inv0 ⟨by simp, fun j hj => by rw [getD_replicate_false, getD_replicate_false]⟩ hq
  rw [show n + (l.toArray.size - n) = l.toArray.size by omega] at this
  exact this
end Go.Proofs.Ytoaalpkeepjhmaa.Split
