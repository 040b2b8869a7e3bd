/- What a right value is (spec.Right), said in Lean. -/
import Derived.Test.YtkikkeegdooenaaGreatDoorValW2
namespace Go.Proofs.YtkikkeegdooenaaGreatDoor.Vals
open Go.RowKit Go.Proofs.YtkikkeegdooenaaGreatDoorW.PrintWords
set_option linter.unusedVariables false
set_option maxRecDepth 20000

/-- A float goes into a cell as it is. -/
theorem store_float (a : Addr) (b : Nat) (w : World) : (store a (.float .f64 b)).run Tryz.prog w = stored Tryz.prog w a (.float .f64 b) .plain := run_store _ w a _ .plain rfl

theorem below3 (w : World) (a b c : Obj) : Below w.heap.size w (((w.alloc a).alloc b).alloc c) :=
  (((Below.refl _ _).alloc (Nat.le_refl _) _).alloc (by simp) _).alloc (by simp; omega) _
/-- What a value of this kind may hold besides keys and a list. -/
def BareOf (k n : Int) (r : Nat) (t : ByteArray) (n' : Int) (r' : Nat) (t' : ByteArray) : Prop :=
  (0 ≤ k ∧ k ≤ 7) ∧ (n' = if k = 1 then bits .and .i64 n 1 else if k = 2 ∨ k = 3 then n else 0) ∧ (r' = if k = 4 then r else 0) ∧ (t' = if k = 5 then t else ⟨#[]⟩)

def leqB (a b : ByteArray) : Bool := Op.bytesLess a.toList b.toList || a.toList == b.toList
/-- What is asked of the i-th key. -/
def KeyOk (ks : List ByteArray) (i : Nat) : Prop := (ks.getD i ⟨#[]⟩).size ≤ 300 ∧ (0 < i → leqB (ks.getD i ⟨#[]⟩) (ks.getD (i - 1) ⟨#[]⟩) = false)
theorem BareOf.uniq {k n : Int} {r : Nat} {t : ByteArray} {n1 n2 : Int} {r1 r2 : Nat} {t1 t2 : ByteArray} (h1 : BareOf k n r t n1 r1 t1) (h2 : BareOf k n r t n2 r2 t2) : n1 = n2 ∧ r1 = r2 ∧ t1 = t2 :=
  ⟨h1.2.1.trans h2.2.1.symm, h1.2.2.1.trans h2.2.2.1.symm, h1.2.2.2.trans h2.2.2.2.symm⟩
/-- A float that less itself is 0. -/
def finB (r : Nat) : Bool := match floatBits .sub .f64 r r with | some q => feq q 0 | none => false
theorem finB_refl {r : Nat} (h : finB r = true) : feq r r = true := by
  unfold finB at h
  cases hs : floatBits .sub .f64 r r with
  | none => rw [hs] at h; cases h
  | some q => exact sub_some hs
mutual
/-- A right value, so many levels deep at most. -/
def Right : V → Int → Prop
  | .mk k n r t ks l, d => (∃ n' r' t', BareOf k n r t n' r' t' ∧ bareB k n r t k n' r' t' = true) ∧ finB r = true ∧ t.size ≤ 300 ∧ (k ≠ 6 → k ≠ 7 → l.length = 0) ∧ l.length ≤ 300 ∧ d ≠ 0 ∧
      (k ≠ 7 → ks.length = 0) ∧ (k = 7 → ks.length = l.length) ∧ (k = 7 → ∀ i, i < l.length → KeyOk ks i) ∧ Rights l (d - 1)
def Rights : List V → Int → Prop
  | [], _ => True
  | v :: r, d => Right v d ∧ Rights r d
end
theorem Rights.mk : ∀ {l : List V} {d : Int}, (∀ i (h : i < l.length), Right l[i] d) → Rights l d
  | [], _, _ => by unfold Rights; trivial
  | v :: r, d, h => by unfold Rights; exact ⟨h 0 (by simp), Rights.mk fun i hi => h (i + 1) (by simpa using hi)⟩
theorem Rights.at_ : ∀ {l : List V} {d : Int}, Rights l d → ∀ i (h : i < l.length), Right l[i] d
  | [], _, _, i, h => absurd h (by simp)
  | v :: r, d, h, i, hi => by
    unfold Rights at h
    cases i with
    | zero => exact h.1
    | succ i => exact Rights.at_ h.2 i (by simpa using hi)
noncomputable def rightB (v : V) (d : Int) : Bool := @decide (Right v d) (Classical.propDecidable _)
theorem rightB_no {v : V} {d : Int} (h : ¬ Right v d) : rightB v d = false := @decide_eq_false _ (Classical.propDecidable _) h
theorem rightB_yes {v : V} {d : Int} (h : Right v d) : rightB v d = true := @decide_eq_true _ (Classical.propDecidable _) h
theorem rightB_iff {v : V} {d : Int} : rightB v d = true ↔ Right v d := @decide_eq_true_iff _ (Classical.propDecidable _)
/-- A bool, this one. -/
def TheBool (r : Bool) (Q : World → Prop) (e : Ending) (w' : World) : Prop := ∃ b, e = .returned (.bool b) ∧ Hid (r = b) ∧ Q w'

end Go.Proofs.YtkikkeegdooenaaGreatDoor.Vals
