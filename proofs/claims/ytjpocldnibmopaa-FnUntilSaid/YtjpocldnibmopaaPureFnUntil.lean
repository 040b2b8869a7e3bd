/- FnUntil, as a plain statement: until and untilStep tell the rows that the reference tells. For all numbers of 16 bits. -/
import Derived.Test.YtjpocldnibmopaaPFnUntilx2
import Derived.Test.YtjpocldnibmopaaTxt
namespace Go.Proofs.Ytjpocldnibmopaa.Pure
open Go.RowKit Go.Proofs.Ytjpocldnibmopaa.PFnUntil Go.Proofs.YtjpocldnibmopaaW.PrintWords Go.Proofs.YtjpocldnibmopaaW.PrintLast Go.Proofs.Ytjpocldnibmopaa.Txt

/-- A list is the same as itself. -/
theorem same_ev (l : List Int) (hl : l.length ≤ 100000) : Ev (fun k => laws_same7.f k l l) true := by
  have key : ∀ (d i : Nat), l.length - i = d → i ≤ l.length → Ev (fun k => laws_same7.l0 k l l (i : Int)) true := by
    intro d
    induction d with
    | zero =>
      intro i hd hi
      refine Ev.step (f := fun k => laws_same7.j1 k l l i false) (fun k => by simp only [laws_same7.l0]; rw [if_neg (by omega)]) ?_
      exact Ev.step (f := fun _ => some true) (fun k => by simp [laws_same7.j1]) (Ev.now _)
    | succ d ih =>
      intro i hd hi
      refine Ev.step (f := fun k => laws_same7.j1 k l l i true) (fun k => by simp only [laws_same7.l0]; rw [if_pos (by omega), decide_eq_true (by omega)]) ?_
      refine Ev.step (f := fun k => laws_same7.l0 k l l ((i + 1 : Nat) : Int)) (fun k => ?_) (ih (i + 1) (by omega) (by omega))
      simp only [laws_same7.j1, if_true]
      rw [if_pos (by omega), if_pos (by omega), if_pos (by omega), w64 (by omega) (by omega)]; rfl
  exact key _ 0 rfl (Nat.zero_le _)

theorem up (b c : Int) (hb : b ≤ 1000) (hc : 0 < c) (hc' : c ≤ 1000) : ∀ (d : Nat) (acc : List Int) (n : Int), b - n ≤ d → -1000 ≤ n → n ≤ 3000 → acc.length + d ≤ 10000 →
    ∃ r : List Int, r.length ≤ 10000 ∧ Ev (fun k => spec_Row.l0 k b c acc n) (r, true) ∧ Ev (fun k => sprig_untilStep.l1 k b c acc n) r := by
  intro d
  induction d with
  | zero =>
    intro acc n h h1 h2 h3
    refine ⟨acc, by omega, Ev.step (f := fun _ => some (acc, true)) (fun k => ?_) (Ev.now _), Ev.step (f := fun _ => some acc) (fun k => ?_) (Ev.now _)⟩
    · simp only [spec_Row.l0]; rw [if_pos (by omega), if_neg (by omega), if_neg (by omega)]
    · simp only [sprig_untilStep.l1]; rw [if_neg (by omega)]
  | succ d ih =>
    intro acc n h h1 h2 h3
    by_cases hlt : n < b
    · obtain ⟨r, hr, e1, e2⟩ := ih (acc ++ [n]) (n + c) (by omega) (by omega) (by omega) (by simp; omega)
      refine ⟨r, hr, Ev.step (fun k => ?_) e1, Ev.step (fun k => ?_) e2⟩
      · simp only [spec_Row.l0]; rw [if_pos (by omega), if_pos hlt, if_pos (by omega), w64 (by omega) (by omega)]
      · simp only [sprig_untilStep.l1]; rw [if_pos hlt, if_pos (by omega), w64 (by omega) (by omega)]
    · refine ⟨acc, by omega, Ev.step (f := fun _ => some (acc, true)) (fun k => ?_) (Ev.now _), Ev.step (f := fun _ => some acc) (fun k => ?_) (Ev.now _)⟩
      · simp only [spec_Row.l0]; rw [if_pos (by omega), if_neg (by omega), if_neg (by omega)]
      · simp only [sprig_untilStep.l1]; rw [if_neg (by omega)]
theorem down (b c : Int) (hb : -1000 ≤ b) (hc : c < 0) (hc' : -1000 ≤ c) : ∀ (d : Nat) (acc : List Int) (n : Int), n - b ≤ d → -3000 ≤ n → n ≤ 1000 → acc.length + d ≤ 10000 →
    ∃ r : List Int, r.length ≤ 10000 ∧ Ev (fun k => spec_Row.l0 k b c acc n) (r, true) ∧ Ev (fun k => sprig_untilStep.l0 k b c acc n) r := by
  intro d
  induction d with
  | zero =>
    intro acc n h h1 h2 h3
    refine ⟨acc, by omega, Ev.step (f := fun _ => some (acc, true)) (fun k => ?_) (Ev.now _), Ev.step (f := fun _ => some acc) (fun k => ?_) (Ev.now _)⟩
    · simp only [spec_Row.l0]; rw [if_neg (by omega), if_pos (by omega), if_neg (by omega)]
    · simp only [sprig_untilStep.l0]; rw [if_neg (by omega)]
  | succ d ih =>
    intro acc n h h1 h2 h3
    by_cases hlt : n > b
    · obtain ⟨r, hr, e1, e2⟩ := ih (acc ++ [n]) (n + c) (by omega) (by omega) (by omega) (by simp; omega)
      refine ⟨r, hr, Ev.step (fun k => ?_) e1, Ev.step (fun k => ?_) e2⟩
      · simp only [spec_Row.l0]; rw [if_neg (by omega), if_pos (by omega), if_pos hlt, if_pos (by omega), w64 (by omega) (by omega)]
      · simp only [sprig_untilStep.l0]; rw [if_pos hlt, if_pos (by omega), w64 (by omega) (by omega)]
    · refine ⟨acc, by omega, Ev.step (f := fun _ => some (acc, true)) (fun k => ?_) (Ev.now _), Ev.step (f := fun _ => some acc) (fun k => ?_) (Ev.now _)⟩
      · simp only [spec_Row.l0]; rw [if_neg (by omega), if_pos (by omega), if_neg (by omega)]
      · simp only [sprig_untilStep.l0]; rw [if_neg (by omega)]

theorem row_no (a b c : Int) (h : c = 0 ∨ (a < b ∧ c < 0) ∨ (b < a ∧ 0 < c)) : Ev (fun k => spec_Row.f k a b c) ([], false) := by
  have j : Ev (fun k => spec_Row.j0 k a b c true) ([], false) := Ev.step (f := fun _ => some ([], false)) (fun k => by simp only [spec_Row.j0, if_true]) (Ev.now _)
  unfold spec_Row.f
  by_cases h0 : c = 0
  · exact Ev.pos h0 j
  refine Ev.neg h0 ?_
  by_cases h1 : a < b
  · exact Ev.pos h1 (Ev.pos (by omega) j)
  · refine Ev.neg h1 (Ev.pos (by omega) ?_)
    rw [show decide (c > 0) = true from decide_eq_true (by omega)]; exact j
theorem row_yes (a b c : Int) (ha : -300 ≤ a) (ha' : a ≤ 300) (hb : -300 ≤ b) (hb' : b ≤ 300) (hc : -300 ≤ c) (hc' : c ≤ 300) (h : ¬ (c = 0 ∨ (a < b ∧ c < 0) ∨ (b < a ∧ 0 < c))) :
    ∃ r : List Int, r.length ≤ 10000 ∧ Ev (fun k => spec_Row.f k a b c) (r, true) ∧ Ev (fun k => sprig_untilStep.f k a b c) r := by
  have j : ∀ r, Ev (fun k => spec_Row.l0 k b c [] a) (r, true) → Ev (fun k => spec_Row.f k a b c) (r, true) := by
    intro r e
    have e' : Ev (fun k => spec_Row.j0 k a b c false) (r, true) := Ev.step (fun k => by simp only [spec_Row.j0]; rw [if_neg (by decide)]) e
    unfold spec_Row.f
    refine Ev.neg (by omega) ?_
    by_cases h1 : a < b
    · exact Ev.pos h1 (Ev.neg (by omega) (Ev.neg (by omega) e'))
    · refine Ev.neg h1 ?_
      by_cases h2 : a > b
      · refine Ev.pos h2 ?_
        rw [show decide (c > 0) = false from decide_eq_false (by omega)]; exact e'
      · exact Ev.neg h2 e'
  by_cases hu : 0 < c
  · obtain ⟨r, hr, e1, e2⟩ := up b c (by omega) hu (by omega) 600 [] a (by omega) (by omega) (by omega) (by decide)
    refine ⟨r, hr, j r e1, ?_⟩
    unfold sprig_untilStep.f
    exact Ev.thenC rfl (Ev.neg (by omega) (Ev.neg (by omega) e2))
  · by_cases he : a = b
    · obtain ⟨r, hr, e1, e2⟩ := down b c (by omega) (by omega) (by omega) 0 [] a (by omega) (by omega) (by omega) (by decide)
      have : r = [] := by
        refine Ev.uniq e2 (Ev.step (f := fun _ => some []) (fun k => ?_) (Ev.now _))
        simp only [sprig_untilStep.l0]; rw [if_neg (by omega)]
      refine ⟨r, hr, j r e1, ?_⟩
      subst this
      unfold sprig_untilStep.f
      exact Ev.thenC rfl (Ev.neg (by omega) (Ev.pos (by omega) (Ev.now _)))
    · obtain ⟨r, hr, e1, e2⟩ := down b c (by omega) (by omega) (by omega) 600 [] a (by omega) (by omega) (by omega) (by decide)
      refine ⟨r, hr, j r e1, ?_⟩
      unfold sprig_untilStep.f
      exact Ev.thenC rfl (Ev.pos (by omega) (Ev.neg (by omega) e2))

theorem step_ev {a b c : Int} {r : List Int} (h : Ev (fun k => sprig_untilStep.f k a b c) r) : Ev (fun k => impl_UntilStep.f k a b c) r := by
  unfold impl_UntilStep.f sprig_UntilStep.f
  exact Ev.andThen (Ev.andThen h (Ev.now _)) (Ev.now _)
theorem until_ev {m : Int} {r : List Int} (h : Ev (fun k => sprig_untilStep.f k 0 m (if m < 0 then -1 else 1)) r) : Ev (fun k => impl_Until.f k m) r := by
  unfold impl_Until.f sprig_Until.f sprig_until.f
  refine Ev.andThen (Ev.andThen ?_ (Ev.now _)) (Ev.now _)
  by_cases hm : m < 0
  · rw [if_pos hm] at h; exact Ev.pos hm (Ev.andThen h (Ev.now _))
  · rw [if_neg hm] at h; exact Ev.neg hm (Ev.andThen h (Ev.now _))

theorem all_ev (m a b c w : Int) (hw : w = if m < 0 then -1 else 1) (hm : -300 ≤ m) (hm' : m ≤ 300) (ha : -300 ≤ a) (ha' : a ≤ 300) (hb : -300 ≤ b) (hb' : b ≤ 300) (hc : -300 ≤ c) (hc' : c ≤ 300) :
    Ev (fun k => laws_FnUntil.j0 k m a b c w) true := by
  refine Ev.step (fun k => by simp only [laws_FnUntil.j0]; rfl) ?_
  obtain ⟨r, hr, e1, e2⟩ := row_yes 0 m w (by omega) (by omega) hm hm' (by rw [hw]; split <;> omega) (by rw [hw]; split <;> omega) (by rw [hw]; split <;> omega)
  refine Ev.andThen e1 (Ev.andThen (until_ev (by rw [← hw]; exact e2)) (Ev.andThen (same_ev r (by omega)) (Ev.pos rfl ?_)))
  by_cases h : c = 0 ∨ (a < b ∧ c < 0) ∨ (b < a ∧ 0 < c)
  · refine Ev.andThen (row_no a b c h) (Ev.neg (by decide) ?_)
    exact Ev.andThen (a := [0, 1]) (Ev.of (impl_Until.mono 2) (k := 10) (by decide +kernel)) (Ev.now _)
  · obtain ⟨q, hq, f1, f2⟩ := row_yes a b c ha ha' hb hb' hc hc' h
    refine Ev.andThen f1 (Ev.pos rfl (Ev.andThen (step_ev f2) (Ev.andThen (same_ev q (by omega)) (Ev.pos rfl ?_))))
    exact Ev.andThen (a := [3, 5]) (Ev.of (impl_UntilStep.mono 3 6 2) (k := 10) (by decide +kernel)) (Ev.now _)

theorem mod_lt (x : Int) : -300 ≤ Int.tmod (wrap64 x) 301 ∧ Int.tmod (wrap64 x) 301 ≤ 300 := by
  have h1 := Int.tmod_lt_of_pos (wrap64 x) (b := 301) (by decide)
  have h2 := Int.lt_tmod_of_pos (wrap64 x) (b := 301) (by decide)
  omega

theorem FnUntil : laws_FnUntil.Pure := by
  intro n a b c _ _ _ _
  apply Ev.rounds
  have m0 := mod_lt n; have m1 := mod_lt a; have m2 := mod_lt b; have m3 := mod_lt c
  unfold laws_FnUntil.f
  by_cases h : Int.tmod (wrap64 n) 301 < 0
  · exact Ev.pos h (all_ev _ _ _ _ _ (by rw [if_pos h]) m0.1 m0.2 m1.1 m1.2 m2.1 m2.2 m3.1 m3.2)
  · exact Ev.neg h (all_ev _ _ _ _ _ (by rw [if_neg h]) m0.1 m0.2 m1.1 m1.2 m2.1 m2.2 m3.1 m3.2)

end Go.Proofs.Ytjpocldnibmopaa.Pure
