/- The lines of a wrapped text, and what stays of a text without its blanks. No program in sight but the walk's words. -/
import Derived.Test.YtpkdoinofenahaaDoorWrap
namespace Go.Proofs.YtpkdoinofenahaaDoor.Giv
open Go.RowKit Go.Proofs.YtpkdoinofenahaaDoorW.PrintWords Go.Proofs.YtpkdoinofenahaaDoor.Txt

/-- The lines of a text, long words cut. -/
def pieces (n : Nat) : Nat → List UInt8 → List (List UInt8)
  | 0, l => [l]
  | f + 1, l => if n < l.length then (if (l.getD 0 0).toNat = 32 then pieces n f (l.drop 1) else match lastK l (n + 1) with
    | some k => l.take k :: pieces n f (l.drop (k + 1))
    | none => l.take n :: pieces n f (l.drop n)) else [l]
theorem pieces_ne (n : Nat) : ∀ f l, pieces n f l ≠ [] := by
  intro f
  induction f with
  | zero => intro l; simp [pieces]
  | succ f ih =>
    intro l
    rw [pieces]
    split
    · split
      · exact ih _
      · split <;> simp
    · simp
theorem lastK_spec (l : List UInt8) : ∀ m k, lastK l m = some k → (l.getD k 0).toNat = 32 := by
  intro m
  induction m with
  | zero => intro k h; cases h
  | succ m ih =>
    intro k h
    rw [lastK] at h
    split at h
    · rename_i h32; cases h; exact h32
    · exact ih k h
/-- With line feeds between. -/
def joinN : List (List UInt8) → List UInt8
  | [] => []
  | [x] => x
  | x :: y :: l => x ++ 10 :: joinN (y :: l)
theorem joinN_cons (x : List UInt8) (l : List (List UInt8)) (h : l ≠ []) : joinN (x :: l) = x ++ 10 :: joinN l := by
  cases l with
  | nil => exact absurd rfl h
  | cons y l => rfl
theorem wrap_pieces (n : Nat) : ∀ f l, wrapL n [10] true f l = joinN (pieces n f l) := by
  intro f
  induction f with
  | zero => intro l; rfl
  | succ f ih =>
    intro l
    rw [wrapL, pieces]
    by_cases h : n < l.length
    · rw [if_pos h, if_pos h]
      by_cases h32 : (l.getD 0 0).toNat = 32
      · rw [if_pos h32, if_pos h32]; exact ih _
      · rw [if_neg h32, if_neg h32]
        cases hk : lastK l (n + 1) with
        | some k =>
          show l.take k ++ [10] ++ wrapL n [10] true f (l.drop (k + 1)) = joinN (l.take k :: pieces n f (l.drop (k + 1)))
          rw [joinN_cons _ _ (pieces_ne n f _), ih]; simp
        | none =>
          show (if (true : Bool) = true then l.take n ++ [10] ++ wrapL n [10] true f (l.drop n) else _) = joinN (l.take n :: pieces n f (l.drop n))
          rw [if_pos rfl, joinN_cons _ _ (pieces_ne n f _), ih]; simp
    · rw [if_neg h, if_neg h]; rfl
/-- No blank. -/
def nb (c : UInt8) : Bool := !(c.toNat == 32)
theorem pieces_ok (n : Nat) (hn1 : 1 ≤ n) : ∀ f l, l.length ≤ f → (∀ x ∈ pieces n f l, x.length ≤ n ∧ ∀ c ∈ x, c ∈ l) ∧ (pieces n f l).flatten.filter nb = l.filter nb := by
  intro f
  induction f with
  | zero =>
    intro l h
    have : l = [] := List.length_eq_zero_iff.1 (by omega)
    subst this
    simp [pieces]
  | succ f ih =>
    intro l h
    rw [pieces]
    by_cases hn : n < l.length
    · rw [if_pos hn]
      cases l with
      | nil => simp at hn
      | cons c t =>
        by_cases h32 : ((c :: t).getD 0 0).toNat = 32
        · rw [if_pos h32]
          obtain ⟨i1, i2⟩ := ih ((c :: t).drop 1) (by simpa using h)
          refine ⟨fun x hx => ⟨(i1 x hx).1, fun y hy => List.mem_of_mem_drop ((i1 x hx).2 y hy)⟩, ?_⟩
          rw [i2]
          have hc : nb c = false := by unfold nb; rw [show c.toNat = 32 from h32]; rfl
          show t.filter nb = (c :: t).filter nb
          rw [List.filter_cons, hc]; rfl
        · rw [if_neg h32]
          obtain ⟨L, hL⟩ : ∃ L, L = c :: t := ⟨_, rfl⟩
          rw [← hL] at hn h ⊢
          cases hk : lastK L (n + 1) with
          | some k =>
            have hk1 := lastK_lt _ _ _ hk
            have hk2 := lastK_spec _ _ _ hk
            have hkl : k < L.length := by omega
            obtain ⟨i1, i2⟩ := ih (L.drop (k + 1)) (by rw [List.length_drop]; omega)
            show (∀ x ∈ L.take k :: pieces n f (L.drop (k + 1)), x.length ≤ n ∧ ∀ c ∈ x, c ∈ L) ∧ (L.take k :: pieces n f (L.drop (k + 1))).flatten.filter nb = L.filter nb
            refine ⟨fun x hx => ?_, ?_⟩
            · rcases List.mem_cons.1 hx with rfl | hx
              · exact ⟨by rw [List.length_take]; omega, fun y hy => List.mem_of_mem_take hy⟩
              · exact ⟨(i1 x hx).1, fun y hy => List.mem_of_mem_drop ((i1 x hx).2 y hy)⟩
            · rw [List.flatten_cons, List.filter_append, i2]
              have e : L.filter nb = (L.take k).filter nb ++ (L.drop k).filter nb := by rw [← List.filter_append, List.take_append_drop]
              have hc : nb L[k] = false := by
                have : L.getD k 0 = L[k] := by simp [List.getD, List.getElem?_eq_getElem hkl]
                unfold nb; rw [← this, hk2]; rfl
              rw [e, List.drop_eq_getElem_cons hkl, List.filter_cons, hc]; rfl
          | none =>
            obtain ⟨i1, i2⟩ := ih (L.drop n) (by rw [List.length_drop]; omega)
            show (∀ x ∈ L.take n :: pieces n f (L.drop n), x.length ≤ n ∧ ∀ c ∈ x, c ∈ L) ∧ (L.take n :: pieces n f (L.drop n)).flatten.filter nb = L.filter nb
            refine ⟨fun x hx => ?_, ?_⟩
            · rcases List.mem_cons.1 hx with rfl | hx
              · exact ⟨by rw [List.length_take]; omega, fun y hy => List.mem_of_mem_take hy⟩
              · exact ⟨(i1 x hx).1, fun y hy => List.mem_of_mem_drop ((i1 x hx).2 y hy)⟩
            · rw [List.flatten_cons, List.filter_append, i2, ← List.filter_append, List.take_append_drop]
    · rw [if_neg hn]
      refine ⟨fun x hx => ?_, by simp⟩
      simp only [List.mem_singleton] at hx
      subst hx
      exact ⟨by omega, fun c hc => hc⟩
theorem idx_one (q : UInt8) (x r : List UInt8) (h : ∀ c ∈ x, c ≠ q) : idx [q] (x ++ q :: r) = some x.length := by
  induction x with
  | nil => exact idx_hit _ _ (by simp [List.isPrefixOf])
  | cons c t ih =>
    have hc : c ≠ q := h c (List.mem_cons_self ..)
    rw [List.cons_append, idx_miss [q] c (t ++ q :: r) (by simp [List.isPrefixOf, Ne.symm hc]), ih (fun y hy => h y (List.mem_cons_of_mem _ hy))]; rfl
theorem idx_no (q : UInt8) (x : List UInt8) (h : ∀ c ∈ x, c ≠ q) : idx [q] x = none := by
  induction x with
  | nil => simp [idx]
  | cons c t ih =>
    have hc : c ≠ q := h c (List.mem_cons_self ..)
    rw [idx_miss [q] c t (by simp [List.isPrefixOf, Ne.symm hc]), ih (fun y hy => h y (List.mem_cons_of_mem _ hy))]; rfl
theorem split_join : ∀ ps : List (List UInt8), ps ≠ [] → (∀ x ∈ ps, ∀ c ∈ x, c ≠ 10) → splitL [10] (joinN ps) = ps := by
  intro ps
  induction ps with
  | nil => intro h; exact absurd rfl h
  | cons x l ih =>
    intro _ h
    cases l with
    | nil => exact splitL_none (by simp) (idx_no 10 x (h x (List.mem_cons_self ..)))
    | cons y l =>
      rw [joinN_cons _ _ (by simp), splitL_some (by simp) (idx_one 10 x _ (h x (List.mem_cons_self ..)))]
      have e : (x ++ 10 :: joinN (y :: l)).drop (x.length + [(10 : UInt8)].length) = joinN (y :: l) := by
        rw [← List.drop_drop, List.drop_left]; rfl
      rw [e, List.take_left, ih (by simp) (fun z hz => h z (List.mem_cons_of_mem _ hz))]

end Go.Proofs.YtpkdoinofenahaaDoor.Giv
