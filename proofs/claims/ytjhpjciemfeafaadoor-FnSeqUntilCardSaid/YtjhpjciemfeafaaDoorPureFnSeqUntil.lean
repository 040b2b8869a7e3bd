/- FnSeqUntil, as a plain statement: until and untilStep by 1 tell the numbers from 0 on, seq tells them one greater, with blanks between. For all numbers of 8 bits. -/
import Derived.Test.YtjhpjciemfeafaaDoorPFnSeqUntilx1
import Derived.Test.YtjhpjciemfeafaaDoorTxt
namespace Go.Proofs.YtjhpjciemfeafaaDoor.Pure
set_option linter.unusedSimpArgs false
open Go.RowKit Go.Proofs.YtjhpjciemfeafaaDoor.PFnSeqUntil Go.Proofs.YtjhpjciemfeafaaDoorW.PrintWords Go.Proofs.YtjhpjciemfeafaaDoorW.PrintLast Go.Proofs.YtjhpjciemfeafaaDoor.Txt Go.Proofs.YtjhpjciemfeafaaDoor.Giv

/-- So many numbers, from one on. -/
def rng (s : Int) (m : Nat) : List Int := (List.range m).map fun (i : Nat) => (i : Int) + s
theorem rng_len (s : Int) (m : Nat) : (rng s m).length = m := by simp [rng]
theorem rng_succ (s : Int) (m : Nat) : rng s (m + 1) = rng s m ++ [(m : Int) + s] := by simp [rng, List.range_succ]
theorem rng_rd (s : Int) (m i : Nat) (h : i < m) : rd (rng s m) (i : Int) = (i : Int) + s := by
  simp [rd, rng, h]
theorem up_ev (n : Nat) (s : Int) (hs : 0 ≤ s) (hs1 : s ≤ 1) (hn : n ≤ 1000) : ∀ (d i : Nat), i + d = n → Ev (fun k => sprig_untilStep.l1 k ((n : Int) + s) 1 (rng s i) ((i : Int) + s)) (rng s n) := by
  intro d
  induction d with
  | zero =>
    intro i hi
    obtain rfl : i = n := by omega
    exact Ev.step (f := fun _ => some (rng s i)) (fun k => by simp only [sprig_untilStep.l1]; rw [if_neg (by omega)]) (Ev.now _)
  | succ d ih =>
    intro i hi
    refine Ev.step (fun k => ?_) (ih (i + 1) (by omega))
    simp only [sprig_untilStep.l1]
    rw [if_pos (by omega), if_pos (by rw [rng_len]; omega), rng_succ, w64 (by omega) (by omega)]
    congr 1
    omega
theorem step_ev (n : Nat) (s : Int) (hs : 0 ≤ s) (hs1 : s ≤ 1) (hn : n ≤ 1000) : Ev (fun k => sprig_untilStep.f k s ((n : Int) + s) 1) (rng s n) := by
  unfold sprig_untilStep.f
  refine Ev.thenC rfl (Ev.neg (by omega) (Ev.neg (by omega) ?_))
  have h := up_ev n s hs hs1 hn n 0 (by omega)
  rw [show ((0 : Nat) : Int) + s = s by omega] at h
  exact h

/-- The numerals of the first numbers from 1 on, with blanks between. -/
def tx (m : Nat) : ByteArray := joinB (rng 1 m) ⟨#[32]⟩
theorem joinTail_snoc (sep : List UInt8) (r : List (List UInt8)) (y : List UInt8) : Lib.joinTail sep (r ++ [y]) = Lib.joinTail sep r ++ (sep ++ y) := by simp [Lib.joinTail]
theorem tx_zero : tx 0 = ⟨#[]⟩ := rfl
theorem tx_one : tx 1 = itoaB 1 := by
  unfold tx joinB
  simp [rng, List.range_succ, Lib.join_one]
theorem tx_succ (m : Nat) (h : 0 < m) : tx (m + 1) = (tx m ++ (⟨#[32]⟩ : ByteArray)) ++ itoaB ((m : Int) + 1) := by
  apply ByteArray.ext
  unfold tx joinB
  rw [rng_succ]
  obtain ⟨k, rfl⟩ : ∃ k, m = k + 1 := ⟨m - 1, by omega⟩
  obtain ⟨x, r, hxr⟩ : ∃ x r, rng 1 (k + 1) = x :: r := by
    cases h : rng 1 (k + 1) with
    | nil => have := rng_len 1 (k + 1); rw [h] at this; cases this
    | cons x r => exact ⟨x, r, rfl⟩
  rw [hxr]
  simp only [List.cons_append, List.map_cons, List.map_append, List.map_nil, Lib.join_cons, joinTail_snoc, ByteArray.data_append]
  apply Array.ext'
  simp
theorem itoa_size : ∀ m : Nat, m ≤ 300 → (itoaB (m : Int)).size ≤ 3 := by
  intro m hm
  have h : ∀ m : Fin 301, (itoaB ((m : Nat) : Int)).size ≤ 3 := by decide +kernel
  exact h ⟨m, by omega⟩
theorem tx_size : ∀ m : Nat, m ≤ 299 → (tx m).size ≤ 4 * m
  | 0, _ => by rw [tx_zero]; decide
  | 1, _ => by rw [tx_one]; have := itoa_size 1 (by omega); exact Nat.le_trans this (by omega)
  | m + 2, h => by
    rw [tx_succ (m + 1) (by omega), ByteArray.size_append, ByteArray.size_append]
    have h1 := tx_size (m + 1) (by omega)
    have h2 := itoa_size (m + 1 + 1) (by omega)
    have e : ((m + 1 : Nat) : Int) + 1 = ((m + 1 + 1 : Nat) : Int) := by omega
    rw [e]
    have : (⟨#[32]⟩ : ByteArray).size = 1 := rfl
    omega
theorem all_in (m : Nat) (h : m ≤ 300) : allIn (rng 1 m) = true := by
  unfold allIn
  rw [List.all_eq_true]
  intro x hx
  unfold rng at hx
  obtain ⟨i, hi, rfl⟩ := List.mem_map.1 hx
  have := List.mem_range.1 hi
  simp; omega

theorem seq_ev (n : Nat) (h0 : 0 < n) (hn : n ≤ 200) : Ev (fun k => impl_Seq.f k [(n : Int)]) (tx n) := by
  unfold impl_Seq.f
  refine Ev.step (f := fun k => impl_Seq.l0 k [(n : Int)] [(n : Int)] 1 1) (fun k => ?_) ?_
  · simp only [impl_Seq.l0]
    have h1 : (([(n : Int)] : List Int).length : Int) = 1 := rfl
    rw [h1, if_pos (by omega), if_pos (by omega), if_pos (by omega), if_pos (by decide), show wrap64 (0 + 1) = 1 by decide +kernel, show rd [(n : Int)] 0 = (n : Int) from rfl]
    rfl
  refine Ev.step (f := fun k => (sprig_Seq.f k [(n : Int)]).bind fun t183 => (some t183)) (fun k => by simp only [impl_Seq.l0]; rw [if_neg (by decide)]) ?_
  refine Ev.andThen ?_ (Ev.now _)
  unfold sprig_Seq.f
  refine Ev.andThen ?_ (Ev.now _)
  unfold sprig_seq.f
  have h1 : (([(n : Int)] : List Int).length : Int) = 1 := rfl
  refine Ev.neg (by rw [h1]; decide) (Ev.pos h1 (Ev.pos (by rw [h1]; decide) (Ev.neg ?_ ?_)))
  · show ¬ (n : Int) < 1; omega
  have e : wrap64 ((rd [(n : Int)] 0) + 1) = (n : Int) + 1 := by show wrap64 ((n : Int) + 1) = _; exact w64 (by omega) (by omega)
  simp only [e]
  refine Ev.andThen (step_ev n 1 (by omega) (by omega) (by omega)) (Ev.thenC ?_ (Ev.now _))
  unfold sprig_intArrayToString.f
  have hs : (joinB (rng 1 n) ⟨#[32]⟩).size ≤ 140737488355328 := by
    have := tx_size n (by omega)
    unfold tx at this
    omega
  exact if_pos ⟨by rw [rng_len]; omega, all_in n (by omega), hs⟩

theorem loop_ev' (n : Nat) (h0 : 0 < n) (hn : n ≤ 200) : ∀ (d i : Nat), i + d = n → Ev (fun k => laws_FnSeqUntil.l0 k (n : Int) (rng 0 n) (rng 0 n) (tx i) (i : Int)) true := by
  have hw : wrap64 ((n : Nat) : Int) = (n : Int) := w64 (by omega) (by omega)
  intro d
  induction d with
  | zero =>
    intro i hi
    obtain rfl : i = n := by omega
    refine Ev.step (f := fun k => (impl_Seq.f k (([wrap64 (i : Int)] : List Int))).bind fun t193 => (some (t193.toList == (tx i).toList))) (fun k => by simp only [laws_FnSeqUntil.l0]; rw [if_neg (by rw [rng_len]; omega)]) ?_
    rw [hw]
    refine Ev.andThen (seq_ev i h0 hn) ?_
    simp only [beq_self_eq_true]
    exact Ev.now _
  | succ d ih =>
    intro i hi
    have hrd : rd (rng 0 n) (i : Int) = (i : Int) := by rw [rng_rd 0 n i (by omega)]; omega
    refine Ev.step (f := fun k => laws_FnSeqUntil.j3 k (n : Int) (rng 0 n) (rng 0 n) (tx i) (i : Int) false) (fun k => ?_) ?_
    · simp only [laws_FnSeqUntil.l0]
      rw [if_pos (by rw [rng_len]; omega), if_pos (by omega), if_pos hrd, if_pos (by rw [rng_len]; omega), hrd]
      simp
    have hsz := tx_size i (by omega)
    have hit : (itoaB ((i : Int) + 1)).size ≤ 3 := by have := itoa_size (i + 1) (by omega); rwa [show ((i + 1 : Nat) : Int) = (i : Int) + 1 by omega] at this
    have hdec : spec_Decimal.f (wrap64 ((rd (rng 0 n) (i : Int)) + 1)) = some (itoaB ((i : Int) + 1)) := by
      rw [hrd, w64 (by omega) (by omega)]
      unfold spec_Decimal.f
      rw [if_pos ⟨by omega, by omega⟩]
    have h32 : (⟨#[32]⟩ : ByteArray).size = 1 := rfl
    refine Ev.step (f := fun k => laws_FnSeqUntil.l0 k (n : Int) (rng 0 n) (rng 0 n) (tx (i + 1)) ((i + 1 : Nat) : Int)) (fun k => ?_) (ih (i + 1) (by omega))
    simp only [laws_FnSeqUntil.j3]
    rw [if_neg (by decide)]
    rcases Nat.eq_zero_or_pos i with h | h
    · subst h
      rw [if_neg (by decide), if_pos (by decide), if_pos (by rw [rng_len]; omega), hdec]
      simp only [Option.bind_some]
      rw [if_pos (by omega), tx_one, tx_zero, wsucc 0 (by omega)]
      congr 1
    · rw [if_pos (by omega), if_pos (by omega), if_pos (by omega), if_pos (by rw [rng_len]; omega), hdec]
      simp only [Option.bind_some]
      rw [if_pos (by rw [ByteArray.size_append, h32]; omega), tx_succ i h, wsucc i (by omega)]

theorem FnSeqUntil : laws_FnSeqUntil.Pure := by
  intro a0 hwf
  apply Ev.rounds
  have hb : 0 ≤ a0 ∧ a0 ≤ 255 := by
    simp only [Lit.wf, IntKind.min, IntKind.max, IntKind.signed, IntKind.bits, Bool.and_eq_true, decide_eq_true_eq] at hwf
    simp at hwf
    omega
  clear hwf
  have hyes : Ev (fun k => laws_FnSeqUntil.j0 k a0 true) true := Ev.step (f := fun _ => some true) (fun k => by simp [laws_FnSeqUntil.j0]) (Ev.now _)
  unfold laws_FnSeqUntil.f
  by_cases h0 : a0 = 0
  · exact Ev.pos h0 hyes
  refine Ev.neg h0 ?_
  by_cases h200 : a0 > 200
  · rw [decide_eq_true h200]; exact hyes
  rw [decide_eq_false h200]
  obtain ⟨n, rfl⟩ : ∃ n : Nat, a0 = n := ⟨a0.toNat, by omega⟩
  have hw : wrap64 ((n : Nat) : Int) = (n : Int) := w64 (by omega) (by omega)
  have hn1 : 0 < n := by omega
  have hn2 : n ≤ 200 := by omega
  have hst := step_ev n 0 (by omega) (by omega) (by omega)
  rw [Int.add_zero] at hst
  refine Ev.step (fun k => by simp only [laws_FnSeqUntil.j0]; rw [if_neg (by decide), hw]) ?_
  refine Ev.andThen (a := rng 0 n) ?_ (Ev.andThen (a := rng 0 n) ?_ (Ev.pos (by rw [rng_len]) ?_))
  · unfold impl_Until.f sprig_Until.f sprig_until.f
    exact Ev.andThen (Ev.andThen (Ev.neg (by omega) (Ev.andThen hst (Ev.now _))) (Ev.now _)) (Ev.now _)
  · unfold impl_UntilStep.f sprig_UntilStep.f
    exact Ev.andThen (Ev.andThen hst (Ev.now _)) (Ev.now _)
  · refine Ev.step (f := fun k => laws_FnSeqUntil.l0 k (n : Int) (rng 0 n) (rng 0 n) ⟨#[]⟩ 0) (fun k => by simp only [laws_FnSeqUntil.j1]; rw [if_neg (by simp)]) ?_
    have h := loop_ev' n hn1 hn2 n 0 (by omega)
    rw [tx_zero] at h
    exact h
end Go.Proofs.YtjhpjciemfeafaaDoor.Pure
