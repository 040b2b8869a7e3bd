/- Numerals of a base, plain: what they say, and how a loop makes them from behind. -/
import Derived.Test.YtakogidcjjmihaaDoorPUint
namespace Go.Proofs.YtakogidcjjmihaaDoor.Pu
open Go.RowKit Go.Proofs.YtakogidcjjmihaaDoorW.PrintWords Go.Proofs.YtakogidcjjmihaaDoor.Txt
set_option linter.unusedVariables false
set_option linter.unusedSimpArgs false
/-- The sign of a digit. -/
def dch (d : Nat) : UInt8 := UInt8.ofNat (if d < 10 then d + 48 else d + 87)
/-- A number's numeral. -/
def digs (b n : Nat) : List UInt8 := if h : n < b ∨ b < 2 then [dch n] else digs b (n / b) ++ [dch (n % b)]
termination_by n
decreasing_by exact Nat.div_lt_self (by omega) (by omega)
theorem digs_small {b n : Nat} (h : n < b) : digs b n = [dch n] := by rw [digs, dif_pos (.inl h)]
theorem digs_step {b n : Nat} (hb : 2 ≤ b) (h : b ≤ n) : digs b n = digs b (n / b) ++ [dch (n % b)] := by rw [digs, dif_neg (by omega)]
theorem digs_ne (b n : Nat) : digs b n ≠ [] := by
  rw [digs]; split <;> simp
theorem valB_snoc (b : Nat) (c : UInt8) : ∀ (l : List UInt8) (a : Nat), valB b a (l ++ [c]) = valB b a l * b + dv c
  | [], a => rfl
  | x :: t, a => by rw [List.cons_append, valB, valB, valB_snoc b c t]
theorem dch_nat (d : Nat) (h : d < 16) : (dch d).toNat = if d < 10 then d + 48 else d + 87 := by
  unfold dch
  rw [UInt8.toNat_ofNat']
  split <;> omega
theorem dv_dch (d : Nat) (h : d < 16) : dv (dch d) = d := by
  unfold dv
  rw [dch_nat d h]
  split <;> split <;> omega
theorem dch_ok (b d : Nat) (h : d < b) (hb : b ≤ 16) : okD b (dch d) := by
  refine ⟨?_, by rw [dv_dch d (by omega)]; exact h⟩
  rw [dch_nat d (by omega)]
  split <;> omega
theorem digs_val (b : Nat) (h2 : 2 ≤ b) (h16 : b ≤ 16) (n : Nat) : valB b 0 (digs b n) = n := by
  induction n using Nat.strongRecOn with
  | _ n ih =>
    by_cases h : n < b
    · rw [digs_small h]
      show 0 * b + dv (dch n) = n
      rw [dv_dch n (by omega)]; omega
    · rw [digs_step h2 (by omega), valB_snoc, ih _ (Nat.div_lt_self (by omega) (by omega)), dv_dch _ (Nat.lt_of_lt_of_le (Nat.mod_lt _ (by omega)) h16), Nat.mul_comm]
      exact Nat.div_add_mod n b
theorem digs_ok (b : Nat) (h2 : 2 ≤ b) (h16 : b ≤ 16) (n : Nat) : ∀ c ∈ digs b n, okD b c := by
  induction n using Nat.strongRecOn with
  | _ n ih =>
    by_cases h : n < b
    · rw [digs_small h]
      intro c hc
      rw [List.mem_singleton.1 hc]
      exact dch_ok b n h h16
    · rw [digs_step h2 (by omega)]
      intro c hc
      rcases List.mem_append.1 hc with hc | hc
      · exact ih _ (Nat.div_lt_self (by omega) (by omega)) c hc
      · rw [List.mem_singleton.1 hc]
        exact dch_ok b _ (Nat.mod_lt _ (by omega)) h16
theorem digs_len (b : Nat) (h2 : 2 ≤ b) : ∀ (k n : Nat), n < 2 ^ k → (digs b n).length ≤ k + 1 := by
  intro k
  induction k with
  | zero => intro n h; rw [digs_small (by have : n < 1 := h; omega)]; simp
  | succ k ih =>
    intro n h
    by_cases hn : n < b
    · rw [digs_small hn]; simp
    · rw [digs_step h2 (by omega), List.length_append]
      have h1 : n / b ≤ n / 2 := Nat.div_le_div_left h2 (by decide)
      have := ih (n / b) (by rw [Nat.pow_succ] at h; omega)
      simp; omega
theorem digs_head (b : Nat) (h2 : 2 ≤ b) (h16 : b ≤ 16) (n : Nat) (h0 : 0 < n) : ∃ c t, digs b n = c :: t ∧ c.toNat ≠ 48 := by
  induction n using Nat.strongRecOn with
  | _ n ih =>
    by_cases h : n < b
    · rw [digs_small h]
      refine ⟨_, _, rfl, ?_⟩
      rw [dch_nat n (by omega)]
      split <;> omega
    · rw [digs_step h2 (by omega)]
      obtain ⟨c, t, e, hc⟩ := ih (n / b) (Nat.div_lt_self (by omega) (by omega)) (Nat.div_pos (by omega) (by omega))
      exact ⟨c, t ++ [dch (n % b)], by rw [e]; rfl, hc⟩
/-- The numeral from behind: what is left, and what is written. -/
def DigLeft (b n m : Nat) (t : List UInt8) : Prop := (m = 0 ∧ t = [] ∧ n = 0) ∨ (m = 0 ∧ t ≠ [] ∧ t = digs b n) ∨ (0 < m ∧ digs b n = digs b m ++ t)
theorem DigLeft.start (b n : Nat) : DigLeft b n n [] := by
  by_cases h : n = 0
  · exact .inl ⟨h, rfl, h⟩
  · exact .inr (.inr ⟨by omega, by rw [List.append_nil]⟩)
theorem DigLeft.step {b n m : Nat} {t : List UInt8} (h2 : 2 ≤ b) (h : DigLeft b n m t) (hg : 0 < m ∨ t = []) : DigLeft b n (m / b) (dch (m % b) :: t) := by
  rcases h with ⟨rfl, rfl, rfl⟩ | ⟨rfl, h1, _⟩ | ⟨h0, h1⟩
  · refine .inr (.inl ⟨Nat.zero_div _, by simp, ?_⟩)
    rw [digs_small (by omega), Nat.zero_mod]
  · rcases hg with hg | hg
    · omega
    · exact absurd hg h1
  · by_cases hm : m < b
    · refine .inr (.inl ⟨Nat.div_eq_of_lt hm, by simp, ?_⟩)
      rw [h1, digs_small hm, Nat.mod_eq_of_lt hm]; rfl
    · refine .inr (.inr ⟨Nat.div_pos (by omega) (by omega), ?_⟩)
      rw [h1, digs_step h2 (by omega), List.append_assoc]; rfl
theorem DigLeft.done {b n : Nat} {t : List UInt8} (h : DigLeft b n 0 t) (ht : t ≠ []) : t = digs b n := by
  rcases h with ⟨_, h, _⟩ | ⟨_, _, h⟩ | ⟨h, _⟩
  · exact absurd h ht
  · exact h
  · omega
end Go.Proofs.YtakogidcjjmihaaDoor.Pu
