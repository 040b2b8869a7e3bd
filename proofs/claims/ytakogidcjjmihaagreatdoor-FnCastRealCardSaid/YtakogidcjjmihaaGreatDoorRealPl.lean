/- Floats of 64 bits below 2^53, plain: cut to a whole number, and that again. -/
import Derived.Test.YtakogidcjjmihaaGreatDoorTxt
import Derived.Laws.FloatArith
namespace Go.Proofs.YtakogidcjjmihaaGreatDoor.Re
open Go.RowKit Ieee
set_option linter.unusedVariables false
set_option linter.unusedSimpArgs false
/-- The bits of 2^53. -/
def b53 : Nat := 4845873199050653696
theorem read53 : FloatKind.f64.decode b53 = .number false 4503599627370496 1 := by decide
theorem cut_zero (s : Bool) (n d : Nat) : Toward.zero.cut s n d = n / (1 <<< min d (n.log2 + 2)) := by
  unfold Toward.cut
  simp
theorem cut_le (s : Bool) (n d : Nat) : Toward.zero.cut s n d ≤ n := by rw [cut_zero]; exact Nat.div_le_self _ _
theorem cut_z (s : Bool) (n : Nat) : Toward.zero.cut s n 0 = n := by rw [cut_zero]; simp
/-- What a word stands for, without its sign. -/
theorem read_abs (x : Nat) (hx : x < 18446744073709551616) : FloatKind.f64.decode (x % 9223372036854775808) = (match FloatKind.f64.decode x with | .number s m p => .number false m p | .infinity s => .infinity false | .nan s t => .nan false t) := by
  unfold FloatKind.decode Format.read
  have e : FloatKind.f64.format.signWeight = 9223372036854775808 := by decide
  rw [e, Nat.mod_mod]
  have h1 : x % 9223372036854775808 / 9223372036854775808 = 0 := Nat.div_eq_of_lt (Nat.mod_lt _ (by decide))
  rw [h1]
  simp only [Nat.zero_mod]
  by_cases k1 : x % 9223372036854775808 < FloatKind.f64.format.binade
  · simp only [k1, if_true]; rfl
  · by_cases k2 : x % 9223372036854775808 < FloatKind.f64.format.infRung
    · simp only [k1, k2, if_true, if_false]; rfl
    · by_cases k3 : x % 9223372036854775808 = FloatKind.f64.format.infRung
      · simp only [k1, k2, if_false]; rw [if_pos k3, if_pos k3]; rfl
      · simp only [k1, k2, k3, if_false]; rfl
theorem mag_lt (x : Nat) {s : Bool} {m : Nat} {p : Int} (h : FloatKind.f64.decode x = .number s m p) : m < 9007199254740992 := by
  unfold FloatKind.decode Format.read at h
  have e : FloatKind.f64.format.binade = 4503599627370496 := by decide
  rw [e] at h
  simp only at h
  split at h
  · injection h with _ h _; omega
  · split at h
    · injection h with _ h _
      have := Nat.mod_lt (x % FloatKind.f64.format.signWeight) (by decide : 0 < 4503599627370496)
      omega
    · split at h <;> cases h
theorem small_of (x : Nat) (hx : x < 18446744073709551616) (hn : (FloatKind.f64.decode x).isNaN = false) (ho : FloatKind.f64.format.order (x % 9223372036854775808) b53 ≠ some .gt) (ho2 : FloatKind.f64.format.order (x % 9223372036854775808) b53 ≠ some .eq) :
    ∃ s k, k < 9007199254740992 ∧ (FloatKind.f64.decode x).integral .zero = .number s k 0 := by
  have hr := read_abs x hx
  have h53 := read53
  unfold Format.order at ho ho2
  rw [show FloatKind.f64.format.read b53 = FloatKind.f64.decode b53 from rfl, h53, show FloatKind.f64.format.read (x % 9223372036854775808) = FloatKind.f64.decode (x % 9223372036854775808) from rfl, hr] at ho ho2
  cases hd : FloatKind.f64.decode x with
  | nan s t => rw [hd] at hn; simp [Datum.isNaN] at hn
  | infinity s => rw [hd] at ho; simp [Datum.order] at ho
  | number s m p =>
    have hm := mag_lt x hd
    rw [hd] at ho ho2
    refine ⟨s, _, ?_, rfl⟩
    by_cases hp : p ≤ 0
    · have e : p.toNat = 0 := by omega
      rw [e, Nat.shiftLeft_zero]
      exact Nat.lt_of_le_of_lt (cut_le _ _ _) hm
    · have e : (-p).toNat = 0 := by omega
      rw [e, cut_z, Nat.shiftLeft_eq]
      simp only [Datum.order] at ho ho2
      rw [show min p 1 = 1 by omega, show ((1 : Int) - 1).toNat = 0 from rfl] at ho ho2
      have hlt : ¬ (4503599627370496 ≤ m * 2 ^ (p - 1).toNat) := by
        intro hge
        have hs : signed false m (p - 1).toNat = ((m * 2 ^ (p - 1).toNat : Nat) : Int) := by unfold signed; rw [Nat.shiftLeft_eq]; rfl
        have hs2 : signed false 4503599627370496 0 = (4503599627370496 : Int) := by decide
        rw [hs, hs2] at ho ho2
        simp only [compare, compareOfLessAndEq] at ho ho2
        split at ho
        · omega
        · split at ho
          · rename_i h1 h2
            apply ho2
            rw [if_neg h1, if_pos h2]
          · exact ho rfl
      have e2 : p.toNat = (p - 1).toNat + 1 := by omega
      rw [e2, Nat.pow_succ, ← Nat.mul_assoc]
      omega
theorem log2_bounds (k : Nat) (h : k ≠ 0) : 2 ^ k.log2 ≤ k ∧ k < 2 ^ (k.log2 + 1) := ⟨Nat.log2_self_le h, Nat.lt_log2_self⟩
theorem log2_eq {k L : Nat} (h1 : 2 ^ L ≤ k) (h2 : k < 2 ^ (L + 1)) : k.log2 = L := by
  have h0 : k ≠ 0 := by intro h; rw [h] at h1; have := Nat.two_pow_pos L; omega
  obtain ⟨a, b⟩ := log2_bounds k h0
  have c1 : k.log2 < L + 1 := (Nat.pow_lt_pow_iff_right (by decide : 1 < 2)).1 (Nat.lt_of_le_of_lt a h2)
  have c2 : L < k.log2 + 1 := (Nat.pow_lt_pow_iff_right (by decide : 1 < 2)).1 (Nat.lt_of_le_of_lt h1 b)
  omega
/-- A whole number below 2^53 has a word, and that is it again. -/
theorem whole_again (s : Bool) (k : Nat) (hk : k < 9007199254740992) : (FloatKind.f64.decode (FloatKind.f64.encode (.number s k 0))).toInt .zero = some (signed s k 0) := by
  by_cases h0 : k = 0
  · subst h0
    cases s <;> decide
  obtain ⟨L, hL⟩ : ∃ L, L = k.log2 := ⟨_, rfl⟩
  obtain ⟨b1, b2⟩ := log2_bounds k h0
  rw [← hL] at b1 b2
  have hL52 : L ≤ 52 := by
    have : 2 ^ L < 2 ^ 53 := Nat.lt_of_le_of_lt b1 hk
    have := (Nat.pow_lt_pow_iff_right (by decide : 1 < 2)).1 this
    omega
  obtain ⟨K, hK⟩ : ∃ K, K = k <<< (52 - L) := ⟨_, rfl⟩
  have hK' : K = k * 2 ^ (52 - L) := by rw [hK, Nat.shiftLeft_eq]
  have e52 : 2 ^ L * 2 ^ (52 - L) = 4503599627370496 := by rw [← Nat.pow_add, show L + (52 - L) = 52 by omega]
  have e53 : 2 ^ (L + 1) * 2 ^ (52 - L) = 9007199254740992 := by rw [← Nat.pow_add, show L + 1 + (52 - L) = 53 by omega]
  have hK1 : 4503599627370496 ≤ K := by rw [hK', ← e52]; exact Nat.mul_le_mul_right _ b1
  have hK2 : K < 9007199254740992 := by rw [hK', ← e53]; exact Nat.mul_lt_mul_of_pos_right b2 (Nat.two_pow_pos _)
  have hw : FloatKind.f64.encode (.number s k 0) = (if s then 9223372036854775808 + ((L + 1022) * 4503599627370496 + K) else (L + 1022) * 4503599627370496 + K) := by
    unfold FloatKind.encode Format.write Format.nearest
    simp only
    rw [if_neg h0, ← hL]
    have e1 : max ((0 : Int) + (L : Int) - ((FloatKind.f64.format.fractionBits : Nat) : Int)) FloatKind.f64.format.leastPlace = (L : Int) - 52 := by
      have : FloatKind.f64.format.leastPlace = -1074 := by decide
      rw [this, show FloatKind.f64.format.fractionBits = 52 from rfl]
      omega
    rw [e1]
    have e2 : ((0 : Int) - ((L : Int) - 52)).toNat = 52 - L := by omega
    have e3 : ((L : Int) - 52 - 0).toNat = 0 := by omega
    have e4 : ((L : Int) - 52 - FloatKind.f64.format.leastPlace).toNat = L + 1022 := by
      have : FloatKind.f64.format.leastPlace = -1074 := by decide
      rw [this]; omega
    rw [e2, e3, e4, ← hK]
    have e5 : Toward.even.cut s K 0 = K := by unfold Toward.cut; simp [Nat.mod_one]
    have e6 : FloatKind.f64.format.binade = 4503599627370496 := by decide
    have e7 : FloatKind.f64.format.infRung = 2047 * 4503599627370496 := by decide
    rw [e5, e6, e7, Nat.min_eq_left (by omega)]
    unfold Format.word
    rw [show FloatKind.f64.format.signWeight = 9223372036854775808 by decide]
  have hrd : FloatKind.f64.decode (FloatKind.f64.encode (.number s k 0)) = .number s K ((L : Int) - 52) := by
    rw [hw]
    unfold FloatKind.decode Format.read
    have e0 : FloatKind.f64.format.signWeight = 9223372036854775808 := by decide
    have e6 : FloatKind.f64.format.binade = 4503599627370496 := by decide
    have e7 : FloatKind.f64.format.infRung = 2047 * 4503599627370496 := by decide
    have e8 : FloatKind.f64.format.leastPlace = -1074 := by decide
    rw [e0, e6, e7, e8]
    simp only
    cases s with
    | false =>
      simp only [Bool.false_eq_true, if_false]
      rw [show ((L + 1022) * 4503599627370496 + K) % 9223372036854775808 = (L + 1022) * 4503599627370496 + K by omega, show ((L + 1022) * 4503599627370496 + K) / 9223372036854775808 = 0 by omega, if_neg (by omega), if_pos (by omega)]
      refine congr (congr (congrArg Datum.number rfl) ?_) ?_ <;> omega
    | true =>
      simp only [if_true]
      rw [show (9223372036854775808 + ((L + 1022) * 4503599627370496 + K)) % 9223372036854775808 = (L + 1022) * 4503599627370496 + K by omega, show (9223372036854775808 + ((L + 1022) * 4503599627370496 + K)) / 9223372036854775808 = 1 by omega, if_neg (by omega), if_pos (by omega)]
      refine congr (congr (congrArg Datum.number rfl) ?_) ?_ <;> omega
  rw [hrd]
  unfold Datum.toInt Datum.integral
  simp only
  rw [show ((L : Int) - 52).toNat = 0 by omega, show (-((L : Int) - 52)).toNat = 52 - L by omega, Nat.shiftLeft_zero, cut_zero, log2_eq (L := 52) hK1 hK2, Nat.min_eq_left (by omega), hK', Nat.one_shiftLeft, Nat.mul_div_cancel _ (Nat.two_pow_pos _)]
end Go.Proofs.YtakogidcjjmihaaGreatDoor.Re
