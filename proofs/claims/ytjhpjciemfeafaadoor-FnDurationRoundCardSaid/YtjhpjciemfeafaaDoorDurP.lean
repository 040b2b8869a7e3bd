/- Numerals in base 10: their signs, and the number that they say. -/
import Derived.Lib.ItoaMem
namespace Go.Proofs.YtjhpjciemfeafaaDoor.Giv
open Go

/-- The number that signs say, behind another one. -/
def val10 (x : Nat) : List UInt8 → Nat
  | [] => x
  | c :: r => val10 (x * 10 + (c.toNat - 48)) r
theorem val10_append (x : Nat) (a b : List UInt8) : val10 x (a ++ b) = val10 (val10 x a) b := by
  induction a generalizing x with
  | nil => rfl
  | cons c r ih => exact ih (x * 10 + (c.toNat - 48))
/-- Signs of digits. -/
def digs (l : List UInt8) : Prop := ∀ c ∈ l, 48 ≤ c.toNat ∧ c.toNat ≤ 57
theorem dig_ofNat {k : Nat} (h : k < 10) : (UInt8.ofNat (48 + k)).toNat = 48 + k := by
  simp [UInt8.toNat_ofNat']; omega
theorem dec_digs (u : Nat) : digs (Lib.decDigits u) ∧ val10 0 (Lib.decDigits u) = u ∧ Lib.decDigits u ≠ [] := by
  induction u using Nat.strongRecOn with
  | _ u ih =>
    rw [Lib.decDigits]
    split
    · rename_i h
      refine ⟨fun c hc => ?_, ?_, by simp⟩
      · rw [List.mem_singleton.1 hc, dig_ofNat h]; omega
      · show 0 * 10 + ((UInt8.ofNat (48 + u)).toNat - 48) = u
        rw [dig_ofNat h]; omega
    · rename_i h
      obtain ⟨h1, h2, _⟩ := ih (u / 10) (by omega)
      have hm : u % 10 < 10 := Nat.mod_lt _ (by decide)
      refine ⟨fun c hc => ?_, ?_, by simp⟩
      · rcases List.mem_append.1 hc with hc | hc
        · exact h1 c hc
        · rw [List.mem_singleton.1 hc, dig_ofNat hm]; omega
      · rw [val10_append, h2]
        show (u / 10) * 10 + ((UInt8.ofNat (48 + u % 10)).toNat - 48) = u
        rw [dig_ofNat hm]; omega
theorem val10_le {x : Nat} {a : List UInt8} (b : List UInt8) : val10 x a ≤ val10 x (a ++ b) := by
  rw [val10_append]
  generalize val10 x a = y
  induction b generalizing y with
  | nil => exact Nat.le_refl _
  | cons c r ih => exact Nat.le_trans (by omega) (ih (y * 10 + (c.toNat - 48)))
theorem val10_take_le (l : List UInt8) (i : Nat) : val10 0 (l.take i) ≤ val10 0 l := by
  have h := val10_le (x := 0) (a := l.take i) (l.drop i)
  rwa [List.take_append_drop] at h
end Go.Proofs.YtjhpjciemfeafaaDoor.Giv
