/- impl.DurationRound, DurationRoundNano and spec.Decimal, in the print's form: the world's tables as one premise. -/
import Derived.Test.YtjhpjciemfeafaaDoorDurW
namespace Go.Proofs.YtjhpjciemfeafaaDoor.Giv
open Go.RowKit Go.Proofs.YtjhpjciemfeafaaDoorW.PrintWords Go.Proofs.YtjhpjciemfeafaaDoor.Txt
set_option linter.unusedVariables false
set_option maxRecDepth 20000

/-- strconv's table of tens, and time's units. -/
def DurT (w : World) : Prop := Pow10 w ∧ UnitM w
theorem DurT.below {w w' : World} (h : DurT w) (hb : Below w.heap.size w w') : DurT w' := ⟨h.1.below hb, h.2.below hb⟩
def spec_Decimal.f (a0 : Int) : Option (ByteArray) := if -9223372036854775808 ≤ a0 ∧ a0 ≤ 9223372036854775807 then some (itoaB a0) else none
theorem spec_Decimal.calls (a0 : Int) (r : ByteArray) (w : World) (T : DurT w) (h : spec_Decimal.f a0 = some r) :
    Calls Tryd.prog 7 #[.int .i64 a0] w fun e w' => e = .returned (.string r) ∧ Below w.heap.size w w' := by
  unfold spec_Decimal.f at h
  split at h
  · rename_i hh
    obtain rfl := Option.some.inj h
    exact decimal_walk a0 hh.1 hh.2 w T.1
  · exact absurd h (by simp)
/-- The sum that a text of whole numbers and units says: so much so far, the number so far, whether there is one. -/
def scanP : List UInt8 → Nat → Nat → Bool → Option Nat
  | [], tot, _, seen => if seen = true then none else some tot
  | c :: r, tot, x, seen =>
    if 48 ≤ c.toNat ∧ c.toNat ≤ 57 then scanP r tot (x * 10 + (c.toNat - 48)) true
    else if (c = 104 ∨ c = 109 ∨ c = 115) ∧ seen = true ∧ x ≤ 9000000000 then scanP r (tot + x * unitV c) 0 false else none
theorem scan_says : ∀ (l d : List UInt8) (tot T : Nat), digs d → scanP l tot (val10 0 d) (!d.isEmpty) = some T → ∃ ps, d ++ l = txtP ps ∧ okP ps ∧ T = tot + totP ps
  | [], d, tot, T, hd, h => by
    cases d with
    | nil => simp [scanP] at h; exact ⟨[], rfl, fun q hq => absurd hq (by simp), by simp [totP, h]⟩
    | cons c r => simp [scanP] at h
  | c :: l, d, tot, T, hd, h => by
    unfold scanP at h
    split at h
    · rename_i hc
      have hd' : digs (d ++ [c]) := fun x hx => by
        rcases List.mem_append.1 hx with hx | hx
        · exact hd x hx
        · rw [List.mem_singleton.1 hx]; exact hc
      have hv : val10 0 d * 10 + (c.toNat - 48) = val10 0 (d ++ [c]) := by rw [val10_append]; rfl
      rw [hv] at h
      have he : (true : Bool) = !(d ++ [c]).isEmpty := by simp
      rw [he] at h
      obtain ⟨ps, e1, e2, e3⟩ := scan_says l (d ++ [c]) tot T hd' h
      exact ⟨ps, by rw [← e1]; simp, e2, e3⟩
    · split at h
      · rename_i hc
        obtain ⟨hu, hs, hx⟩ := hc
        obtain ⟨ps, e1, e2, e3⟩ := scan_says l [] (tot + val10 0 d * unitV c) T (fun x hx => absurd hx (by simp)) h
        refine ⟨(d, c) :: ps, ?_, fun q hq => ?_, ?_⟩
        · simp only [List.nil_append] at e1
          rw [e1]; rfl
        · rcases List.mem_cons.1 hq with rfl | hq
          · exact ⟨hd, (fun e => by rw [show d = [] from e] at hs; cases hs), hu, hx⟩
          · exact e2 q hq
        · rw [e3]; simp only [totP]; omega
      · cases h
def impl_DurationRound.f (a0 : ByteArray) : Option (ByteArray) :=
  if 0 < a0.size ∧ a0.size ≤ 500 then (scanP a0.toList 0 0 false).bind fun T => if T ≤ 9223372036854775807 then some (roundB T) else none else none
theorem impl_DurationRound.calls (a0 : ByteArray) (r : ByteArray) (w : World) (T : DurT w) (h : impl_DurationRound.f a0 = some r) :
    Calls Tryd.prog 10 #[.string a0] w fun e w' => e = .returned (.string r) ∧ Below w.heap.size w w' := by
  unfold impl_DurationRound.f at h
  split at h
  case isFalse => cases h
  rename_i hs
  obtain ⟨D, hD, h⟩ := Option.bind_eq_some_iff.1 h
  split at h
  case isFalse => cases h
  rename_i hle
  obtain rfl := Option.some.inj h
  obtain ⟨ps, e1, e2, e3⟩ := scan_says a0.toList [] 0 D (fun x hx => absurd hx (by simp)) hD
  simp only [List.nil_append, Nat.zero_add] at e1 e3
  subst e3
  refine implText_walk ps a0 w T.1 T.2 e1 e2 (fun e => ?_) hle hs.2
  rw [e] at e1
  have := len_eq a0
  rw [e1, show txtP [] = [] from rfl] at this
  have h0 := hs.1
  rw [this] at h0
  exact absurd h0 (by decide)
def impl_DurationRoundNano.f (a0 : Int) : Option (ByteArray) := if 0 ≤ a0 ∧ a0 ≤ 9223372036854775807 then some (roundB a0.toNat) else none
theorem impl_DurationRoundNano.calls (a0 : Int) (r : ByteArray) (w : World) (T : DurT w) (h : impl_DurationRoundNano.f a0 = some r) :
    Calls Tryd.prog 12 #[.int .i64 a0] w fun e w' => e = .returned (.string r) ∧ Below w.heap.size w w' := by
  unfold impl_DurationRoundNano.f at h
  split at h
  case isFalse => cases h
  rename_i hh
  obtain rfl := Option.some.inj h
  have e : ((a0.toNat : Nat) : Int) = a0 := by omega
  have h := implNano_walk a0.toNat (by omega) w T.1
  rw [e] at h
  exact h
end Go.Proofs.YtjhpjciemfeafaaDoor.Giv
