/- goutils.WrapCustom in the print's form. -/
import Derived.Test.YtpkdoinofenahaaDoorWrap
namespace Go.Proofs.YtpkdoinofenahaaDoor.Giv
open Go.RowKit Go.Proofs.YtpkdoinofenahaaDoorW.PrintWords Go.Proofs.YtpkdoinofenahaaDoor.Txt
set_option linter.unusedVariables false
set_option maxRecDepth 20000

def wideN (wide : Int) : Nat := if wide < 1 then 1 else wide.toNat
def endB (e : ByteArray) : ByteArray := if e.size = 0 then (⟨#[10]⟩ : ByteArray) else e
def wrapS (s : ByteArray) (wide : Int) (e : ByteArray) (cut : Bool) : ByteArray := ⟨(wrapL (wideN wide) (endB e).toList cut s.size s.toList).toArray⟩
set_option maxHeartbeats 2000000 in
theorem wrap_none (s e0 : ByteArray) (wide : Int) (cut : Bool) (w : World) (hs : s.toList = []) :
    Calls Tryd.prog 55 #[.string s, .int .i64 wide, .string e0, .bool cut] w fun e w' => e = .returned (.string ⟨#[]⟩) ∧ Below w.heap.size w w' := by
  have hs0 : (s.toList == ([] : List UInt8)) = true := by rw [hs]; rfl
  clear hs
  go_enter Tryd.func55, Tryd.ntmps55
  go_wp2_with fail
  go_ret
  exact ⟨rfl, Below.refl _ _⟩
def goutils_WrapCustom.f (a0 : ByteArray) (a1 : Int) (a2 : ByteArray) (a3 : Bool) : Option (ByteArray) := if a0.size ≤ 1000 ∧ a2.size ≤ 1000 ∧ a1 ≤ 1000000 ∧ asciiB a0 then some (wrapS a0 a1 a2 a3) else none
theorem goutils_WrapCustom.calls (a0 : ByteArray) (a1 : Int) (a2 : ByteArray) (a3 : Bool) (r : ByteArray) (w : World) (h : goutils_WrapCustom.f a0 a1 a2 a3 = some r) :
    Calls Tryd.prog 55 #[.string a0, .int .i64 a1, .string a2, .bool a3] w fun e w' => e = .returned (.string r) ∧ Below w.heap.size w w' := by
  unfold goutils_WrapCustom.f at h
  split at h
  case isFalse => exact absurd h (by simp)
  rename_i hb
  obtain rfl := Option.some.inj h
  obtain ⟨h1, h2, h3, h4⟩ := hb
  have hl := len_eq a0
  have hl2 := len_eq a2
  by_cases h0 : a0.toList = []
  · have hz : a0.size = 0 := by rw [hl, h0]; rfl
    have e : wrapS a0 a1 a2 a3 = ⟨#[]⟩ := by unfold wrapS; rw [hz, h0]; rfl
    rw [e]
    exact wrap_none a0 a2 a1 a3 w h0
  have hz : 1 ≤ a0.size := by
    cases h : a0.toList with
    | nil => exact absurd h h0
    | cons a t => rw [hl, h]; simp
  unfold wrapS wideN endB
  by_cases he : a2.size = 0
  · have hemp : a2.toList = [] := List.length_eq_zero_iff.1 (by omega)
    rw [if_pos he]
    by_cases hw : a1 < 1
    · rw [if_pos hw]
      exact wrap_d a0 ⟨#[10]⟩ a2 1 a1 a3 w h1 (by decide) hz (by decide) (by omega) (by omega) h4 hemp rfl hw rfl
    · rw [if_neg hw]
      obtain ⟨n, rfl⟩ : ∃ n : Nat, a1 = (n : Int) := ⟨a1.toNat, by omega⟩
      rw [Int.toNat_natCast]
      exact wrap_c a0 ⟨#[10]⟩ a2 n a3 w h1 (by decide) hz (by decide) (by omega) (by omega) h4 hemp rfl
  · rw [if_neg he]
    by_cases hw : a1 < 1
    · rw [if_pos hw]
      exact wrap_b a0 a2 1 a1 a3 w h1 h2 hz (by omega) (by omega) (by omega) h4 hw rfl
    · rw [if_neg hw]
      obtain ⟨n, rfl⟩ : ∃ n : Nat, a1 = (n : Int) := ⟨a1.toNat, by omega⟩
      rw [Int.toNat_natCast]
      exact wrap_a a0 a2 n a3 w h1 h2 hz (by omega) (by omega) (by omega) h4

end Go.Proofs.YtpkdoinofenahaaDoor.Giv
