/- Semantic versions, plain: what ^ stands for; pairs of signs. -/
import Derived.Test.YtoebognfkigooaaGreatDoorMF
namespace Go.Proofs.YtoebognfkigooaaGreatDoor.Sv
open Go.RowKit Go.Proofs.YtoebognfkigooaaGreatDoor.PFnSemverEither Go.Proofs.YtoebognfkigooaaGreatDoorW.PrintWords Go.Proofs.YtoebognfkigooaaGreatDoor.Txt Go.Proofs.YtoebognfkigooaaGreatDoor Go.Proofs.YtoebognfkigooaaGreatDoor.Vals
set_option linter.unusedVariables false
set_option linter.unusedSimpArgs false

theorem ask_caret (r : Int) (x y z X Y Z : Int) (md di pd : Bool) : askB [94] r x y z X Y Z md di pd = caretB (decide (r < 0)) x y z X Y Z md pd := by simp [askB]
theorem caret_major (x y z a m p : Nat) (ha : 0 < a) : (askC x y z (cn3 [94] [] a m p) == withB x y z a m p (a + 1) 0 0) = true := by
  rw [ask3, ask_caret]
  refine bool_of ?_
  unfold withB caretB
  rcases ord3_cases x y z a m p with ⟨h1, h2⟩ | ⟨h1, h2⟩ | ⟨h1, h2⟩ <;> rcases ord3_cases x y z (a + 1) 0 0 with ⟨k1, k2⟩ | ⟨k1, k2⟩ | ⟨k1, k2⟩ <;> rw [h2, k2] <;> (try unfold Lex at *) <;> simp [show (0 : Int) < (a : Int) by omega, ha] <;> omega
theorem caret_minor (x y z a m p : Nat) (ha : a = 0) (hm : 0 < m) : (askC x y z (cn3 [94] [] a m p) == withB x y z a m p 0 (m + 1) 0) = true := by
  rw [ask3, ask_caret]
  refine bool_of ?_
  unfold withB caretB
  have e1 : ¬ (0 : Int) < (a : Int) := by omega
  have e2 : (0 : Int) < (m : Int) := by omega
  rcases ord3_cases x y z a m p with ⟨h1, h2⟩ | ⟨h1, h2⟩ | ⟨h1, h2⟩ <;> rcases ord3_cases x y z 0 (m + 1) 0 with ⟨k1, k2⟩ | ⟨k1, k2⟩ | ⟨k1, k2⟩ <;> rw [h2, k2, decide_eq_false e1, decide_eq_true e2] <;> (try unfold Lex at *) <;> simp <;> omega
theorem caret_patch (x y z a m p : Nat) (ha : a = 0) (hm : m = 0) (hp : 0 < p) : (askC x y z (cn3 [94] [] a m p) == withB x y z a m p 0 0 (p + 1)) = true := by
  rw [ask3, ask_caret]
  refine bool_of ?_
  unfold withB caretB
  have e1 : ¬ (0 : Int) < (a : Int) := by omega
  have e2 : ¬ (0 : Int) < (m : Int) := by omega
  rcases ord3_cases x y z a m p with ⟨h1, h2⟩ | ⟨h1, h2⟩ | ⟨h1, h2⟩ <;> rcases ord3_cases x y z 0 0 (p + 1) with ⟨k1, k2⟩ | ⟨k1, k2⟩ | ⟨k1, k2⟩ <;> rw [h2, k2, decide_eq_false e1, decide_eq_false e2] <;> (try unfold Lex at *) <;> simp <;> omega
theorem caret_two (x y z a m : Nat) (ha : 0 < a) : (askC x y z (cn2 [94] a m) == withB x y z a m 0 (a + 1) 0 0) = true := by
  rw [ask2, ask_caret]
  refine bool_of ?_
  unfold withB caretB
  rcases ord3_cases x y z a m 0 with ⟨h1, h2⟩ | ⟨h1, h2⟩ | ⟨h1, h2⟩ <;> rcases ord3_cases x y z (a + 1) 0 0 with ⟨k1, k2⟩ | ⟨k1, k2⟩ | ⟨k1, k2⟩ <;> rw [h2, k2] <;> (try unfold Lex at *) <;> simp [show (0 : Int) < (a : Int) by omega, ha] <;> omega
theorem caret_one (x y z a : Nat) (ha : 0 < a) : (askC x y z (cn1 [94] a) == withB x y z a 0 0 (a + 1) 0 0) = true := by
  rw [ask1, ask_caret]
  refine bool_of ?_
  unfold withB caretB
  rcases ord3_cases x y z a 0 0 with ⟨h1, h2⟩ | ⟨h1, h2⟩ | ⟨h1, h2⟩ <;> rcases ord3_cases x y z (a + 1) 0 0 with ⟨k1, k2⟩ | ⟨k1, k2⟩ | ⟨k1, k2⟩ <;> rw [h2, k2] <;> (try unfold Lex at *) <;> simp [show (0 : Int) < (a : Int) by omega, ha] <;> omega
/-! ### pairs -/
theorem sign_ge (x y z a m p : Nat) (bl : List UInt8) : askC x y z (cn3 [61, 62] [] a m p) = askC x y z (cn3 [62, 61] bl a m p) := by rw [ask3, ask3]; simp [askB]
theorem sign_le (x y z a m p : Nat) : askC x y z (cn3 [61, 60] [] a m p) = askC x y z (cn3 [60, 61] [] a m p) := by rw [ask3, ask3]; simp [askB]
theorem sign_tilde (x y z a m p : Nat) : askC x y z (cn3 [126, 62] [] a m p) = askC x y z (cn3 [126] [] a m p) := by rw [ask3, ask3]; simp [askB]
theorem sign_gt (x y z a m p : Nat) : (askC x y z (cn3 [62, 61] [] a m p) && askC x y z (cn3 [33, 61] [] a m p)) = askC x y z (cn3 [62] [] a m p) := by
  rw [ask3, ask3, ask3]
  rcases ord3_cases x y z a m p with ⟨h1, h2⟩ | ⟨h1, h2⟩ | ⟨h1, h2⟩ <;> rw [h2] <;> rfl
theorem sign_eq (x y z a m p : Nat) : (askC x y z (cn3 [62, 61] [] a m p) && askC x y z (cn3 [60, 61] [] a m p)) = askC x y z (cn3 [61] [] a m p) := by
  rw [ask3, ask3, ask3]
  rcases ord3_cases x y z a m p with ⟨h1, h2⟩ | ⟨h1, h2⟩ | ⟨h1, h2⟩ <;> rw [h2] <;> rfl
end Go.Proofs.YtoebognfkigooaaGreatDoor.Sv
