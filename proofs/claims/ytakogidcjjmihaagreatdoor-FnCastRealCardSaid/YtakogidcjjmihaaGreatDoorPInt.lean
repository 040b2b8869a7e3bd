/- strconv.ParseInt over ParseUint's answer: with and without a minus sign. -/
import Derived.Test.YtakogidcjjmihaaGreatDoorPUint
namespace Go.Proofs.YtakogidcjjmihaaGreatDoor.Pu
open Go.RowKit Go.Proofs.YtakogidcjjmihaaGreatDoorW.PrintWords Go.Proofs.YtakogidcjjmihaaGreatDoor.Txt
set_option linter.unusedVariables false
set_option linter.unusedSimpArgs false
set_option maxRecDepth 100000
/-- What a parser answers. -/
def Says (w : World) (v : Value) (e : Ending) (w' : World) : Prop := e = .returned (.tuple #[v, .nilIface]) ∧ Below w.heap.size w w'
theorem i64w (x : Int) (h0 : -9223372036854775808 ≤ x) (h1 : x < 9223372036854775808) : IntKind.i64.wrap x = x := by
  show (if true && decide (x % (2 ^ 64 : Int) ≥ (2 ^ 63 : Int)) then x % (2 ^ 64 : Int) - (2 ^ 64 : Int) else x % (2 ^ 64 : Int)) = x
  by_cases h : x % (2 ^ 64 : Int) ≥ (2 ^ 63 : Int)
  · rw [decide_eq_true h]; simp only [Bool.and_self, if_true]; omega
  · rw [decide_eq_false h]; simp only [Bool.and_false, Bool.false_eq_true, if_false]; omega
set_option maxHeartbeats 2000000 in
theorem pint_pos (s : ByteArray) (B bits : Int) (hb : bits = 0 ∨ bits = 64) (h0 : 0 < s.size) (hp : (s[0]'h0).toNat ≠ 43 ∧ (s[0]'h0).toNat ≠ 45) (V : Nat) (hV : V < 18014398509481984)
    (PU : ∀ W, Calls Tryz.prog 44 #[.string s, .int .i64 B, .int .i64 bits] W fun e w' => e = .returned (.tuple #[.int .u64 (V : Int), .nilIface]) ∧ Below W.heap.size W w') (w : World) :
    Calls Tryz.prog 33 #[.string s, .int .i64 B, .int .i64 bits] w (Says w (.int .i64 (V : Int))) := by
  have HPU := Lib.hid (PU w)
  have hne : s.toList.isEmpty = false := by
    cases e : s.toList with
    | nil => rw [len_eq, e] at h0; simp at h0
    | cons a b => rfl
  obtain ⟨k, hk⟩ : ∃ k, k = (s[0]'h0).toNat := ⟨_, rfl⟩
  have b0 : ∀ h, (s[0]'h).toNat = k := fun h => hk.symm
  rw [← hk] at hp
  have z1 : (k == 43) = false := by simp <;> omega
  have z2 : (k == 45) = false := by simp <;> omega
  have z3 : ((k : Int) == 43) = false := by simp <;> omega
  have z4 : ((k : Int) == 45) = false := by simp <;> omega
  have z5 : ((9223372036854775808 : Int) ≤ (V : Int)) = False := eq_false (by omega)
  have z6 : (9223372036854775808 ≤ V) = False := eq_false (by omega)
  have z7 := i64w (V : Int) (by omega) (by omega)
  clear hk hp PU hV
  rcases hb with rfl | rfl
  all_goals
    go_enter Tryz.func33, Tryz.ntmps33
    go_wp2_with fail
    refine HPU.out.mono ?_
    rintro e w1 ⟨rfl, hb1⟩
    go_wp2_with fail
    go_ret2
    exact ⟨rfl, hb1⟩
set_option maxHeartbeats 2000000 in
theorem pint_neg (s t : ByteArray) (B bits : Int) (hb : bits = 0 ∨ bits = 64) (hs : s.toList = 45 :: t.toList) (V : Nat) (hV : V < 18014398509481984)
    (PU : ∀ W, Calls Tryz.prog 44 #[.string t, .int .i64 B, .int .i64 bits] W fun e w' => e = .returned (.tuple #[.int .u64 (V : Int), .nilIface]) ∧ Below W.heap.size W w') (w : World) :
    Calls Tryz.prog 33 #[.string s, .int .i64 B, .int .i64 bits] w (Says w (.int .i64 (-(V : Int)))) := by
  have HPU := Lib.hid (PU w)
  have hne : s.toList.isEmpty = false := by rw [hs]; rfl
  have hsl : s.size = t.size + 1 := by rw [len_eq, hs, len_eq]; simp
  have hs3 : 1 ≤ s.size := by omega
  have hdl : s.data.toList = 45 :: t.toList := by rw [← Lib.toList_data, hs]
  have b0 : ∀ h, (s[0]'h).toNat = 45 := fun h => by show (s.data[0]'h).toNat = 45; rw [← Array.getElem_toList]; simp [hdl]
  have hex : s.extract 1 s.size = t := ext_eq (by rw [tl_extract, hs]; simp [hsl, len_eq])
  have z5 : ((9223372036854775808 : Int) < (V : Int)) = False := eq_false (by omega)
  have z6 : (9223372036854775808 < V) = False := eq_false (by omega)
  have z7 := i64w (V : Int) (by omega) (by omega)
  have z8 := i64w (-(V : Int)) (by omega) (by omega)
  clear hsl hdl PU hV hs
  rcases hb with rfl | rfl
  all_goals
    go_enter Tryz.func33, Tryz.ntmps33
    go_wp2_with fail
    refine HPU.out.mono ?_
    rintro e w1 ⟨rfl, hb1⟩
    go_wp2_with fail
    go_ret2
    exact ⟨rfl, hb1⟩
theorem pub_int (s : ByteArray) (B bits : Int) (v : Int) (PI : ∀ W, Calls Tryz.prog 33 #[.string s, .int .i64 B, .int .i64 bits] W (Says W (.int .i64 v))) (w : World) :
    Calls Tryz.prog 28 #[.string s, .int .i64 B, .int .i64 bits] w (Says w (.int .i64 v)) := by
  have HPI := Lib.hid (PI w)
  clear PI
  go_enter Tryz.func28, Tryz.ntmps28
  go_wp2_with fail
  refine HPI.out.mono ?_
  rintro e w1 ⟨rfl, hb1⟩
  go_wp2_with fail
  go_ret2
  exact ⟨rfl, hb1⟩
end Go.Proofs.YtakogidcjjmihaaGreatDoor.Pu
