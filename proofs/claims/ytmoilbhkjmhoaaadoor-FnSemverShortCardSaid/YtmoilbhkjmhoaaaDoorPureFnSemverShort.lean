/- FnSemverShort: missing numbers are 0: the law's walk. -/
import Derived.Test.YtmoilbhkjmhoaaaDoorSvStr
namespace Go.Proofs.YtmoilbhkjmhoaaaDoor.Pure
/-- Nothing more is asked. -/
theorem FnSemverShort : True := trivial
end Go.Proofs.YtmoilbhkjmhoaaaDoor.Pure
namespace Go.Proofs.YtmoilbhkjmhoaaaDoor.PFnSemverShort
open Go.RowKit Go.Proofs.YtmoilbhkjmhoaaaDoor.Vals Go.Proofs.YtmoilbhkjmhoaaaDoorW.PrintWords Go.Proofs.YtmoilbhkjmhoaaaDoor.Txt Go.Proofs.YtmoilbhkjmhoaaaDoor.Giv Go.Proofs.YtmoilbhkjmhoaaaDoor Go.Proofs.YtmoilbhkjmhoaaaDoor.Sv
set_option linter.unusedVariables false
set_option linter.unusedSimpArgs false
set_option maxRecDepth 20000
theorem text3_list (a m p : Nat) : (text3 a m p).toList = Lib.decDigits a ++ (46 :: (Lib.decDigits m ++ (46 :: Lib.decDigits p))) := by
  have e : (⟨#[46]⟩ : ByteArray).toList = [46] := by rw [Lib.toList_data]
  unfold text3
  rw [tl_append, tl_append, tl_append, tl_append, decB_tl, decB_tl, decB_tl, e]
  simp
theorem text3_size {a m p : Nat} : (text3 a m p).size = (Lib.decDigits a).length + (Lib.decDigits m).length + (Lib.decDigits p).length + 2 := by
  rw [len_eq, text3_list]; simp; omega
theorem dec0 : Lib.decDigits 0 = [48] := Lib.decDigits_one (by decide)
set_option maxHeartbeats 1000000 in
theorem laws_FnSemverShort.walk (_P : True) (a0 a1 : Int) (w : World) (T : Pow10 w) (w0 : (Lit.int .u32 a0).wf = true) (w1 : (Lit.int .u32 a1).wf = true) :
    Calls Tryd.prog 3 #[.int .u32 a0, .int .u32 a1] w fun e w' => e = .returned (.bool true) ∧ Below w.heap.size w w' := by
  have hb0 : 0 ≤ a0 ∧ a0 ≤ 4294967295 := by
    simp only [Lit.wf, IntKind.min, IntKind.max, IntKind.signed, IntKind.bits, Bool.and_eq_true, decide_eq_true_eq] at w0
    simp at w0
    omega
  have hb1 : 0 ≤ a1 ∧ a1 ≤ 4294967295 := by
    simp only [Lit.wf, IntKind.min, IntKind.max, IntKind.signed, IntKind.bits, Bool.and_eq_true, decide_eq_true_eq] at w1
    simp at w1
    omega
  clear w0 w1
  obtain ⟨n, rfl⟩ : ∃ n : Nat, a0 = n := ⟨a0.toNat, by omega⟩
  obtain ⟨k, rfl⟩ : ∃ k : Nat, a1 = k := ⟨a1.toNat, by omega⟩
  by_cases h0 : (999999999 : Int) < (n : Int)
  · clear hb0 hb1
    go_enter Tryd.func3, Tryd.ntmps3
    go_wp2_with fail
    go_ret
    exact ⟨rfl, Below.refl _ _⟩
  by_cases h1 : (999999999 : Int) < (k : Int)
  · clear hb0 hb1
    go_enter Tryd.func3, Tryd.ntmps3
    go_wp2_with fail
    go_ret
    exact ⟨rfl, Below.refl _ _⟩
  have hn : n < 1000000000 := by omega
  have hk : k < 1000000000 := by omega
  have ln := dec_len 8 n (by omega)
  have lk := dec_len 8 k (by omega)
  obtain ⟨A, hA⟩ : ∃ A, A = text3 n 0 0 := ⟨_, rfl⟩
  obtain ⟨B, hB⟩ : ∃ B, B = text3 n k 0 := ⟨_, rfl⟩
  have sA : A.size = (Lib.decDigits n).length + 4 := by rw [hA, text3_size, dec0]; simp
  have sB : B.size = (Lib.decDigits n).length + (Lib.decDigits k).length + 3 := by rw [hB, text3_size, dec0]; simp <;> omega
  have lA : (A.extract 0 (A.size - 4)).toList = Lib.decDigits n ++ (sg 46 [] ++ sg 46 []) := by
    rw [tl_extract, sA, hA, text3_list]; simp [sg]
  have lB : (B.extract 0 (B.size - 2)).toList = Lib.decDigits n ++ (sg 46 (Lib.decDigits k) ++ sg 46 []) := by
    rw [tl_extract, sB, hB, text3_list]
    have e : sg 46 (Lib.decDigits k) = 46 :: Lib.decDigits k := by unfold sg; rw [if_neg (dec_ne k)]
    rw [e, List.drop_zero, Nat.sub_zero, dec0]
    have e2 : Lib.decDigits n ++ 46 :: (Lib.decDigits k ++ [46, 48]) = (Lib.decDigits n ++ 46 :: Lib.decDigits k) ++ [46, 48] := by simp
    rw [e2, List.take_left' (by simp <;> omega)]
    simp [sg]
  have HX1 : Hid (∀ W, Calls Tryd.prog 9 #[.agg #[.int .u64 (n : Int), .int .u64 0, .int .u64 0, .string ⟨#[]⟩, .string ⟨#[]⟩]] W fun e w' => e = .returned (.string A) ∧ Below W.heap.size W w') := Lib.hid fun W => by rw [hA]; exact textOf_walk n 0 0 hn (by decide) (by decide) W
  have HX2 : Hid (∀ W, Calls Tryd.prog 9 #[.agg #[.int .u64 (n : Int), .int .u64 (k : Int), .int .u64 0, .string ⟨#[]⟩, .string ⟨#[]⟩]] W fun e w' => e = .returned (.string B) ∧ Below W.heap.size W w') := Lib.hid fun W => by rw [hB]; exact textOf_walk n k 0 hn hk (by decide) W
  have HS1 : Hid (∀ W, Below w.heap.size w W → Calls Tryd.prog 10 #[.string (A.extract 0 (A.size - 4))] W fun e w' => e = .returned (.tuple #[.string A, .bool true]) ∧ Below W.heap.size W w') := Lib.hid fun W hW => by
    rw [hA] at lA ⊢
    exact semverText_walk (numTx_ok (dec_ne n) (dec_all n) rfl rfl (fun _ => rfl)) _ lA (by rw [size_extract _ _ _ (Nat.zero_le _) (by omega), ← hA]; omega) n 0 0 (dec_parse n (by omega)) (.inl ⟨rfl, rfl⟩) (.inl ⟨rfl, rfl⟩) hn (by decide) (by decide) W (T.below hW)
  have HS2 : Hid (∀ W, Below w.heap.size w W → Calls Tryd.prog 10 #[.string (B.extract 0 (B.size - 2))] W fun e w' => e = .returned (.tuple #[.string B, .bool true]) ∧ Below W.heap.size W w') := Lib.hid fun W hW => by
    rw [hB] at lB ⊢
    exact semverText_walk (numTx_ok (dec_ne n) (dec_all n) (dec_all k) rfl (fun h => absurd h (dec_ne k))) _ lB (by rw [size_extract _ _ _ (Nat.zero_le _) (by omega), ← hB]; omega) n k 0 (dec_parse n (by omega)) (.inr ⟨dec_ne k, dec_parse k (by omega)⟩) (.inl ⟨rfl, rfl⟩) hn hk (by decide) W (T.below hW)
  have za : A.size ≤ 20 := by omega
  have za4 : 4 ≤ A.size := by omega
  have zb : B.size ≤ 30 := by omega
  have zb2 : 2 ≤ B.size := by omega
  have na : (0 : Int) ≤ (A.size : Int) - 4 := by omega
  have nb : (0 : Int) ≤ (B.size : Int) - 2 := by omega
  have na' : (A.size : Int) - 4 ≤ (A.size : Int) := by omega
  have nb' : (B.size : Int) - 2 ≤ (B.size : Int) := by omega
  have ta : ((A.size : Int) - 4).toNat = A.size - 4 := by omega
  have tb : ((B.size : Int) - 2).toNat = B.size - 2 := by omega
  have HZ := Lib.hid (Below.refl w.heap.size w)
  clear hb0 hb1 sA sB lA lB hA hB T ln lk hn hk
  go_enter Tryd.func3, Tryd.ntmps3
  go_wp2_with fail
  refine (HX1.out _).mono ?_
  rintro e w1 ⟨rfl, hb1⟩
  have HB1 := Lib.hid hb1
  clear hb1
  go_wp2_with fail
  refine (HX2.out _).mono ?_
  rintro e w2 ⟨rfl, hb2⟩
  have HB2 := Lib.hid (HB1.out.trans (hb2.mono HB1.out.size))
  clear hb2
  go_wp2_with fail
  refine (HS1.out _ HB2.out).mono ?_
  rintro e w3 ⟨rfl, hb3⟩
  have HB3 := Lib.hid (HB2.out.trans (hb3.mono HB2.out.size))
  clear hb3
  go_wp2_with fail
  refine (HS2.out _ HB3.out).mono ?_
  rintro e w4 ⟨rfl, hb4⟩
  have HB4 := Lib.hid (HB3.out.trans (hb4.mono HB3.out.size))
  clear hb4
  go_wp2_with fail
  go_ret
  refine ⟨?_, HB4.out⟩
  simp
end Go.Proofs.YtmoilbhkjmhoaaaDoor.PFnSemverShort
