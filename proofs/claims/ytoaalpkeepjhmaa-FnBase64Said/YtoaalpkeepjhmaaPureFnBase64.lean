/- FnBase64: the law's walk. -/
import Derived.Test.YtoaalpkeepjhmaaB6DecS
import Derived.Test.YtoaalpkeepjhmaaB6Spec
namespace Go.Proofs.Ytoaalpkeepjhmaa.Pure
/-- Nothing more is asked. -/
theorem FnBase64 : True := trivial
end Go.Proofs.Ytoaalpkeepjhmaa.Pure
namespace Go.Proofs.Ytoaalpkeepjhmaa.PFnBase64
open Go.RowKit Go.Proofs.YtoaalpkeepjhmaaW.PrintWords Go.Proofs.Ytoaalpkeepjhmaa.Txt Go.Proofs.Ytoaalpkeepjhmaa.B6
set_option linter.unusedVariables false
set_option linter.unusedSimpArgs false
set_option maxRecDepth 100000
theorem yq : tx (enc64 (nums ⟨#[97]⟩)) = ⟨#[89, 81, 61, 61]⟩ := by decide +kernel
theorem bnot (n : Nat) (h : n ≤ 500) : decide ((2147483647 : Int) < (n : Int)) = false ∧ decide ((500 : Int) < (n : Int)) = false := ⟨decide_eq_false (by omega), decide_eq_false (by omega)⟩
set_option maxHeartbeats 8000000 in
theorem laws_FnBase64.walk (_P : True) (a0 : ByteArray) (w : World) (w0 : a0.size ≤ 140737488351232) :
    Calls Try.prog 3 #[.string a0] w fun e w' => e = .returned (.bool true) ∧ Below w.heap.size w w' := by
  by_cases c1 : (2147483647 : Int) < (a0.size : Int)
  · go_enter Try.func3, Try.ntmps3
    go_wp2_with fail
    go_ret
    exact ⟨rfl, Below.refl _ _⟩
  by_cases c2 : (500 : Int) < (a0.size : Int)
  · have c1' : ((2147483647 : Int) < (a0.size : Int)) = False := eq_false c1
    go_enter Try.func3, Try.ntmps3
    go_wp2_with fail
    go_ret
    exact ⟨rfl, Below.refl _ _⟩
  have hs : a0.size ≤ 1000 := by omega
  have HE := Lib.hid (fun W => b64enc_walk a0 hs W)
  have HS := Lib.hid (fun W => base64_call a0 hs W)
  have HD := Lib.hid (fun W => b64dec_walk (nums a0) (by rw [nums_len]; exact hs) (nums_small a0) W)
  rw [tx_nums] at HD
  have HA := Lib.hid (fun W => b64enc_walk ⟨#[97]⟩ (by decide) W)
  rw [yq] at HA
  obtain ⟨t, ht⟩ : ∃ t, t = tx (enc64 (nums a0)) := ⟨_, rfl⟩
  rw [← ht] at HE HS HD
  have c1' : ((2147483647 : Int) < (a0.size : Int)) = False := eq_false c1
  have c2' : ((500 : Int) < (a0.size : Int)) = False := eq_false c2
  clear c1 c2 hs ht
  go_enter Try.func3, Try.ntmps3
  go_wp2_with fail
  refine (HE.out _).mono ?_
  rintro e w1 ⟨rfl, hb1⟩
  have HB1 := Lib.hid hb1
  clear hb1
  go_wp2_with fail
  refine (HS.out _).mono ?_
  rintro e w2 ⟨rfl, hb2⟩
  have HB2 := Lib.hid (HB1.out.trans (hb2.mono HB1.out.size))
  clear hb2
  go_wp2_with fail
  refine (HD.out _).mono ?_
  rintro e w3 ⟨rfl, hb3⟩
  have HB3 := Lib.hid (HB2.out.trans (hb3.mono HB2.out.size))
  clear hb3
  go_wp2_with fail
  refine (HA.out _).mono ?_
  rintro e w4 ⟨rfl, hb4⟩
  have HB4 := Lib.hid (HB3.out.trans (hb4.mono HB3.out.size))
  clear hb4
  go_wp2_with fail
  go_ret
  exact ⟨rfl, HB4.out⟩
end Go.Proofs.Ytoaalpkeepjhmaa.PFnBase64
