/- Walk of the law FnUniq: it answers true. -/
import Derived.Test.YtlkfdjnkkooofaaValU
import Derived.Test.YtlkfdjnkkooofaaValA
namespace Go.Proofs.Ytlkfdjnkkooofaa.Vals
open Go.RowKit Go.Proofs.YtlkfdjnkkooofaaW.PrintWords
set_option linter.unusedVariables false
set_option maxRecDepth 20000

set_option maxHeartbeats 3000000 in
theorem fnUniq_walk (A : Option Addr) (c : Nat) (l : List V) (xs : List Value) (P : Nat → Prop) (w : World) (hl : RowIs w P 6 (.slice A l.length c) l.length xs) (hv : IsVs w P l xs) :
    Calls Try.prog 10 #[.slice A l.length c] w fun e w' => e = .returned (.bool true) ∧ Below w.heap.size w w' := by
  have HRW : Hid (∀ W, Below w.heap.size w W → RowIs W P 6 (.slice A l.length c) l.length xs ∧ IsVs W P l xs) := Lib.hid fun W hW => ⟨hl.keep (by omega) (Kept.below hW), IsVs.keep (Kept.below hW) l hv⟩
  have HAR := Lib.hid (allRight_walk l A c xs P w hl hv)
  obtain ⟨hnc, hcm⟩ := hl.sizes
  unfold maxLen at hcm
  clear hl hv
  obtain ⟨n, hn⟩ : ∃ n, n = l.length := ⟨_, rfl⟩
  rw [← hn] at hnc HRW HAR ⊢
  have HN := Lib.hid hn
  clear hn
  go_enter Try.func10, Try.ntmps10
  by_cases hbig : n > 2147483647
  · go_wp2_with fail
    go_ret
    exact ⟨rfl, Below.refl _ _⟩
  go_wp2_with fail
  refine (HAR.out).mono ?_
  rintro e w1 ⟨b, rfl, HR, hb1⟩
  have HB1 := Lib.hid hb1
  clear hb1
  cases b with
  | false =>
    go_wp2_with fail
    go_ret
    exact ⟨rfl, HB1.out⟩
  | true =>
  obtain ⟨hr, h60⟩ := HR.out rfl
  obtain ⟨m, hm⟩ : ∃ m, m = uniqV l := ⟨_, rfl⟩
  have hrm : Rights m 8 := by rw [hm]; exact hr.uniq
  have hc1 := implUniq_walk l hr (by rw [← HN.out]; exact h60) A c xs P w1 (by rw [← HN.out]; exact (HRW.out w1 HB1.out).1) (HRW.out w1 HB1.out).2
  have hc2 := fun W hW => specUniq_walk l (by rw [← HN.out]; exact h60) A c xs P W (by rw [← HN.out]; exact (HRW.out W hW).1) (HRW.out W hW).2
  rw [← hm, ← HN.out] at hc1
  rw [← hm, ← HN.out] at hc2
  have HC1 := Lib.hid hc1
  have HC2 := Lib.hid hc2
  have HRM := Lib.hid hrm
  clear HR hr hc1 hc2 hrm hm
  go_wp2_with fail
  refine (HC1.out).mono ?_
  rintro e w2 ⟨A1, c1, ys, rfl, HX, HB2⟩
  have HB2' := Lib.hid (HB1.out.trans (HB2.out.mono HB1.out.size))
  have HC := Lib.hid (HC2.out w2 HB2'.out)
  go_wp2_with fail
  refine (HC.out).mono ?_
  rintro e w3 ⟨A2, c2, zs, rfl, HY, HB3⟩
  have HB3' := Lib.hid (HB2'.out.trans (HB3.out.mono HB2'.out.size))
  have hs := sameList_walk (norms m) m A1 A2 c1 c2 ys zs _ _ w3 (by rw [norms_len]; exact HX.out.1.keep (by omega) (Kept.below HB3.out)) (IsVs.keep (Kept.below HB3.out) _ HX.out.2) HY.out.1 HY.out.2
  rw [norms_len, samesB_yes (sames_of HRM.out)] at hs
  have HS := Lib.hid hs
  clear hs
  go_wp2_with fail
  refine (HS.out).mono ?_
  rintro e w4 ⟨b, rfl, hb, hb4⟩
  obtain rfl := hb.out
  have HB4 := Lib.hid (HB3'.out.trans (hb4.mono HB3'.out.size))
  clear hb4 hb
  go_wp2_with fail
  go_ret
  exact ⟨rfl, HB4.out⟩
end Go.Proofs.Ytlkfdjnkkooofaa.Vals
