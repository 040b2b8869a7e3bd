/- Walk of the law FnHas: it answers true. -/
import Derived.Test.YtlkfdjnkkooofaaValH
import Derived.Test.YtlkfdjnkkooofaaValA
namespace Go.Proofs.Ytlkfdjnkkooofaa.Vals
open Go.RowKit Go.Proofs.YtlkfdjnkkooofaaW.PrintWords
set_option linter.unusedVariables false
set_option maxRecDepth 20000

set_option maxHeartbeats 3000000 in
theorem fnHas_walk (v : V) (kv lv : Value) (Q : Nat → Prop) (A : Option Addr) (c : Nat) (l : List V) (xs : List Value) (P : Nat → Prop) (w : World)
    (h : IsV w Q v [.int .i64 v.k, .int .i64 v.n, .float .f64 v.r, .string v.t, kv, lv]) (hl : RowIs w P 6 (.slice A l.length c) l.length xs) (hv : IsVs w P l xs) :
    Calls Try.prog 4 #[.agg #[.int .i64 v.k, .int .i64 v.n, .float .f64 v.r, .string v.t, kv, lv], .slice A l.length c] w fun e w' => e = .returned (.bool true) ∧ Below w.heap.size w w' := by
  have HRW : Hid (∀ W, Below w.heap.size w W → RowIs W P 6 (.slice A l.length c) l.length xs ∧ IsVs W P l xs) := Lib.hid fun W hW => ⟨hl.keep (by omega) (Kept.below hW), IsVs.keep (Kept.below hW) l hv⟩
  have HI : Hid (∀ W, Below w.heap.size w W → IsV W Q v [.int .i64 v.k, .int .i64 v.n, .float .f64 v.r, .string v.t, kv, lv]) := Lib.hid fun W hW => IsV.keep (Kept.below hW) v h
  have HBX : Hid (∀ o, Below w.heap.size w (w.alloc o)) := Lib.hid fun o => (Below.refl _ _).alloc (Nat.le_refl _) o
  have HB0 := Lib.hid (Box6.new w (.int .i64 v.k) (.int .i64 v.n) (.float .f64 v.r) (.string v.t) kv lv)
  have HF := Lib.hid (fun o => fits1_walk v kv lv Q (w.alloc o) (HI.out _ (HBX.out o)))
  have HAR : Hid (∀ W, Below w.heap.size w W → Calls Try.prog 16 #[.slice A l.length c] W (SomeBool fun b w' => Hid (b = true → Rights l 8 ∧ l.length ≤ 60) ∧ Below W.heap.size W w')) := Lib.hid fun W hW => allRight_walk l A c xs P W (HRW.out W hW).1 (HRW.out W hW).2
  have hsf := store_float
  obtain ⟨hnc, hcm⟩ := hl.sizes
  unfold maxLen at hcm
  clear hl hv h
  obtain ⟨n, hn⟩ : ∃ n, n = l.length := ⟨_, rfl⟩
  rw [← hn] at hnc HRW HAR ⊢
  have HN := Lib.hid hn
  clear hn
  go_enter Try.func4, Try.ntmps4
  go_wp2_with fail
  refine (HF.out _).mono ?_
  rintro e w1 ⟨b, rfl, hb1⟩
  have HX1 := Lib.hid (HB0.out.below hb1)
  have HB1 := Lib.hid ((HBX.out _).trans (hb1.mono (by simp)))
  clear hb1
  cases b with
  | false =>
    go_wp2_with fail
    go_ret
    exact ⟨rfl, HB1.out⟩
  | true =>
  by_cases hbig : n > 2147483647
  · go_wp2_with fail
    go_ret
    exact ⟨rfl, HB1.out⟩
  have HC := Lib.hid (HAR.out w1 HB1.out)
  go_wp2_with fail
  refine (HC.out).mono ?_
  rintro e w2 ⟨b, rfl, HR, hb2⟩
  have HX2 := Lib.hid (HX1.out.below hb2)
  have HB2 := Lib.hid (HB1.out.trans (hb2.mono HB1.out.size))
  clear hb2 HC
  cases b with
  | false =>
    go_wp2_with fail
    go_ret
    exact ⟨rfl, HB2.out⟩
  | true =>
  obtain ⟨hr, h60⟩ := HR.out rfl
  have HRI := Lib.hid hr
  clear HR hr
  obtain ⟨d0, d1, d2, d3, d4, d5⟩ := HX2.out.cells
  have HC := Lib.hid (Right_walk v kv lv Q w2 (HI.out _ HB2.out))
  go_wp2_with fail
  refine (HC.out).mono ?_
  rintro e w3 ⟨b, rfl, HR, hb3⟩
  have HX3 := Lib.hid (HX2.out.below hb3)
  have HB3 := Lib.hid (HB2.out.trans (hb3.mono HB2.out.size))
  clear hb3 HC d0 d1 d2 d3 d4 d5
  obtain ⟨d0, d1, d2, d3, d4, d5⟩ := HX3.out.cells
  cases b with
  | false =>
    go_wp2_with fail
    go_ret
    exact ⟨rfl, HB3.out⟩
  | true =>
  have HRV := Lib.hid (HR.out rfl)
  have HC := Lib.hid (implHas_walk v 8 HRV.out kv lv l HRI.out (by rw [← HN.out]; exact h60) A c xs P Q w3 (HI.out _ HB3.out) (by rw [← HN.out]; exact (HRW.out _ HB3.out).1) (HRW.out _ HB3.out).2)
  rw [← HN.out] at HC
  clear HR
  go_wp2_with fail
  refine (HC.out).mono ?_
  rintro e w4 ⟨b, rfl, hb, hb4⟩
  have HX4 := Lib.hid (HX3.out.below hb4)
  have HB4 := Lib.hid (HB3.out.trans (hb4.mono HB3.out.size))
  have HC2 := Lib.hid (specHas_walk v kv lv l A c xs P Q w4 (HI.out _ HB4.out) (by rw [← HN.out]; exact (HRW.out _ HB4.out).1) (HRW.out _ HB4.out).2)
  rw [← HN.out, hb.out] at HC2
  clear hb4 HC d0 d1 d2 d3 d4 d5 hb
  obtain ⟨d0, d1, d2, d3, d4, d5⟩ := HX4.out.cells
  go_wp2_with fail
  refine (HC2.out).mono ?_
  rintro e w5 ⟨b', rfl, hb', hb5⟩
  obtain rfl := hb'.out
  have HB5 := Lib.hid (HB4.out.trans (hb5.mono HB4.out.size))
  clear hb5 hb' HC2
  go_wp2_with fail
  go_ret
  exact ⟨by simp, HB5.out⟩
end Go.Proofs.Ytlkfdjnkkooofaa.Vals
