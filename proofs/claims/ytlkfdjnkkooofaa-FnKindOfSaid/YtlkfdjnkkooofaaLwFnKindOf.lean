/- Walk of the law FnKindOf: it answers true. -/
import Derived.Test.YtlkfdjnkkooofaaValR
import Derived.Test.YtlkfdjnkkooofaaValK
namespace Go.Proofs.Ytlkfdjnkkooofaa.Vals
open Go.RowKit Go.Proofs.YtlkfdjnkkooofaaW.PrintWords
set_option linter.unusedVariables false
set_option maxRecDepth 20000

/-- A box of six cells. -/
def Box6 (w : World) (b : Nat) (c0 c1 c2 c3 c4 c5 : Value) : Prop := w.heap[b]? = some (.cells #[c0, c1, c2, c3, c4, c5] 26 (0, 0))
theorem Box6.new (w : World) (c0 c1 c2 c3 c4 c5 : Value) : Box6 (w.alloc (.cells #[c0, c1, c2, c3, c4, c5] 26)) w.heap.size c0 c1 c2 c3 c4 c5 := heap_alloc_new w _
theorem Box6.lt {w : World} {b : Nat} {c0 c1 c2 c3 c4 c5 : Value} (h : Box6 w b c0 c1 c2 c3 c4 c5) : b < w.heap.size := blk_lt h
theorem Box6.below {w w' : World} {b : Nat} {c0 c1 c2 c3 c4 c5 : Value} (h : Box6 w b c0 c1 c2 c3 c4 c5) (hb : Below w.heap.size w w') : Box6 w' b c0 c1 c2 c3 c4 c5 := (hb.block b h.lt).trans h
theorem Box6.cells {w : World} {b : Nat} {c0 c1 c2 c3 c4 c5 : Value} (h : Box6 w b c0 c1 c2 c3 c4 c5) : w.cell? ⟨b, 0, none⟩ = some c0 ∧ w.cell? ⟨b, 1, none⟩ = some c1 ∧ w.cell? ⟨b, 2, none⟩ = some c2 ∧ w.cell? ⟨b, 3, none⟩ = some c3 ∧ w.cell? ⟨b, 4, none⟩ = some c4 ∧ w.cell? ⟨b, 5, none⟩ = some c5 :=
  ⟨by rw [blk_cell h]; rfl, by rw [blk_cell h]; rfl, by rw [blk_cell h]; rfl, by rw [blk_cell h]; rfl, by rw [blk_cell h]; rfl, by rw [blk_cell h]; rfl⟩

set_option maxHeartbeats 4000000 in
theorem fnKindOf_walk (v : V) (kv lv : Value) (P : Nat → Prop) (w : World) (h : IsV w P v [.int .i64 v.k, .int .i64 v.n, .float .f64 v.r, .string v.t, kv, lv]) :
    Calls Try.prog 3 #[.agg #[.int .i64 v.k, .int .i64 v.n, .float .f64 v.r, .string v.t, kv, lv]] w fun e w' => e = .returned (.bool true) ∧ Below w.heap.size w w' := by
  have HI : Hid (∀ W, Below w.heap.size w W → IsV W P v [.int .i64 v.k, .int .i64 v.n, .float .f64 v.r, .string v.t, kv, lv]) := Lib.hid fun W hW => IsV.keep (Kept.below hW) v h
  have HBX : Hid (∀ o, Below w.heap.size w (w.alloc o)) := Lib.hid fun o => (Below.refl _ _).alloc (Nat.le_refl _) o
  have HB0 := Lib.hid (Box6.new w (.int .i64 v.k) (.int .i64 v.n) (.float .f64 v.r) (.string v.t) kv lv)
  have HF := Lib.hid (fun o => fits1_walk v kv lv P (w.alloc o) (HI.out _ (HBX.out o)))
  clear h
  go_enter Try.func3, Try.ntmps3
  go_wp2_with fail
  refine (HF.out _).mono ?_
  rintro e w1 ⟨b, rfl, hb1⟩
  have HX1 := Lib.hid (HB0.out.below hb1)
  have HB1 := Lib.hid ((HBX.out _).trans (hb1.mono (by simp)))
  obtain ⟨d0, d1, d2, d3, d4, d5⟩ := HX1.out.cells
  have HR := Lib.hid (Right_walk v kv lv P w1 (HI.out _ HB1.out))
  clear hb1
  cases b with
  | false =>
    go_wp2_with fail
    go_ret
    exact ⟨rfl, HB1.out⟩
  | true =>
    go_wp2_with fail
    refine HR.out.mono ?_
    rintro e w2 ⟨b, rfl, hR, hb2⟩
    have HX2 := Lib.hid (HX1.out.below hb2)
    have HB2 := Lib.hid (HB1.out.trans (hb2.mono HB1.out.size))
    clear d0 d1 d2 d3 d4 d5 hb2
    obtain ⟨d0, d1, d2, d3, d4, d5⟩ := HX2.out.cells
    cases b with
    | false =>
      go_wp2_with fail
      go_ret
      exact ⟨rfl, HB2.out⟩
    | true =>
      have hr := hR.out rfl
      have hT := iTypeOf_walk v 8 hr kv lv P w2 (HI.out _ HB2.out)
      have hK := fun W hW => iKindOf_walk v 8 hr kv lv P W (HI.out W hW)
      obtain ⟨tn, htn⟩ : ∃ tn, tn = typeNames.getD v.k.toNat ⟨#[]⟩ := ⟨_, rfl⟩
      obtain ⟨kn, hkn⟩ : ∃ kn, kn = kindNames.getD v.k.toNat ⟨#[]⟩ := ⟨_, rfl⟩
      rw [← htn] at hT
      rw [← hkn] at hK
      have HT := Lib.hid hT
      have HK := Lib.hid hK
      have HTN := Lib.hid htn
      have HKN := Lib.hid hkn
      clear hT hK htn hkn
      have hkind : 0 ≤ v.k ∧ v.k ≤ 7 := by cases v; exact hr.kind
      have HRR := Lib.hid hr
      clear hR hr
      go_wp2_with fail
      refine HT.out.mono ?_
      rintro e w3 ⟨rfl, hb3⟩
      have HX3 := Lib.hid (HX2.out.below hb3)
      have HB3 := Lib.hid (HB2.out.trans (hb3.mono HB2.out.size))
      clear d0 d1 d2 d3 d4 d5 hb3
      obtain ⟨d0, d1, d2, d3, d4, d5⟩ := HX3.out.cells
      go_wp2_with fail
      refine (HK.out _ HB3.out).mono ?_
      rintro e w4 ⟨rfl, hb4⟩
      have HX4 := Lib.hid (HX3.out.below hb4)
      have HB4 := Lib.hid (HB3.out.trans (hb4.mono HB3.out.size))
      clear d0 d1 d2 d3 d4 d5 hb4
      obtain ⟨d0, _, _, _, _, _⟩ := HX4.out.cells
      obtain ⟨k, n, r, t, ks, l⟩ := v
      simp only [V.k, V.n, V.r, V.t] at hkind d0 ⊢
      have hd : k = 0 ∨ k = 1 ∨ k = 2 ∨ k = 3 ∨ k = 4 ∨ k = 5 ∨ k = 6 ∨ k = 7 := by omega
      have HB5 : Hid (∀ o p, Below w.heap.size w ((w4.alloc o).alloc p)) := Lib.hid fun o p => (HB4.out.alloc HB4.out.size o).alloc (by have := HB4.out.size; simp; omega) p
      have hl4 := HX4.out.lt
      clear hkind HT HK HR HF HI HB0 HX1 HX2 HX3
      rcases hd with rfl | rfl | rfl | rfl | rfl | rfl | rfl | rfl
      · obtain rfl : tn = ⟨#[60, 110, 105, 108, 62]⟩ := HTN.out.trans rfl
        obtain rfl : kn = ⟨#[105, 110, 118, 97, 108, 105, 100]⟩ := HKN.out.trans rfl
        go_wp2_with fail
        go_ret
        exact ⟨by simp, HB5.out _ _⟩
      · obtain rfl : tn = ⟨#[98, 111, 111, 108]⟩ := HTN.out.trans rfl
        obtain rfl : kn = ⟨#[98, 111, 111, 108]⟩ := HKN.out.trans rfl
        go_wp2_with fail
        go_ret
        exact ⟨by simp, HB5.out _ _⟩
      · obtain rfl : tn = ⟨#[105, 110, 116]⟩ := HTN.out.trans rfl
        obtain rfl : kn = ⟨#[105, 110, 116]⟩ := HKN.out.trans rfl
        go_wp2_with fail
        go_ret
        exact ⟨by simp, HB5.out _ _⟩
      · obtain rfl : tn = ⟨#[105, 110, 116, 54, 52]⟩ := HTN.out.trans rfl
        obtain rfl : kn = ⟨#[105, 110, 116, 54, 52]⟩ := HKN.out.trans rfl
        go_wp2_with fail
        go_ret
        exact ⟨by simp, HB5.out _ _⟩
      · obtain rfl : tn = ⟨#[102, 108, 111, 97, 116, 54, 52]⟩ := HTN.out.trans rfl
        obtain rfl : kn = ⟨#[102, 108, 111, 97, 116, 54, 52]⟩ := HKN.out.trans rfl
        go_wp2_with fail
        go_ret
        exact ⟨by simp, HB5.out _ _⟩
      · obtain rfl : tn = ⟨#[115, 116, 114, 105, 110, 103]⟩ := HTN.out.trans rfl
        obtain rfl : kn = ⟨#[115, 116, 114, 105, 110, 103]⟩ := HKN.out.trans rfl
        go_wp2_with fail
        go_ret
        exact ⟨by simp, HB5.out _ _⟩
      · obtain rfl : tn = ⟨#[91, 93, 105, 110, 116, 101, 114, 102, 97, 99, 101, 32, 123, 125]⟩ := HTN.out.trans rfl
        obtain rfl : kn = ⟨#[115, 108, 105, 99, 101]⟩ := HKN.out.trans rfl
        go_wp2_with fail
        go_ret
        exact ⟨by simp, HB5.out _ _⟩
      · obtain rfl : tn = ⟨#[109, 97, 112, 91, 115, 116, 114, 105, 110, 103, 93, 105, 110, 116, 101, 114, 102, 97, 99, 101, 32, 123, 125]⟩ := HTN.out.trans rfl
        obtain rfl : kn = ⟨#[109, 97, 112]⟩ := HKN.out.trans rfl
        go_wp2_with fail
        go_ret
        exact ⟨by simp, HB5.out _ _⟩
end Go.Proofs.Ytlkfdjnkkooofaa.Vals
