/- Walks of spec.Right and spec.AllRight: what they answer of values that aren't right is left open. -/
import Derived.Test.YtaclgcpfcejplaaValW3
namespace Go.Proofs.Ytaclgcpfcejplaa.Vals
open Go.RowKit Go.Proofs.YtaclgcpfcejplaaW.PrintWords
set_option linter.unusedVariables false
set_option maxRecDepth 20000

theorem Right_walk (v : V) (kv lv : Value) (P : Nat → Prop) (w : World) (h : IsV w P v [.int .i64 v.k, .int .i64 v.n, .float .f64 v.r, .string v.t, kv, lv]) :
    Calls Try.prog 7 #[.agg #[.int .i64 v.k, .int .i64 v.n, .float .f64 v.r, .string v.t, kv, lv]] w
      (SomeBool fun b w' => Hid (b = true → Right v 8) ∧ Below w.heap.size w w') := by
  have HBX : Hid (∀ o, Below w.heap.size w (w.alloc o)) := Lib.hid fun o => (Below.refl _ _).alloc (Nat.le_refl _) o
  have HW := Lib.hid (fun o => weigh_walk _ v (Nat.lt_succ_self _) kv lv P (w.alloc o) 300 8 (IsV.keep (Kept.below (HBX.out o)) v h) (by omega) (by omega) (by omega) (by omega))
  have HR : Hid (∀ W, Below w.heap.size w W → Calls Try.prog 12 #[.agg #[.int .i64 v.k, .int .i64 v.n, .float .f64 v.r, .string v.t, kv, lv], .int .i64 8] W (TheBool (rightB v 8) fun w' => Below W.heap.size W w')) := Lib.hid fun W hW =>
    right_walk _ v (Nat.lt_succ_self _) kv lv P W 8 (IsV.keep (Kept.below hW) v h) (by omega) (by omega)
  clear h
  obtain ⟨W0, hW0⟩ : ∃ W0, W0 = w.alloc (.cells #[.int .i64 v.k, .int .i64 v.n, .float .f64 v.r, .string v.t, kv, lv] 26) := ⟨_, rfl⟩
  have c0 : W0.cell? ⟨w.heap.size, 0, none⟩ = some (.int .i64 v.k) := by rw [hW0]; simp
  have c1 : W0.cell? ⟨w.heap.size, 1, none⟩ = some (.int .i64 v.n) := by rw [hW0]; simp
  have c2 : W0.cell? ⟨w.heap.size, 2, none⟩ = some (.float .f64 v.r) := by rw [hW0]; simp
  have c3 : W0.cell? ⟨w.heap.size, 3, none⟩ = some (.string v.t) := by rw [hW0]; simp
  have c4 : W0.cell? ⟨w.heap.size, 4, none⟩ = some kv := by rw [hW0]; simp
  have c5 : W0.cell? ⟨w.heap.size, 5, none⟩ = some lv := by rw [hW0]; simp
  have hs0 : w.heap.size < W0.heap.size := by rw [hW0]; simp
  have HC := Lib.hid (And.intro hW0 (And.intro hs0 (And.intro c0 (And.intro c1 (And.intro c2 (And.intro c3 (And.intro c4 c5)))))))
  clear hW0 c0 c1 c2 c3 c4 c5 hs0
  go_enter Try.func7, Try.ntmps7
  go_wp2_with fail
  refine (HW.out _).mono ?_
  rintro e w1 ⟨r, rfl, _, hb1⟩
  obtain ⟨hW0, hs0, c0, c1, c2, c3, c4, c5⟩ := HC.out
  rw [← hW0] at hb1
  have d0 := (hb1.cell (p := ⟨w.heap.size, 0, none⟩) hs0).trans c0
  have d1 := (hb1.cell (p := ⟨w.heap.size, 1, none⟩) hs0).trans c1
  have d2 := (hb1.cell (p := ⟨w.heap.size, 2, none⟩) hs0).trans c2
  have d3 := (hb1.cell (p := ⟨w.heap.size, 3, none⟩) hs0).trans c3
  have d4 := (hb1.cell (p := ⟨w.heap.size, 4, none⟩) hs0).trans c4
  have d5 := (hb1.cell (p := ⟨w.heap.size, 5, none⟩) hs0).trans c5
  have hB0 : Below w.heap.size w W0 := by rw [hW0]; exact HBX.out _
  have HB1 := Lib.hid (hB0.trans (hb1.mono (Nat.le_of_lt hs0)))
  clear hW0 hs0 c0 c1 c2 c3 c4 c5 hb1 hB0
  by_cases hr : 0 ≤ r
  · go_wp2_with fail
    refine (HR.out _ HB1.out).mono ?_
    rintro e w2 ⟨b, rfl, hb, hb2⟩
    have HB2 := Lib.hid (HB1.out.trans (hb2.mono HB1.out.size))
    clear hb2
    go_wp2_with fail
    go_ret
    exact ⟨b, rfl, Lib.hid (fun h => rightB_iff.1 (hb.out.trans h)), HB2.out⟩
  · go_wp2_with fail
    go_ret
    exact ⟨false, rfl, Lib.hid (fun h => by cases h), HB1.out⟩
end Go.Proofs.Ytaclgcpfcejplaa.Vals
