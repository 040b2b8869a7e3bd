/- Walks over impl.Value: sizes and weights. -/
import Derived.Test.YtaclgcpfcejplaaGreatDoorValW1
namespace Go.Proofs.YtaclgcpfcejplaaGreatDoor.Vals
open Go.RowKit Go.Proofs.YtaclgcpfcejplaaGreatDoorW.PrintWords
set_option linter.unusedVariables false
set_option maxRecDepth 20000

/-- An int within bounds. -/
def SomeInt (Q : Int → World → Prop) (e : Ending) (w' : World) : Prop := ∃ r, e = .returned (.int .i64 r) ∧ Q r w'

set_option maxHeartbeats 1000000 in
theorem weigh_walk : ∀ (N : Nat) (v : V), SizeOf.sizeOf v < N → ∀ (kv lv : Value) (P : Nat → Prop) (w : World) (left deep : Int), IsV w P v [.int .i64 v.k, .int .i64 v.n, .float .f64 v.r, .string v.t, kv, lv] →
    0 ≤ left → left ≤ 300 → 0 ≤ deep → deep ≤ 8 →
    Calls Tryz.prog 10 #[.agg #[.int .i64 v.k, .int .i64 v.n, .float .f64 v.r, .string v.t, kv, lv], .int .i64 left, .int .i64 deep] w
      (SomeInt fun r w' => (-1 ≤ r ∧ r ≤ 300) ∧ Below w.heap.size w w') := by
  intro N
  induction N with
  | zero => intro v h; omega
  | succ N ih =>
    intro v hN kv lv P w left deep h hl0 hl1 hd0 hd1
    obtain ⟨xs, hk, hl, hv, _, _, ht, _⟩ := h.parts
    obtain ⟨A', c', rfl, hnc', hcm', hdummy⟩ := hl.form
    have hin : ∀ i (hi : i < v.l.length), ∃ b o kv' lv', A' = some ⟨b, o, none⟩ ∧ b < w.heap.size ∧ IsV w P v.l[i] [.int .i64 v.l[i].k, .int .i64 v.l[i].n, .float .f64 v.l[i].r, .string v.l[i].t, kv', lv'] ∧ SizeOf.sizeOf v.l[i] < N ∧
        (w.cell? ⟨b, o + i * 6, none⟩ = some (.int .i64 v.l[i].k) ∧ w.cell? ⟨b, o + i * 6 + 1, none⟩ = some (.int .i64 v.l[i].n) ∧ w.cell? ⟨b, o + i * 6 + 2, none⟩ = some (.float .f64 v.l[i].r) ∧
          w.cell? ⟨b, o + i * 6 + 3, none⟩ = some (.string v.l[i].t) ∧ w.cell? ⟨b, o + i * 6 + 4, none⟩ = some kv' ∧ w.cell? ⟨b, o + i * 6 + 5, none⟩ = some lv') := fun i hi => by
      obtain ⟨b, o, hA, _, hc⟩ := hl.elem (by omega)
      obtain ⟨cs, hcs, hcl, hx⟩ := hv.at_ i hi
      obtain ⟨kv', lv', rfl⟩ := hcs.open_
      have f0 := hc (i * 6 + 0) _ (hx 0 (by omega))
      have f1 := hc (i * 6 + 1) _ (hx 1 (by omega))
      have f2 := hc (i * 6 + 2) _ (hx 2 (by omega))
      have f3 := hc (i * 6 + 3) _ (hx 3 (by omega))
      have f4 := hc (i * 6 + 4) _ (hx 4 (by omega))
      have f5 := hc (i * 6 + 5) _ (hx 5 (by omega))
      exact ⟨b, o, kv', lv', hA, World.block_lt_of_cell? w _ f0, hcs, by have := v.lt_of_get i hi; omega, f0, f1, f2, f3, f4, f5⟩
    have HIN := Lib.hid hin
    have IH := Lib.hid ih
    unfold maxLen at *
    clear ih hin hk hl hv h
    obtain ⟨n, hn⟩ : ∃ n, n = v.l.length := ⟨_, rfl⟩
    rw [← hn] at hnc' ⊢
    have HN := Lib.hid hn
    clear hn
    clear ht hdummy
    obtain ⟨W1, hW1⟩ : ∃ W1, W1 = w.alloc (.cells #[.int .i64 v.k, .int .i64 v.n, .float .f64 v.r, .string v.t, kv, .slice A' n c'] 28) := ⟨_, rfl⟩
    have hb1 : Below w.heap.size w W1 := by rw [hW1]; exact (Below.refl _ _).alloc (Nat.le_refl _) _
    have hs1 : W1.heap.size = w.heap.size + 1 := by rw [hW1]; simp
    have hc5 : W1.cell? ⟨w.heap.size, 5, none⟩ = some (.slice A' n c') := by rw [hW1]; simp
    have HW1 := Lib.hid hW1
    have HB1 := Lib.hid hb1
    have HC5 := Lib.hid hc5
    have HS1 := Lib.hid hs1
    clear hW1 hb1 hc5 hs1
    by_cases a1 : left < 1
    · go_enter Tryz.func10, Tryz.ntmps10
      go_wp2_with fail
      go_ret
      exact ⟨_, rfl, by omega, (Below.refl _ _).alloc (Nat.le_refl _) _⟩
    by_cases a2 : deep = 0
    · subst a2
      go_enter Tryz.func10, Tryz.ntmps10
      go_wp2_with fail
      go_ret
      exact ⟨_, rfl, by omega, (Below.refl _ _).alloc (Nat.le_refl _) _⟩
    have a2' : (deep == 0) = false := by simpa using a2
    by_cases a3 : left - 1 < (n : Int)
    · go_enter Tryz.func10, Tryz.ntmps10
      go_wp2_with fail
      go_ret
      exact ⟨_, rfl, by omega, (Below.refl _ _).alloc (Nat.le_refl _) _⟩
    go_enter Tryz.func10, Tryz.ntmps10
    go_wp2_with fail
    go_loopg [1, 7] n (fun kq v1 v7 wr => ∃ (i : Nat) (L : Int), v1 = .int .i64 L ∧ v7 = .int .i64 (i : Int) ∧ i + kq = n ∧ -1 ≤ L ∧ L ≤ 300 ∧ Hid (Below W1.heap.size W1 wr))
    case atStart => exact ⟨0, _, rfl, rfl, by omega, by omega, by omega, Lib.hid (by rw [← HW1.out]; exact Below.refl _ _)⟩
    case round =>
      obtain ⟨i, L, rfl, rfl, hik, hL0, hL1, H1⟩ := hrel
      have hc5 : wr.cell? ⟨w.heap.size, 5, none⟩ = some (.slice A' n c') := (H1.out.cell (p := ⟨w.heap.size, 5, none⟩) (by rw [HS1.out]; exact Nat.lt_succ_self _)).trans HC5.out
      have hbelow : Hid (Below w.heap.size w wr) := Lib.hid (HB1.out.trans (H1.out.mono (by rw [HS1.out]; exact Nat.le_succ _)))
      cases gk with
      | zero =>
        have hi : ¬ i < n := by omega
        go_wp2_with fail
        go_ret
        exact ⟨_, rfl, by omega, hbelow.out⟩
      | succ m =>
        have hi : i < n := by omega
        have hi' : i < v.l.length := by have := HN.out; omega
        by_cases hLn : L < 0
        · go_wp2_with fail
          go_ret
          exact ⟨_, rfl, by omega, hbelow.out⟩
        obtain ⟨b, o, kv', lv', hA, hbs, hI, hsz, f0, f1, f2, f3, f4, f5⟩ := HIN.out i hi'
        subst hA
        obtain ⟨u, hu⟩ : ∃ u, u = v.l[i] := ⟨_, rfl⟩
        rw [← hu] at f0 f1 f2 f3 hI hsz
        have hcw : ∀ j, wr.cell? ⟨b, j, none⟩ = w.cell? ⟨b, j, none⟩ := fun j => hbelow.out.cell (p := ⟨b, j, none⟩) hbs
        have g0 := (hcw (o + i * 6)).trans f0
        have g1 := (hcw (o + i * 6 + 1)).trans f1
        have g2 := (hcw (o + i * 6 + 2)).trans f2
        have g3 := (hcw (o + i * 6 + 3)).trans f3
        have g4 := (hcw (o + i * 6 + 4)).trans f4
        have g5 := (hcw (o + i * 6 + 5)).trans f5
        have HCALL := Lib.hid (IH.out u hsz kv' lv' P wr L (deep - 1) (IsV.keep (Kept.below hbelow.out) u hI) (by omega) (by omega) (by omega) (by omega))
        have HIK := Lib.hid hik
        clear hcw f0 f1 f2 f3 f4 f5 hI hsz hik hu
        go_wp2_with fail
        refine (HCALL.out).mono ?_
        rintro e w' ⟨r, rfl, ⟨hr0, hr1⟩, hb'⟩
        have HB' := Lib.hid (H1.out.trans (hb'.mono H1.out.size))
        clear hb'
        go_wp2_with fail
        go_roundg m
        case measure => exact Nat.lt_succ_self m
        case rel => exact ⟨i + 1, _, rfl, by simp, by have := HIK.out; omega, by omega, by omega, HB'⟩
end Go.Proofs.YtaclgcpfcejplaaGreatDoor.Vals
