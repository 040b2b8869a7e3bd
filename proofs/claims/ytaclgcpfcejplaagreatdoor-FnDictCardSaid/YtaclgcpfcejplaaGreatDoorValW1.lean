/- Walks over impl.Value: sizes, bare values. -/
import Derived.Test.YtaclgcpfcejplaaGreatDoorVals
import Derived.Test.YtaclgcpfcejplaaGreatDoorFlt
import Derived.WalkKit
import Derived.BigCall
import Derived.WalkLawsBesides
import Derived.WalkSpells
import Derived.Outline
import Derived.Lib.Hide
namespace Go.Proofs.YtaclgcpfcejplaaGreatDoor.Vals
open Go.RowKit Go.Proofs.YtaclgcpfcejplaaGreatDoorW.PrintWords
set_option linter.unusedVariables false
set_option maxRecDepth 20000

/-- Two values without keys and lists. -/
def bareB (k n : Int) (r : Nat) (t : ByteArray) (k' n' : Int) (r' : Nat) (t' : ByteArray) : Bool :=
  decide (k = k') && (decide (n = n') && ((feq r r' || (!feq r r && !feq r' r')) && (t.toList == t'.toList)))

theorem bare_walk (k n : Int) (r : Nat) (t : ByteArray) (kv lv : Value) (k' n' : Int) (r' : Nat) (t' : ByteArray) (kv' lv' : Value) (w : World) :
    Calls Tryz.prog 16 #[.agg #[.int .i64 k, .int .i64 n, .float .f64 r, .string t, kv, lv], .agg #[.int .i64 k', .int .i64 n', .float .f64 r', .string t', kv', lv']] w
      fun e w' => e = .returned (.bool (bareB k n r t k' n' r' t')) ∧ Below w.heap.size w w' := by
  obtain ⟨res, hres⟩ : ∃ res, res = bareB k n r t k' n' r' t' := ⟨_, rfl⟩
  rw [← hres]
  have HR := Lib.hid hres
  clear hres
  go_enter Tryz.func16, Tryz.ntmps16
  go_wp2_with fail
  all_goals go_ret
  all_goals refine ⟨?_, ((Below.refl _ _).alloc (Nat.le_refl _) _).alloc (by simp) _⟩
  all_goals (rw [HR.out]; congr 2; simp [bareB, feq, bne, *])

/-- A bool, whichever. -/
def SomeBool (Q : Bool → World → Prop) (e : Ending) (w' : World) : Prop := ∃ b, e = .returned (.bool b) ∧ Q b w'
theorem fits2_walk (A : Option Addr) (c : Nat) (ks : List ByteArray) (P : Nat → Prop) (w : World) (h : RowIs w P 1 (.slice A ks.length c) ks.length (ks.map Value.string)) :
    Calls Tryz.prog 4 #[.slice A ks.length c] w (SomeBool fun _ w' => w' = w) := by
  obtain ⟨hnc, hcm⟩ := h.sizes
  unfold maxLen at hcm
  have hcell : ∀ i (hi : i < ks.length), ∃ b o, A = some ⟨b, o, none⟩ ∧ w.cell? ⟨b, o + i, none⟩ = some (.string ks[i]) := fun i hi => by
    obtain ⟨b, o, hA, _, hc⟩ := h.elem (by omega)
    exact ⟨b, o, hA, hc i _ (by simp [hi])⟩
  have HC := Lib.hid hcell
  have hn : ks.length ≤ 9223372036854775807 := by omega
  clear hcell h
  obtain ⟨n, hN⟩ : ∃ n, n = ks.length := ⟨_, rfl⟩
  rw [← hN] at hn hnc ⊢
  have HN := Lib.hid hN
  clear hN
  by_cases hbig : n > 2147483647
  · go_enter Tryz.func4, Tryz.ntmps4
    go_wp2_with fail
    go_ret
    exact ⟨_, rfl, rfl⟩
  · go_enter Tryz.func4, Tryz.ntmps4
    go_wp2_with fail
    go_loopg [4, 10] n (fun kq v4 v10 wr => ∃ (i : Nat) (z : Value), v4 = z ∧ v10 = .int .i64 (i : Int) ∧ i + kq = n ∧ wr = w)
    case atStart => exact ⟨0, _, rfl, rfl, by omega, rfl⟩
    case round =>
      obtain ⟨i, z, rfl, rfl, hik, rfl⟩ := hrel
      cases gk with
      | zero =>
        have hi : ¬ i < n := by omega
        go_wp2_with fail
        go_ret
        exact ⟨_, rfl, rfl⟩
      | succ m =>
        have hi : i < n := by omega
        have hi' : i < ks.length := by have := HN.out; omega
        obtain ⟨b, o, hA, hcc⟩ := HC.out i hi'
        subst hA
        obtain ⟨s, hs⟩ : ∃ s, s = ks[i] := ⟨_, rfl⟩
        rw [← hs] at hcc
        clear hs
        have HIK := Lib.hid hik
        clear hik
        by_cases hb2 : s.size > 2147483647
        · go_wp2_with fail
          go_ret
          exact ⟨_, rfl, rfl⟩
        · go_wp2_with fail
          go_roundg m
          case measure => exact Nat.lt_succ_self m
          case rel => exact ⟨i + 1, _, rfl, by simp, by have := HIK.out; omega, rfl⟩
end Go.Proofs.YtaclgcpfcejplaaGreatDoor.Vals
