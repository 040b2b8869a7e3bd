/- impl.caught: what it answers when the function that it is handed returns, and when it panics. -/
import Derived.Test.YtaclgcpfcejplaaProg
import Derived.Test.YtaclgcpfcejplaaTxt
import Derived.WalkKit
import Derived.BigCall
import Derived.WalkLawsBesides
import Derived.WalkSpells
import Derived.Outline
import Derived.Defers
import Derived.Recover
import Derived.Laws.Pointers
import Derived.Lib.Hide
namespace Go.Proofs.Ytaclgcpfcejplaa.Giv
open Go.RowKit Go.Proofs.YtaclgcpfcejplaaW.PrintWords Go.Proofs.Ytaclgcpfcejplaa.Txt
set_option linter.unusedVariables false

/-- The run-time's panic at a bound, the index an int. -/
theorem run_bounds64 {α : Type} (w : World) (x y : Int) (code : BoundsCode) :
    ∃ pv n, (boundsPanic .i64 x y code : Sem α).run Try.prog w = .halt (.panic (.iface 8 pv)) (w.drewN n) := by
  unfold boundsPanic
  by_cases h : 0 ≤ x ∧ x ≤ 31
  · refine ⟨.agg #[.int .i64 (IntKind.i64.wrap x), .int .i64 y, .bool ((Question.extern "runtime.boundsError.signed" 2).cut (w.tape w.drawn (Question.extern "runtime.boundsError.signed" 2)) == 1), .int .u8 code.toNat], 1, ?_⟩
    simp [runtimePanic, goPanic, go_sem, h]
    rfl
  · refine ⟨.agg #[.int .i64 (IntKind.i64.wrap x), .int .i64 y, .bool (IntKind.i64 != IntKind.u64), .int .u8 code.toNat], 0, ?_⟩
    simp [runtimePanic, goPanic, go_sem, h]
    rfl
theorem catch_panicking (p : Addr) (x : Bool) (u : TypeId) (pv : Value) (older : List PanicEntry) (w : World) (hc : w.cell? p = some (.bool x)) (hz : w.frozen? p = false) :
    CallsD Try.prog 22 #[.pointer (some p)] (.panicking ({ v := .iface u pv, recovered := false } :: older)) w fun e u' w' =>
      e = .returned (.tuple #[]) ∧ u' = .panicking ({ v := .iface u pv, recovered := true } :: older) ∧ w' = w.setCell p (.bool false) := by
  refine callsD_of_wpS Try.func22 rfl fun c₀ cs hu => ?_
  apply wpS_seq
  apply wpS_region
  simp [wpOpsS, go_sem, recoverD, hu, Try.ntmps22, Exit.thenS]
  refine wpS_cond (t := true) (by simp [Act.eval, Array.replicate]) ?_
  simp only [if_true]
  apply wpS_region
  simp [wpOpsS, go_sem, hc, hz, bodyPostS, results, Try.results22]
theorem catch_idle (p : Addr) (w : World) :
    CallsD Try.prog 22 #[.pointer (some p)] .returning w fun e u' w' => e = .returned (.tuple #[]) ∧ u' = .returning ∧ w' = w := by
  refine callsD_of_wpS Try.func22 rfl fun c₀ cs hu => ?_
  apply wpS_seq
  apply wpS_region
  simp [wpOpsS, go_sem, recoverD, hu, Try.ntmps22, Exit.thenS]
  refine wpS_cond (t := false) (by simp [Act.eval, Array.replicate]) ?_
  simp only [Bool.false_eq_true, if_false]
  refine wpS_of_wp (wp_skip ?_)
  cases c₀
  simp_all [bodyPostS, results, Try.results22]

theorem caught_yes (G : Nat) (caps : Array Value) (w : World) (Q : World → Prop)
    (hcall : ∀ W : World, (callFunc G caps).run Try.prog W = .ok (.enter G caps) W)
    (hQ : ∀ W, Q W → W.cell? ⟨w.heap.size, 0, none⟩ = some (.bool false) ∧ W.frozen? ⟨w.heap.size, 0, none⟩ = false)
    (hG : Calls Try.prog G caps (w.alloc (.cells #[.bool false] 4)) fun e w' => e = .returned (.tuple #[]) ∧ Q w') :
    Calls Try.prog 15 #[.func (.func G) #[] caps] w fun e w' => e = .returned (.bool true) ∧ ∃ W1, Q W1 ∧ w' = W1.setCell ⟨w.heap.size, 0, none⟩ (.bool true) := by
  have hmf : ∀ (fn : Fn) (first cap : Array Value) (w : World), (Instr.makeFunc fn first cap).run Try.prog w = .ok (.func fn first cap) w := fun _ _ _ _ => rfl
  have HG := Lib.hid hG
  have HQ := Lib.hid hQ
  clear hG hQ
  go_enter_defers Try.func15, Try.ntmps15
  go_wp2_with fail
  refine HG.out.mono ?_
  rintro e W1 ⟨rfl, hq⟩
  obtain ⟨hc, hz⟩ := HQ.out _ hq
  have Hq := Lib.hid hq
  clear hq
  go_wp2_with fail
  refine leaves_cons (f := 22) (args := #[.pointer (some ⟨w.heap.size, 0, none⟩)]) (by simp) (by simp [go_sem]) ?_
  refine (catch_idle ⟨w.heap.size, 0, none⟩ _).mono ?_
  rintro e u' w'' ⟨rfl, rfl, rfl⟩
  have hs := World.cell?_setCell_same W1 ⟨w.heap.size, 0, none⟩ (.bool true) hc
  simp [Leaves, settle, results, Try.results15, go_sem, hs]
  exact ⟨W1, Hq.out, rfl⟩
theorem caught_no (G : Nat) (caps : Array Value) (w : World) (u : TypeId) (pv : Value) (Q : World → Prop)
    (hcall : ∀ W : World, (callFunc G caps).run Try.prog W = .ok (.enter G caps) W)
    (hQ : ∀ W, Q W → W.cell? ⟨w.heap.size, 0, none⟩ = some (.bool false) ∧ W.frozen? ⟨w.heap.size, 0, none⟩ = false)
    (hG : Calls Try.prog G caps (w.alloc (.cells #[.bool false] 4)) fun e w' => e = .panicked [{ v := .iface u pv, recovered := false }] ∧ Q w') :
    Calls Try.prog 15 #[.func (.func G) #[] caps] w fun e w' => e = .returned (.bool false) ∧ ∃ W1, Q W1 ∧ w' = W1.setCell ⟨w.heap.size, 0, none⟩ (.bool false) := by
  have hmf : ∀ (fn : Fn) (first cap : Array Value) (w : World), (Instr.makeFunc fn first cap).run Try.prog w = .ok (.func fn first cap) w := fun _ _ _ _ => rfl
  have HG := Lib.hid hG
  have HQ := Lib.hid hQ
  clear hG hQ
  go_enter_defers Try.func15, Try.ntmps15
  go_wp2_with fail
  refine HG.out.mono ?_
  rintro e W1 ⟨rfl, hq⟩
  obtain ⟨hc, hz⟩ := HQ.out _ hq
  have Hq := Lib.hid hq
  clear hq
  go_wp2_with fail
  refine leaves_cons (f := 22) (args := #[.pointer (some ⟨w.heap.size, 0, none⟩)]) (by simp) (by simp [go_sem]) ?_
  refine (catch_panicking ⟨w.heap.size, 0, none⟩ false u pv [] _ hc hz).mono ?_
  rintro e u' w'' ⟨rfl, rfl, rfl⟩
  have hs := World.cell?_setCell_same W1 ⟨w.heap.size, 0, none⟩ (.bool false) hc
  simp [Leaves, settle, results, Try.results15, go_sem, hs]
  exact ⟨W1, Hq.out, rfl⟩

theorem cell_far (w : World) {b c : Nat} (v : Value) (h : b ≠ c) : (w.setCell ⟨c, 0, none⟩ v).cell? ⟨b, 0, none⟩ = w.cell? ⟨b, 0, none⟩ :=
  World.cell?_of_block (w := w) (Below.heap_setCell w ⟨c, 0, none⟩ v b h)
theorem cell_past (w : World) (o : Obj) {b : Nat} (h : b < w.heap.size) : (w.alloc o).cell? ⟨b, 0, none⟩ = w.cell? ⟨b, 0, none⟩ :=
  World.cell?_of_block (w := w) (Below.heap_alloc w o b h)
/-- 'ok = caught(func() { out = .. })', the function returns: the text lies in 'out'. -/
theorem caught_text (G : Nat) (caps : Array Value) (W0 : World) (b : Nat) (r : ByteArray) (B : Nat) (w : World)
    (hcall : ∀ W : World, (callFunc G caps).run Try.prog W = .ok (.enter G caps) W)
    (hb : B ≤ b) (hb' : b < W0.heap.size) (hw : Below B w W0)
    (hc : (W0.cell? ⟨b, 0, none⟩).isSome = true) (hz : W0.frozen? ⟨b, 0, none⟩ = false)
    (hG : Calls Try.prog G caps (W0.alloc (.cells #[.bool false] 4)) fun e w' => e = .returned (.tuple #[]) ∧ ∃ W', Below (W0.alloc (.cells #[.bool false] 4)).heap.size (W0.alloc (.cells #[.bool false] 4)) W' ∧ w' = W'.setCell ⟨b, 0, none⟩ (.string r)) :
    Calls Try.prog 15 #[.func (.func G) #[] caps] W0 fun e w' => e = .returned (.bool true) ∧ w'.cell? ⟨b, 0, none⟩ = some (.string r) ∧ w'.frozen? ⟨b, 0, none⟩ = false ∧ Below B w w' := by
  obtain ⟨W2, hW2⟩ : ∃ W2, W2 = W0.alloc (.cells #[.bool false] 4) := ⟨_, rfl⟩
  have s2 : W2.heap.size = W0.heap.size + 1 := by rw [hW2]; simp
  have k2 : W2.cell? ⟨W0.heap.size, 0, none⟩ = some (.bool false) := by rw [hW2]; simp
  have z2 : W2.frozen? ⟨W0.heap.size, 0, none⟩ = false := by rw [hW2]; simp [go_sem]
  have b2 : Below B w W2 := by rw [hW2]; exact hw.alloc (by omega) _
  have kb : (W2.cell? ⟨b, 0, none⟩).isSome = true := by rw [hW2, cell_past _ _ hb']; exact hc
  have zb : W2.frozen? ⟨b, 0, none⟩ = false := by
    rw [hW2, World.frozen?_of_block (w := W0) (Below.heap_alloc W0 _ b hb')]; exact hz
  refine (caught_yes G caps W0 (fun w' => ∃ W', Below W2.heap.size W2 W' ∧ w' = W'.setCell ⟨b, 0, none⟩ (.string r)) hcall ?_ (by rw [hW2]; exact hG)).mono ?_
  · rintro W ⟨W', hB, rfl⟩
    have ne : W0.heap.size ≠ b := by omega
    constructor
    · rw [cell_far _ _ ne, hB.cell (by simp [s2]), k2]
    · rw [World.frozen?_setCell, hB.frozen (by simp [s2]), z2]
  · rintro e w' ⟨rfl, W1, ⟨W', hB, rfl⟩, rfl⟩
    have ne : b ≠ W0.heap.size := by omega
    refine ⟨rfl, ?_, ?_, ?_⟩
    · rw [cell_far _ _ ne]
      exact World.cell?_setCell_same' _ _ _ (by rw [hB.cell (by simp [s2]; omega)]; exact kb)
    · rw [World.frozen?_setCell, World.frozen?_setCell, hB.frozen (by simp [s2]; omega), zb]
    · exact ((b2.trans (hB.mono (by omega))).setCell hb _).setCell (by simp; omega) _
/-- The same where it panics. -/
theorem caught_text_no (G : Nat) (caps : Array Value) (W0 : World) (b : Nat) (x : ByteArray) (B : Nat) (w : World) (u : TypeId)
    (hcall : ∀ W : World, (callFunc G caps).run Try.prog W = .ok (.enter G caps) W)
    (hb : B ≤ b) (hb' : b < W0.heap.size) (hw : Below B w W0)
    (hc : W0.cell? ⟨b, 0, none⟩ = some (.string x)) (hz : W0.frozen? ⟨b, 0, none⟩ = false)
    (hG : ∃ pv, Calls Try.prog G caps (W0.alloc (.cells #[.bool false] 4)) fun e w' => e = .panicked [{ v := .iface u pv, recovered := false }] ∧ Below (W0.alloc (.cells #[.bool false] 4)).heap.size (W0.alloc (.cells #[.bool false] 4)) w') :
    Calls Try.prog 15 #[.func (.func G) #[] caps] W0 fun e w' => e = .returned (.bool false) ∧ w'.cell? ⟨b, 0, none⟩ = some (.string x) ∧ w'.frozen? ⟨b, 0, none⟩ = false ∧ Below B w w' := by
  obtain ⟨pv, hG⟩ := hG
  obtain ⟨W2, hW2⟩ : ∃ W2, W2 = W0.alloc (.cells #[.bool false] 4) := ⟨_, rfl⟩
  have s2 : W2.heap.size = W0.heap.size + 1 := by rw [hW2]; simp
  have k2 : W2.cell? ⟨W0.heap.size, 0, none⟩ = some (.bool false) := by rw [hW2]; simp
  have z2 : W2.frozen? ⟨W0.heap.size, 0, none⟩ = false := by rw [hW2]; simp [go_sem]
  have b2 : Below B w W2 := by rw [hW2]; exact hw.alloc (by omega) _
  have kb : W2.cell? ⟨b, 0, none⟩ = some (.string x) := by rw [hW2, cell_past _ _ hb']; exact hc
  have zb : W2.frozen? ⟨b, 0, none⟩ = false := by
    rw [hW2, World.frozen?_of_block (w := W0) (Below.heap_alloc W0 _ b hb')]; exact hz
  refine (caught_no G caps W0 u pv (fun w' => Below W2.heap.size W2 w') hcall ?_ (by rw [hW2]; exact hG)).mono ?_
  · intro W hB
    exact ⟨by rw [hB.cell (by simp [s2]), k2], by rw [hB.frozen (by simp [s2]), z2]⟩
  · rintro e w' ⟨rfl, W1, hB, rfl⟩
    have ne : b ≠ W0.heap.size := by omega
    refine ⟨rfl, ?_, ?_, ?_⟩
    · rw [cell_far _ _ ne, hB.cell (by simp [s2]; omega)]; exact kb
    · rw [World.frozen?_setCell, hB.frozen (by simp [s2]; omega), zb]
    · exact (b2.trans (hB.mono (by omega))).setCell (by simp; omega) _

end Go.Proofs.Ytaclgcpfcejplaa.Giv
