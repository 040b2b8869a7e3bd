/- Which values are empty: spec.Empty on data, sprig.empty on Go values. -/
import Derived.Test.YtlkfdjnkkooofaaValN
import Derived.Maps.OwnSet
namespace Go.Proofs.Ytlkfdjnkkooofaa.Vals
open Go.RowKit Go.Proofs.YtlkfdjnkkooofaaW.PrintWords
set_option linter.unusedVariables false
set_option maxRecDepth 20000

theorem wpList_len_at {P : Program} (w : World) {ops : Array Oper} {rest : List Oper} {o : Oper} {a : Act} {Q : Exit → Act → World → Prop} (hg : o.guard = none) (m : Operand) (t : TypeId) (hop : o.op = Op.call { callee := Callee.builtin Builtin.len, args := #[m], argTypes := #[t] })
    (k e : TypeId) (ht : P.underlying t = some (.map k e)) (b : Nat) (es : Array MapEntry) (clk : Nat) (hm : a.eval m = .map (some b)) (hb : w.heap[b]? = some (.map es clk))
    (hK : wpList P ops Q rest (a.put o.dst (.int .i64 (es.size : Int))) w) : wpList P ops Q (o :: rest) a w := by
  refine wpList_plain hg fun K' hK' => ?_
  have hrun : (Builtin.len_ #[t] o.type #[.map (some b)]).run P w = .ok (.int .i64 (es.size : Int)) w := by
    simp [Builtin.len_, run_underlying ht, MapKept.run_getObj_map hb, goInt, Result.andThen]
  unfold Oper.wp
  simp [execOp, hop, resolve, invoke, builtin, hm, hrun, Result.andThen]
  exact hK' _ _ hK

def emptyB (v : V) : Bool := if v.k = 4 then feq v.r 0 else if v.k = 5 then decide (v.t = ⟨#[]⟩) else if v.k = 6 ∨ v.k = 7 then decide (v.l.length = 0) else decide (v.n = 0)

theorem goEmpty_walk (v : V) (d : Int) (hr : Right v d) (x : Value) (P : Nat → Prop) (w : World) (h : GoV w P v x) : Calls Try.prog 99 #[x] w fun e w' => e = .returned (.bool (emptyB v)) ∧ w' = w := by
  obtain ⟨k, n, r, t, ks, l⟩ := v
  obtain ⟨hb1, hb2, hb3⟩ := hr.bare
  clear hr
  have HB := Lib.hid (And.intro hb1 (And.intro hb2 hb3))
  clear hb1 hb2 hb3
  unfold GoV at h
  unfold emptyB
  simp only [V.k, V.n, V.r, V.t, V.l]
  rcases h with ⟨rfl, rfl⟩ | ⟨rfl, rfl⟩ | ⟨rfl, rfl⟩ | ⟨rfl, rfl⟩ | ⟨rfl, rfl⟩ | ⟨rfl, rfl⟩ | ⟨rfl, a, c, xs, rfl, hrow, hgo⟩ | ⟨rfl, b, es, clk, xs, rfl, hm1, hm2, hm3, hm4, hm5, hm6, hm7, hm8⟩
  · skip
    go_enter Try.func99, Try.ntmps99
    go_wp2_with fail
    go_ret
    refine ⟨?_, rfl⟩
    show Ending.returned (.bool _) = _
    have h := HB.out.1; simp at h; simp [h]
  · obtain ⟨bn, hbn⟩ : ∃ bn, bn = (n == 1) := ⟨_, rfl⟩
    rw [← hbn]
    have HBN := Lib.hid hbn
    clear hbn
    have ta0 : ∀ w, (Instr.typeAssert (.iface 4 (.bool bn)) 20 64 true).run Try.prog w = .ok (.tuple #[.slice none 0 0, .bool false]) w := fun w => by kernel_rfl
    have ta1 : ∀ w, (Instr.typeAssert (.iface 4 (.bool bn)) 20 23 true).run Try.prog w = .ok (.tuple #[.slice none 0 0, .bool false]) w := fun w => by kernel_rfl
    have ta2 : ∀ w, (Instr.typeAssert (.iface 4 (.bool bn)) 20 71 true).run Try.prog w = .ok (.tuple #[.map none, .bool false]) w := fun w => by kernel_rfl
    have ta3 : ∀ w, (Instr.typeAssert (.iface 4 (.bool bn)) 20 9 true).run Try.prog w = .ok (.tuple #[.string ⟨#[]⟩, .bool false]) w := fun w => by kernel_rfl
    have ta4 : ∀ w, (Instr.typeAssert (.iface 4 (.bool bn)) 20 4 true).run Try.prog w = .ok (.tuple #[.bool bn, .bool true]) w := fun w => by kernel_rfl
    have ta5 : ∀ w, (Instr.typeAssert (.iface 4 (.bool bn)) 20 3 true).run Try.prog w = .ok (.tuple #[.int .i64 0, .bool false]) w := fun w => by kernel_rfl
    have ta6 : ∀ w, (Instr.typeAssert (.iface 4 (.bool bn)) 20 2 true).run Try.prog w = .ok (.tuple #[.int .i64 0, .bool false]) w := fun w => by kernel_rfl
    have ta7 : ∀ w, (Instr.typeAssert (.iface 4 (.bool bn)) 20 22 true).run Try.prog w = .ok (.tuple #[.float .f64 0, .bool false]) w := fun w => by kernel_rfl
    have hne : ∀ w, (binOp .eql 20 (.iface 4 (.bool bn)) .nilIface).run Try.prog w = .ok (.bool false) w := fun w => by kernel_rfl
    go_enter Try.func99, Try.ntmps99
    go_wp2_with fail
    go_ret
    refine ⟨?_, rfl⟩
    show Ending.returned (.bool _) = _
    have h := HB.out.1; have hh := HBN.out; subst hh; have h01 : n = 0 ∨ n = 1 := (by simp only [if_true] at h; split at h <;> omega); rcases h01 with h0 | h0 <;> simp [h0]
  · skip
    have ta0 : ∀ w, (Instr.typeAssert (.iface 3 (.int .i64 n)) 20 64 true).run Try.prog w = .ok (.tuple #[.slice none 0 0, .bool false]) w := fun w => by kernel_rfl
    have ta1 : ∀ w, (Instr.typeAssert (.iface 3 (.int .i64 n)) 20 23 true).run Try.prog w = .ok (.tuple #[.slice none 0 0, .bool false]) w := fun w => by kernel_rfl
    have ta2 : ∀ w, (Instr.typeAssert (.iface 3 (.int .i64 n)) 20 71 true).run Try.prog w = .ok (.tuple #[.map none, .bool false]) w := fun w => by kernel_rfl
    have ta3 : ∀ w, (Instr.typeAssert (.iface 3 (.int .i64 n)) 20 9 true).run Try.prog w = .ok (.tuple #[.string ⟨#[]⟩, .bool false]) w := fun w => by kernel_rfl
    have ta4 : ∀ w, (Instr.typeAssert (.iface 3 (.int .i64 n)) 20 4 true).run Try.prog w = .ok (.tuple #[.bool false, .bool false]) w := fun w => by kernel_rfl
    have ta5 : ∀ w, (Instr.typeAssert (.iface 3 (.int .i64 n)) 20 3 true).run Try.prog w = .ok (.tuple #[.int .i64 n, .bool true]) w := fun w => by kernel_rfl
    have ta6 : ∀ w, (Instr.typeAssert (.iface 3 (.int .i64 n)) 20 2 true).run Try.prog w = .ok (.tuple #[.int .i64 0, .bool false]) w := fun w => by kernel_rfl
    have ta7 : ∀ w, (Instr.typeAssert (.iface 3 (.int .i64 n)) 20 22 true).run Try.prog w = .ok (.tuple #[.float .f64 0, .bool false]) w := fun w => by kernel_rfl
    have hne : ∀ w, (binOp .eql 20 (.iface 3 (.int .i64 n)) .nilIface).run Try.prog w = .ok (.bool false) w := fun w => by kernel_rfl
    go_enter Try.func99, Try.ntmps99
    go_wp2_with fail
    go_ret
    refine ⟨?_, rfl⟩
    show Ending.returned (.bool _) = _
    simp; rfl
  · skip
    have ta0 : ∀ w, (Instr.typeAssert (.iface 2 (.int .i64 n)) 20 64 true).run Try.prog w = .ok (.tuple #[.slice none 0 0, .bool false]) w := fun w => by kernel_rfl
    have ta1 : ∀ w, (Instr.typeAssert (.iface 2 (.int .i64 n)) 20 23 true).run Try.prog w = .ok (.tuple #[.slice none 0 0, .bool false]) w := fun w => by kernel_rfl
    have ta2 : ∀ w, (Instr.typeAssert (.iface 2 (.int .i64 n)) 20 71 true).run Try.prog w = .ok (.tuple #[.map none, .bool false]) w := fun w => by kernel_rfl
    have ta3 : ∀ w, (Instr.typeAssert (.iface 2 (.int .i64 n)) 20 9 true).run Try.prog w = .ok (.tuple #[.string ⟨#[]⟩, .bool false]) w := fun w => by kernel_rfl
    have ta4 : ∀ w, (Instr.typeAssert (.iface 2 (.int .i64 n)) 20 4 true).run Try.prog w = .ok (.tuple #[.bool false, .bool false]) w := fun w => by kernel_rfl
    have ta5 : ∀ w, (Instr.typeAssert (.iface 2 (.int .i64 n)) 20 3 true).run Try.prog w = .ok (.tuple #[.int .i64 0, .bool false]) w := fun w => by kernel_rfl
    have ta6 : ∀ w, (Instr.typeAssert (.iface 2 (.int .i64 n)) 20 2 true).run Try.prog w = .ok (.tuple #[.int .i64 n, .bool true]) w := fun w => by kernel_rfl
    have ta7 : ∀ w, (Instr.typeAssert (.iface 2 (.int .i64 n)) 20 22 true).run Try.prog w = .ok (.tuple #[.float .f64 0, .bool false]) w := fun w => by kernel_rfl
    have hne : ∀ w, (binOp .eql 20 (.iface 2 (.int .i64 n)) .nilIface).run Try.prog w = .ok (.bool false) w := fun w => by kernel_rfl
    go_enter Try.func99, Try.ntmps99
    go_wp2_with fail
    go_ret
    refine ⟨?_, rfl⟩
    show Ending.returned (.bool _) = _
    simp; rfl
  · skip
    have ta0 : ∀ w, (Instr.typeAssert (.iface 22 (.float .f64 r)) 20 64 true).run Try.prog w = .ok (.tuple #[.slice none 0 0, .bool false]) w := fun w => by kernel_rfl
    have ta1 : ∀ w, (Instr.typeAssert (.iface 22 (.float .f64 r)) 20 23 true).run Try.prog w = .ok (.tuple #[.slice none 0 0, .bool false]) w := fun w => by kernel_rfl
    have ta2 : ∀ w, (Instr.typeAssert (.iface 22 (.float .f64 r)) 20 71 true).run Try.prog w = .ok (.tuple #[.map none, .bool false]) w := fun w => by kernel_rfl
    have ta3 : ∀ w, (Instr.typeAssert (.iface 22 (.float .f64 r)) 20 9 true).run Try.prog w = .ok (.tuple #[.string ⟨#[]⟩, .bool false]) w := fun w => by kernel_rfl
    have ta4 : ∀ w, (Instr.typeAssert (.iface 22 (.float .f64 r)) 20 4 true).run Try.prog w = .ok (.tuple #[.bool false, .bool false]) w := fun w => by kernel_rfl
    have ta5 : ∀ w, (Instr.typeAssert (.iface 22 (.float .f64 r)) 20 3 true).run Try.prog w = .ok (.tuple #[.int .i64 0, .bool false]) w := fun w => by kernel_rfl
    have ta6 : ∀ w, (Instr.typeAssert (.iface 22 (.float .f64 r)) 20 2 true).run Try.prog w = .ok (.tuple #[.int .i64 0, .bool false]) w := fun w => by kernel_rfl
    have ta7 : ∀ w, (Instr.typeAssert (.iface 22 (.float .f64 r)) 20 22 true).run Try.prog w = .ok (.tuple #[.float .f64 r, .bool true]) w := fun w => by kernel_rfl
    have hne : ∀ w, (binOp .eql 20 (.iface 22 (.float .f64 r)) .nilIface).run Try.prog w = .ok (.bool false) w := fun w => by kernel_rfl
    go_enter Try.func99, Try.ntmps99
    go_wp2_with fail
    go_ret
    refine ⟨?_, rfl⟩
    show Ending.returned (.bool _) = _
    simp [feq]
  · skip
    have ta0 : ∀ w, (Instr.typeAssert (.iface 9 (.string t)) 20 64 true).run Try.prog w = .ok (.tuple #[.slice none 0 0, .bool false]) w := fun w => by kernel_rfl
    have ta1 : ∀ w, (Instr.typeAssert (.iface 9 (.string t)) 20 23 true).run Try.prog w = .ok (.tuple #[.slice none 0 0, .bool false]) w := fun w => by kernel_rfl
    have ta2 : ∀ w, (Instr.typeAssert (.iface 9 (.string t)) 20 71 true).run Try.prog w = .ok (.tuple #[.map none, .bool false]) w := fun w => by kernel_rfl
    have ta3 : ∀ w, (Instr.typeAssert (.iface 9 (.string t)) 20 9 true).run Try.prog w = .ok (.tuple #[.string t, .bool true]) w := fun w => by kernel_rfl
    have ta4 : ∀ w, (Instr.typeAssert (.iface 9 (.string t)) 20 4 true).run Try.prog w = .ok (.tuple #[.bool false, .bool false]) w := fun w => by kernel_rfl
    have ta5 : ∀ w, (Instr.typeAssert (.iface 9 (.string t)) 20 3 true).run Try.prog w = .ok (.tuple #[.int .i64 0, .bool false]) w := fun w => by kernel_rfl
    have ta6 : ∀ w, (Instr.typeAssert (.iface 9 (.string t)) 20 2 true).run Try.prog w = .ok (.tuple #[.int .i64 0, .bool false]) w := fun w => by kernel_rfl
    have ta7 : ∀ w, (Instr.typeAssert (.iface 9 (.string t)) 20 22 true).run Try.prog w = .ok (.tuple #[.float .f64 0, .bool false]) w := fun w => by kernel_rfl
    have hne : ∀ w, (binOp .eql 20 (.iface 9 (.string t)) .nilIface).run Try.prog w = .ok (.bool false) w := fun w => by kernel_rfl
    go_enter Try.func99, Try.ntmps99
    go_wp2_with fail
    go_ret
    refine ⟨?_, rfl⟩
    show Ending.returned (.bool _) = _
    simp only [Ending.returned.injEq, Value.bool.injEq]; rw [Bool.eq_iff_iff]; simp; exact decide_eq_true_iff.symm
  · skip
    have ta0 : ∀ w, (Instr.typeAssert (.iface 64 (.slice (some a) l.length c)) 20 64 true).run Try.prog w = .ok (.tuple #[.slice (some a) l.length c, .bool true]) w := fun w => by kernel_rfl
    have ta1 : ∀ w, (Instr.typeAssert (.iface 64 (.slice (some a) l.length c)) 20 23 true).run Try.prog w = .ok (.tuple #[.slice none 0 0, .bool false]) w := fun w => by kernel_rfl
    have ta2 : ∀ w, (Instr.typeAssert (.iface 64 (.slice (some a) l.length c)) 20 71 true).run Try.prog w = .ok (.tuple #[.map none, .bool false]) w := fun w => by kernel_rfl
    have ta3 : ∀ w, (Instr.typeAssert (.iface 64 (.slice (some a) l.length c)) 20 9 true).run Try.prog w = .ok (.tuple #[.string ⟨#[]⟩, .bool false]) w := fun w => by kernel_rfl
    have ta4 : ∀ w, (Instr.typeAssert (.iface 64 (.slice (some a) l.length c)) 20 4 true).run Try.prog w = .ok (.tuple #[.bool false, .bool false]) w := fun w => by kernel_rfl
    have ta5 : ∀ w, (Instr.typeAssert (.iface 64 (.slice (some a) l.length c)) 20 3 true).run Try.prog w = .ok (.tuple #[.int .i64 0, .bool false]) w := fun w => by kernel_rfl
    have ta6 : ∀ w, (Instr.typeAssert (.iface 64 (.slice (some a) l.length c)) 20 2 true).run Try.prog w = .ok (.tuple #[.int .i64 0, .bool false]) w := fun w => by kernel_rfl
    have ta7 : ∀ w, (Instr.typeAssert (.iface 64 (.slice (some a) l.length c)) 20 22 true).run Try.prog w = .ok (.tuple #[.float .f64 0, .bool false]) w := fun w => by kernel_rfl
    have hne : ∀ w, (binOp .eql 20 (.iface 64 (.slice (some a) l.length c)) .nilIface).run Try.prog w = .ok (.bool false) w := fun w => by kernel_rfl
    go_enter Try.func99, Try.ntmps99
    go_wp2_with fail
    go_ret
    refine ⟨?_, rfl⟩
    show Ending.returned (.bool _) = _
    cases l <;> simp <;> omega
  · skip
    have ta0 : ∀ w, (Instr.typeAssert (.iface 71 (.map (some b))) 20 64 true).run Try.prog w = .ok (.tuple #[.slice none 0 0, .bool false]) w := fun w => by kernel_rfl
    have ta1 : ∀ w, (Instr.typeAssert (.iface 71 (.map (some b))) 20 23 true).run Try.prog w = .ok (.tuple #[.slice none 0 0, .bool false]) w := fun w => by kernel_rfl
    have ta2 : ∀ w, (Instr.typeAssert (.iface 71 (.map (some b))) 20 71 true).run Try.prog w = .ok (.tuple #[.map (some b), .bool true]) w := fun w => by kernel_rfl
    have ta3 : ∀ w, (Instr.typeAssert (.iface 71 (.map (some b))) 20 9 true).run Try.prog w = .ok (.tuple #[.string ⟨#[]⟩, .bool false]) w := fun w => by kernel_rfl
    have ta4 : ∀ w, (Instr.typeAssert (.iface 71 (.map (some b))) 20 4 true).run Try.prog w = .ok (.tuple #[.bool false, .bool false]) w := fun w => by kernel_rfl
    have ta5 : ∀ w, (Instr.typeAssert (.iface 71 (.map (some b))) 20 3 true).run Try.prog w = .ok (.tuple #[.int .i64 0, .bool false]) w := fun w => by kernel_rfl
    have ta6 : ∀ w, (Instr.typeAssert (.iface 71 (.map (some b))) 20 2 true).run Try.prog w = .ok (.tuple #[.int .i64 0, .bool false]) w := fun w => by kernel_rfl
    have ta7 : ∀ w, (Instr.typeAssert (.iface 71 (.map (some b))) 20 22 true).run Try.prog w = .ok (.tuple #[.float .f64 0, .bool false]) w := fun w => by kernel_rfl
    have hne : ∀ w, (binOp .eql 20 (.iface 71 (.map (some b))) .nilIface).run Try.prog w = .ok (.bool false) w := fun w => by kernel_rfl
    go_enter Try.func99, Try.ntmps99
    go_wp2_with (at_len; refine wpList_len_at _ rfl _ _ rfl _ _ Try.underlying71 b es clk rfl hm2 ?_)
    go_ret
    refine ⟨?_, rfl⟩
    show Ending.returned (.bool _) = _
    have hl1 := hm7.length_eq; rw [List.length_map, List.length_zip, List.length_map, hm8.len, hm6, Nat.min_self, Array.length_toList] at hl1; rw [hl1]; cases l <;> simp <;> omega

theorem specEmpty_walk (v : V) (hk : 0 ≤ v.k ∧ v.k ≤ 7) (kv : Value) (A : Option Addr) (c : Nat) (w : World) :
    Calls Try.prog 33 #[.agg #[.int .i64 v.k, .int .i64 v.n, .float .f64 v.r, .string v.t, kv, .slice A v.l.length c]] w fun e w' => e = .returned (.bool (emptyB v)) ∧ Below w.heap.size w w' := by
  obtain ⟨k, n, r, t, ks, l⟩ := v
  unfold emptyB
  simp only [V.k, V.n, V.r, V.t, V.l] at hk ⊢
  have HW : Hid (∀ o, Below w.heap.size w (w.alloc o)) := Lib.hid fun o => (Below.refl _ _).alloc (Nat.le_refl _) o
  have hkk : k = 0 ∨ k = 1 ∨ k = 2 ∨ k = 3 ∨ k = 4 ∨ k = 5 ∨ k = 6 ∨ k = 7 := by omega
  clear hk
  rcases hkk with rfl | rfl | rfl | rfl | rfl | rfl | rfl | rfl
  all_goals (
    go_enter Try.func33, Try.ntmps33
    go_wp2_with fail
    go_ret
    refine ⟨?_, HW.out _⟩
    show Ending.returned (.bool _) = _
    simp only [Ending.returned.injEq, Value.bool.injEq])
  iterate 4 rfl
  · rfl
  · rw [Bool.eq_iff_iff, List.isEmpty_iff]
    refine Iff.trans ?_ decide_eq_true_iff.symm
    exact ⟨fun h => Txt.ext_eq (h.trans Txt.tl_nil.symm), fun h => by rw [h]; exact Txt.tl_nil⟩
  all_goals (cases l <;> simp <;> omega)
end Go.Proofs.Ytlkfdjnkkooofaa.Vals
