/- Which values are empty: spec.Empty on data, sprig.empty on Go values. -/
import Derived.Test.YtaclgcpfcejplaaGreatDoorValN
import Derived.Maps.OwnSet
namespace Go.Proofs.YtaclgcpfcejplaaGreatDoor.Vals
open Go.RowKit Go.Proofs.YtaclgcpfcejplaaGreatDoorW.PrintWords
set_option linter.unusedVariables false
set_option maxRecDepth 20000

theorem wpList_len_at {P : Program} (w : World) {ops : Array Oper} {rest : List Oper} {o : Oper} {a : Act} {Q : Exit → Act → World → Prop} (hg : o.guard = none) (m : Operand) (t : TypeId) (hop : o.op = Op.call { callee := Callee.builtin Builtin.len, args := #[m], argTypes := #[t] })
    (k e : TypeId) (ht : P.underlying t = some (.map k e)) (b : Nat) (es : Array MapEntry) (clk : Nat) (hm : a.eval m = .map (some b)) (hb : w.heap[b]? = some (.map es clk))
    (hK : wpList P ops Q rest (a.put o.dst (.int .i64 (es.size : Int))) w) : wpList P ops Q (o :: rest) a w := by
  refine wpList_plain hg fun K' hK' => ?_
  have hrun : (Builtin.len_ #[t] o.type #[.map (some b)]).run P w = .ok (.int .i64 (es.size : Int)) w := by
    simp [Builtin.len_, run_underlying ht, MapKept.run_getObj_map hb, goInt, Result.andThen]
  unfold Oper.wp
  simp [execOp, hop, resolve, invoke, builtin, hm, hrun, Result.andThen]
  exact hK' _ _ hK

def emptyB (v : V) : Bool := if v.k = 4 then feq v.r 0 else if v.k = 5 then decide (v.t = ⟨#[]⟩) else if v.k = 6 ∨ v.k = 7 then decide (v.l.length = 0) else decide (v.n = 0)

end Go.Proofs.YtaclgcpfcejplaaGreatDoor.Vals
