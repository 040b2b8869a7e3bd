/- Walk of given.example/pub-budwood/spec.Kept: a dictionary without some keys. -/
import Derived.Test.YtaclgcpfcejplaaValTk
import Derived.Deep.RegionHeld3
import Derived.Test.YtaclgcpfcejplaaSplit
import Derived.Deep.CutBlock
namespace Go.Proofs.Ytaclgcpfcejplaa.Vals
open Go.Proofs.Ytaclgcpfcejplaa.Split Go.RowKit Go.ChangeMaps Go.Proofs.YtaclgcpfcejplaaW.PrintWords Go.Proofs.Ytaclgcpfcejplaa.Txt
set_option linter.unusedVariables false
set_option maxRecDepth 20000
/-- It is among these. -/
def amongB (s : ByteArray) (ms : List ByteArray) : Bool := ms.any fun x => decide (x = s)
theorem amongB_iff {s : ByteArray} {ms : List ByteArray} : amongB s ms = true ↔ s ∈ ms := by unfold amongB; simp
end Go.Proofs.Ytaclgcpfcejplaa.Vals

