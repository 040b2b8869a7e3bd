/- Walks of spec.Right and spec.AllRight: what they answer of values that aren't right is left open. -/
import Derived.Test.YtaclgcpfcejplaaGreatDoorValW3
namespace Go.Proofs.YtaclgcpfcejplaaGreatDoor.Vals
open Go.RowKit Go.Proofs.YtaclgcpfcejplaaGreatDoorW.PrintWords
set_option linter.unusedVariables false
set_option maxRecDepth 20000

end Go.Proofs.YtaclgcpfcejplaaGreatDoor.Vals
