/- Walks of spec.Right and spec.AllRight: what they answer of values that aren't right is left open. -/
import Derived.Test.YtaclgcpfcejplaaDoorValW3
namespace Go.Proofs.YtaclgcpfcejplaaDoor.Vals
open Go.RowKit Go.Proofs.YtaclgcpfcejplaaDoorW.PrintWords
set_option linter.unusedVariables false
set_option maxRecDepth 20000

end Go.Proofs.YtaclgcpfcejplaaDoor.Vals
