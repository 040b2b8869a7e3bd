/- Walk of spec.AllRight. -/
import Derived.Test.YtaclgcpfcejplaaValR
namespace Go.Proofs.Ytaclgcpfcejplaa.Vals
open Go.RowKit Go.Proofs.YtaclgcpfcejplaaW.PrintWords
set_option linter.unusedVariables false
set_option maxRecDepth 20000

end Go.Proofs.Ytaclgcpfcejplaa.Vals
