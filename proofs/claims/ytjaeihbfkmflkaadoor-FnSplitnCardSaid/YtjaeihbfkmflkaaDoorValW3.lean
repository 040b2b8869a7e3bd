/- Walk of spec.right: what it answers. -/
import Derived.Test.YtjaeihbfkmflkaaDoorVA
import Derived.Deep.DeepCutAuto
import Derived.Deep.CutBlock
import Derived.IntWalk
namespace Go.Proofs.YtjaeihbfkmflkaaDoor.Vals
open Go.RowKit Go.Proofs.YtjaeihbfkmflkaaDoorW.PrintWords
set_option linter.unusedVariables false
set_option maxRecDepth 20000

end Go.Proofs.YtjaeihbfkmflkaaDoor.Vals
