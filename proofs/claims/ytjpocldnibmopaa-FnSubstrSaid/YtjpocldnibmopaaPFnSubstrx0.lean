-- Written by gprint.py (a program of this session, over the kit's print) out of Lean's own print of the program.
import Derived.Test.YtjpocldnibmopaaProg
import Derived.Below
import Derived.Deep.Draws
import Derived.Deep.AppendLies
import Derived.Maps.AppendAt
import Derived.OwnWalk
import Derived.Laws.BytesArg
import Derived.Laws.MakeOwn
import Derived.Laws.OwnMore
import Derived.Deep.OwnRows
import Derived.Tactics
import Derived.Lib.ConvBytes
import Derived.Laws.Slices
import Derived.WalkKit
import Derived.KernelRfl
import Derived.RowKit3
import Derived.Deep.LoopGhost
import Derived.Deep.QuietTactic
import Derived.BigQuiet
import Derived.WideLaws
import Derived.Deep.DeepCutAuto
import Derived.Deep.CutBlock
import Derived.Deep.RegionHeld3
import Derived.Laws.Rows
import Derived.Lib.AppendStr
import Derived.ArgAppend
import Derived.Laws.IdiomCopy
import Derived.OrdersHeld
import Derived.Laws.BitsLemmas
import Derived.RowKit
import Derived.Test.YtjpocldnibmopaaTxt
import Derived.Test.YtjpocldnibmopaaSubstr
import Derived.Test.YtjpocldnibmopaaWWords
import Derived.Test.YtjpocldnibmopaaWLast
import Derived.Test.YtjpocldnibmopaaWTab
import Derived.Test.YtjpocldnibmopaaWFour
import Derived.Test.YtjpocldnibmopaaWQPut
import Derived.Test.YtjpocldnibmopaaWApart
import Derived.Test.YtjpocldnibmopaaWArr
import Derived.Test.YtjpocldnibmopaaWZeros
import Derived.Test.YtjpocldnibmopaaWFoot
import Derived.Test.YtjpocldnibmopaaWKept
import Derived.Test.YtjpocldnibmopaaWShare
import Derived.Test.YtjpocldnibmopaaWN
import Derived.Test.YtjpocldnibmopaaWFootNe
import Derived.Test.YtjpocldnibmopaaWAt
import Derived.Test.YtjpocldnibmopaaWEqStruct
import Derived.Test.YtjpocldnibmopaaWRepsOne
import Derived.Test.YtjpocldnibmopaaWInv
import Derived.Test.YtjpocldnibmopaaWInvWords
import Derived.Test.YtjpocldnibmopaaWGuard
import Derived.Test.YtjpocldnibmopaaWNEv
import Derived.Test.YtjpocldnibmopaaWMore
namespace Go.Proofs.Ytjpocldnibmopaa.PFnSubstr
open Go.Proofs.Ytjpocldnibmopaa.Giv
open Go.RowKit Go.Proofs.YtjpocldnibmopaaW.PrintWords Go.Proofs.YtjpocldnibmopaaW.PrintLast Go.Proofs.YtjpocldnibmopaaW.PrintMore
attribute [local go_sem] max2_int min2_int max_two min_two max_three min_three max_four min_four   -- for this text's walks alone
set_option linter.unusedVariables false
set_option linter.unusedSimpArgs false



def errW : Option Int → Value
  | none => .nilIface
  | some c => .iface 0 (.int .i64 c)
theorem errW_none : errW none = .nilIface := rfl
theorem errW_some (c : Int) : errW (some c) = .iface 0 (.int .i64 c) := rfl

-- the values' own types

end Go.Proofs.Ytjpocldnibmopaa.PFnSubstr
