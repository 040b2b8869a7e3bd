-- Written by gprint.py (a program of this session, over the kit's print) out of Lean's own print of the program.
import Derived.Test.YtjpocldnibmopaaDoorProg
import Derived.Below
import Derived.Deep.Draws
import Derived.Deep.AppendLies
import Derived.Maps.AppendAt
import Derived.OwnWalk
import Derived.Laws.BytesArg
import Derived.Laws.MakeOwn
import Derived.Laws.OwnMore
import Derived.Deep.OwnRows
import Derived.Tactics
import Derived.Lib.ConvBytes
import Derived.Laws.Slices
import Derived.WalkKit
import Derived.KernelRfl
import Derived.RowKit3
import Derived.Deep.LoopGhost
import Derived.Deep.QuietTactic
import Derived.BigQuiet
import Derived.WideLaws
import Derived.Deep.DeepCutAuto
import Derived.Deep.CutBlock
import Derived.Deep.RegionHeld3
import Derived.Laws.Rows
import Derived.Lib.AppendStr
import Derived.ArgAppend
import Derived.Laws.IdiomCopy
import Derived.OrdersHeld
import Derived.Laws.BitsLemmas
import Derived.RowKit
import Derived.Test.YtjpocldnibmopaaDoorTxt
import Derived.Test.YtjpocldnibmopaaDoorUtf
import Derived.Test.YtjpocldnibmopaaDoorTrimAll
import Derived.Test.YtjpocldnibmopaaDoorWWords
import Derived.Test.YtjpocldnibmopaaDoorWLast
import Derived.Test.YtjpocldnibmopaaDoorWTab
import Derived.Test.YtjpocldnibmopaaDoorWFour
import Derived.Test.YtjpocldnibmopaaDoorWQPut
import Derived.Test.YtjpocldnibmopaaDoorWApart
import Derived.Test.YtjpocldnibmopaaDoorWArr
import Derived.Test.YtjpocldnibmopaaDoorWZeros
import Derived.Test.YtjpocldnibmopaaDoorWFoot
import Derived.Test.YtjpocldnibmopaaDoorWKept
import Derived.Test.YtjpocldnibmopaaDoorWShare
import Derived.Test.YtjpocldnibmopaaDoorWN
import Derived.Test.YtjpocldnibmopaaDoorWFootNe
import Derived.Test.YtjpocldnibmopaaDoorWAt
import Derived.Test.YtjpocldnibmopaaDoorWEqStruct
import Derived.Test.YtjpocldnibmopaaDoorWRepsOne
import Derived.Test.YtjpocldnibmopaaDoorWInv
import Derived.Test.YtjpocldnibmopaaDoorWInvWords
import Derived.Test.YtjpocldnibmopaaDoorWGuard
import Derived.Test.YtjpocldnibmopaaDoorWNEv
import Derived.Test.YtjpocldnibmopaaDoorWMore
namespace Go.Proofs.YtjpocldnibmopaaDoor.PFnTrimAll
open Go.Proofs.YtjpocldnibmopaaDoor.Giv
open Go.RowKit Go.Proofs.YtjpocldnibmopaaDoorW.PrintWords Go.Proofs.YtjpocldnibmopaaDoorW.PrintLast Go.Proofs.YtjpocldnibmopaaDoorW.PrintMore
attribute [local go_sem] max2_int min2_int max_two min_two max_three min_three max_four min_four   -- for this text's walks alone
set_option linter.unusedVariables false
set_option linter.unusedSimpArgs false



def errW : Option Int → Value
  | none => .nilIface
  | some c => .iface 0 (.int .i64 c)
theorem errW_none : errW none = .nilIface := rfl
theorem errW_some (c : Int) : errW (some c) = .iface 0 (.int .i64 c) := rfl

theorem info9 : (Tryd.prog.info? 9).map (fun i => (i.zero, i.size, i.bytes)) = some (some (.string ⟨#[]⟩), 1, 16) := by kernel_rfl
-- the values' own types

end Go.Proofs.YtjpocldnibmopaaDoor.PFnTrimAll
