-- Written by gprint.py (a program of this session, over the kit's print) out of Lean's own print of the program.
import Derived.Test.YtahfjdggomndoaaDoorProg
import Derived.Below
import Derived.Deep.Draws
import Derived.Deep.AppendLies
import Derived.Maps.AppendAt
import Derived.OwnWalk
import Derived.Laws.BytesArg
import Derived.Laws.MakeOwn
import Derived.Laws.OwnMore
import Derived.Deep.OwnRows
import Derived.Tactics
import Derived.Lib.ConvBytes
import Derived.Laws.Slices
import Derived.WalkKit
import Derived.KernelRfl
import Derived.RowKit3
import Derived.Deep.LoopGhost
import Derived.Deep.QuietTactic
import Derived.BigQuiet
import Derived.WideLaws
import Derived.Deep.DeepCutAuto
import Derived.Deep.CutBlock
import Derived.Deep.RegionHeld3
import Derived.Laws.Rows
import Derived.Lib.AppendStr
import Derived.ArgAppend
import Derived.Laws.IdiomCopy
import Derived.OrdersHeld
import Derived.Laws.BitsLemmas
import Derived.RowKit
import Derived.Test.YtahfjdggomndoaaDoorTxt
import Derived.Test.YtahfjdggomndoaaDoorAtoi
import Derived.Test.YtahfjdggomndoaaDoorWWords
import Derived.Test.YtahfjdggomndoaaDoorWLast
import Derived.Test.YtahfjdggomndoaaDoorWTab
import Derived.Test.YtahfjdggomndoaaDoorWFour
import Derived.Test.YtahfjdggomndoaaDoorWQPut
import Derived.Test.YtahfjdggomndoaaDoorWApart
import Derived.Test.YtahfjdggomndoaaDoorWArr
import Derived.Test.YtahfjdggomndoaaDoorWZeros
import Derived.Test.YtahfjdggomndoaaDoorWFoot
import Derived.Test.YtahfjdggomndoaaDoorWKept
import Derived.Test.YtahfjdggomndoaaDoorWShare
import Derived.Test.YtahfjdggomndoaaDoorWN
import Derived.Test.YtahfjdggomndoaaDoorWFootNe
import Derived.Test.YtahfjdggomndoaaDoorWAt
import Derived.Test.YtahfjdggomndoaaDoorWEqStruct
import Derived.Test.YtahfjdggomndoaaDoorWRepsOne
import Derived.Test.YtahfjdggomndoaaDoorWInv
import Derived.Test.YtahfjdggomndoaaDoorWInvWords
import Derived.Test.YtahfjdggomndoaaDoorWGuard
import Derived.Test.YtahfjdggomndoaaDoorWNEv
import Derived.Test.YtahfjdggomndoaaDoorWMore
namespace Go.Proofs.YtahfjdggomndoaaDoor.PFnAtoi
open Go.Proofs.YtahfjdggomndoaaDoor.Giv
open Go.RowKit Go.Proofs.YtahfjdggomndoaaDoorW.PrintWords Go.Proofs.YtahfjdggomndoaaDoorW.PrintLast Go.Proofs.YtahfjdggomndoaaDoorW.PrintMore
attribute [local go_sem] max2_int min2_int max_two min_two max_three min_three max_four min_four   -- for this text's walks alone
set_option linter.unusedVariables false
set_option linter.unusedSimpArgs false



def errW : Option Int → Value
  | none => .nilIface
  | some c => .iface 50 (.int .i64 c)
theorem errW_none : errW none = .nilIface := rfl
theorem errW_some (c : Int) : errW (some c) = .iface 50 (.int .i64 c) := rfl

-- the values' own types

end Go.Proofs.YtahfjdggomndoaaDoor.PFnAtoi
