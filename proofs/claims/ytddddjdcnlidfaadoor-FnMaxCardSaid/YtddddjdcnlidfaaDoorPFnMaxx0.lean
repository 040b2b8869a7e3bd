-- Written by gprint.py (a program of this session, over the kit's print) out of Lean's own print of the program.
import Derived.Test.YtddddjdcnlidfaaDoorProg
import Derived.Below
import Derived.Deep.Draws
import Derived.Deep.AppendLies
import Derived.Maps.AppendAt
import Derived.OwnWalk
import Derived.Laws.BytesArg
import Derived.Laws.MakeOwn
import Derived.Laws.OwnMore
import Derived.Deep.OwnRows
import Derived.Tactics
import Derived.Lib.ConvBytes
import Derived.Laws.Slices
import Derived.WalkKit
import Derived.KernelRfl
import Derived.RowKit3
import Derived.Deep.LoopGhost
import Derived.Deep.QuietTactic
import Derived.BigQuiet
import Derived.WideLaws
import Derived.Deep.DeepCutAuto
import Derived.Deep.CutBlock
import Derived.Deep.RegionHeld3
import Derived.Laws.Rows
import Derived.Lib.AppendStr
import Derived.ArgAppend
import Derived.Laws.IdiomCopy
import Derived.OrdersHeld
import Derived.Laws.BitsLemmas
import Derived.RowKit
import Derived.Test.YtddddjdcnlidfaaDoorTxt
import Derived.Test.YtddddjdcnlidfaaDoorNum2
import Derived.Test.YtddddjdcnlidfaaDoorWWords
import Derived.Test.YtddddjdcnlidfaaDoorWLast
import Derived.Test.YtddddjdcnlidfaaDoorWTab
import Derived.Test.YtddddjdcnlidfaaDoorWFour
import Derived.Test.YtddddjdcnlidfaaDoorWQPut
import Derived.Test.YtddddjdcnlidfaaDoorWApart
import Derived.Test.YtddddjdcnlidfaaDoorWArr
import Derived.Test.YtddddjdcnlidfaaDoorWZeros
import Derived.Test.YtddddjdcnlidfaaDoorWFoot
import Derived.Test.YtddddjdcnlidfaaDoorWKept
import Derived.Test.YtddddjdcnlidfaaDoorWShare
import Derived.Test.YtddddjdcnlidfaaDoorWN
import Derived.Test.YtddddjdcnlidfaaDoorWFootNe
import Derived.Test.YtddddjdcnlidfaaDoorWAt
import Derived.Test.YtddddjdcnlidfaaDoorWEqStruct
import Derived.Test.YtddddjdcnlidfaaDoorWRepsOne
import Derived.Test.YtddddjdcnlidfaaDoorWInv
import Derived.Test.YtddddjdcnlidfaaDoorWInvWords
import Derived.Test.YtddddjdcnlidfaaDoorWGuard
import Derived.Test.YtddddjdcnlidfaaDoorWNEv
import Derived.Test.YtddddjdcnlidfaaDoorWMore
namespace Go.Proofs.YtddddjdcnlidfaaDoor.PFnMax
open Go.Proofs.YtddddjdcnlidfaaDoor.Giv
open Go.RowKit Go.Proofs.YtddddjdcnlidfaaDoorW.PrintWords Go.Proofs.YtddddjdcnlidfaaDoorW.PrintLast Go.Proofs.YtddddjdcnlidfaaDoorW.PrintMore
attribute [local go_sem] max2_int min2_int max_two min_two max_three min_three max_four min_four   -- for this text's walks alone
set_option linter.unusedVariables false
set_option linter.unusedSimpArgs false



def errW : Option Int → Value
  | none => .nilIface
  | some c => .iface 85 (.int .i64 c)
theorem errW_none : errW none = .nilIface := rfl
theorem errW_some (c : Int) : errW (some c) = .iface 85 (.int .i64 c) := rfl

theorem info2 : (Tryd.prog.info? 2).map (fun i => (i.zero, i.size, i.bytes)) = some (some (.int .i64 0), 1, 8) := by kernel_rfl
-- the values' own types

end Go.Proofs.YtddddjdcnlidfaaDoor.PFnMax
