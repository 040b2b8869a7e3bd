-- PRINTED BY print.sh 35421559b90ae4d0a3588c463048766b98c2df88dd9212a6774a882060cdf62d: not written by this session
import Derived.Test.YtmoilbhkjmhoaaaDoorProg
import Derived.Below
import Derived.Deep.Draws
import Derived.Deep.AppendLies
import Derived.Maps.AppendAt
import Derived.OwnWalk
import Derived.Laws.BytesArg
import Derived.Laws.MakeOwn
import Derived.Laws.OwnMore
import Derived.Deep.OwnRows
import Derived.Tactics
import Derived.Lib.ConvBytes
import Derived.Laws.Slices
import Derived.WalkKit
import Derived.KernelRfl
import Derived.RowKit3
import Derived.Deep.LoopGhost
import Derived.Deep.QuietTactic
import Derived.BigQuiet
import Derived.WideLaws
import Derived.Deep.DeepCutAuto
import Derived.Deep.CutBlock
import Derived.Deep.RegionHeld3
import Derived.Laws.Rows
import Derived.Lib.AppendStr
import Derived.ArgAppend
import Derived.Laws.IdiomCopy
import Derived.OrdersHeld
import Derived.Laws.BitsLemmas
import Derived.RowKit
import Derived.Test.YtmoilbhkjmhoaaaDoorWWords
import Derived.Test.YtmoilbhkjmhoaaaDoorWLast
import Derived.Test.YtmoilbhkjmhoaaaDoorWTab
import Derived.Test.YtmoilbhkjmhoaaaDoorWFour
import Derived.Test.YtmoilbhkjmhoaaaDoorWQPut
import Derived.Test.YtmoilbhkjmhoaaaDoorWApart
import Derived.Test.YtmoilbhkjmhoaaaDoorWArr
import Derived.Test.YtmoilbhkjmhoaaaDoorWZeros
import Derived.Test.YtmoilbhkjmhoaaaDoorWFoot
import Derived.Test.YtmoilbhkjmhoaaaDoorWKept
import Derived.Test.YtmoilbhkjmhoaaaDoorWShare
import Derived.Test.YtmoilbhkjmhoaaaDoorWN
import Derived.Test.YtmoilbhkjmhoaaaDoorWFootNe
import Derived.Test.YtmoilbhkjmhoaaaDoorWAt
import Derived.Test.YtmoilbhkjmhoaaaDoorWEqStruct
import Derived.Test.YtmoilbhkjmhoaaaDoorWRepsOne
import Derived.Test.YtmoilbhkjmhoaaaDoorWInv
import Derived.Test.YtmoilbhkjmhoaaaDoorWInvWords
import Derived.Test.YtmoilbhkjmhoaaaDoorWGuard
import Derived.Test.YtmoilbhkjmhoaaaDoorWNEv
import Derived.Test.YtmoilbhkjmhoaaaDoorWMore
namespace Go.Proofs.YtmoilbhkjmhoaaaDoor.PFnSemverCompare
open Go.RowKit Go.Proofs.YtmoilbhkjmhoaaaDoorW.PrintWords Go.Proofs.YtmoilbhkjmhoaaaDoorW.PrintLast Go.Proofs.YtmoilbhkjmhoaaaDoorW.PrintMore
attribute [local go_sem] max2_int min2_int max_two min_two max_three min_three max_four min_four   -- for this text's walks alone
set_option linter.unusedVariables false
set_option linter.unusedSimpArgs false



def errW : Option Int → Value
  | none => .nilIface
  | some c => .iface 110 (.int .i64 c)
theorem errW_none : errW none = .nilIface := rfl
theorem errW_some (c : Int) : errW (some c) = .iface 110 (.int .i64 c) := rfl

theorem info9 : (Tryd.prog.info? 9).map (fun i => (i.zero, i.size, i.bytes)) = some (some (.string ⟨#[]⟩), 1, 16) := by kernel_rfl
-- the values' own types

end Go.Proofs.YtmoilbhkjmhoaaaDoor.PFnSemverCompare
