-- Written by gprint.py (a program of this session, over the kit's print) out of Lean's own print of the program.
import Derived.Test.YtpkdoinofenahaaDoorProg
import Derived.Below
import Derived.Deep.Draws
import Derived.Deep.AppendLies
import Derived.Maps.AppendAt
import Derived.OwnWalk
import Derived.Laws.BytesArg
import Derived.Laws.MakeOwn
import Derived.Laws.OwnMore
import Derived.Deep.OwnRows
import Derived.Tactics
import Derived.Lib.ConvBytes
import Derived.Laws.Slices
import Derived.WalkKit
import Derived.KernelRfl
import Derived.RowKit3
import Derived.Deep.LoopGhost
import Derived.Deep.QuietTactic
import Derived.BigQuiet
import Derived.WideLaws
import Derived.Deep.DeepCutAuto
import Derived.Deep.CutBlock
import Derived.Deep.RegionHeld3
import Derived.Laws.Rows
import Derived.Lib.AppendStr
import Derived.ArgAppend
import Derived.Laws.IdiomCopy
import Derived.OrdersHeld
import Derived.Laws.BitsLemmas
import Derived.RowKit
import Derived.Test.YtpkdoinofenahaaDoorTxt
import Derived.Test.YtpkdoinofenahaaDoorWrapC
import Derived.Test.YtpkdoinofenahaaDoorWWords
import Derived.Test.YtpkdoinofenahaaDoorWLast
import Derived.Test.YtpkdoinofenahaaDoorWTab
import Derived.Test.YtpkdoinofenahaaDoorWFour
import Derived.Test.YtpkdoinofenahaaDoorWQPut
import Derived.Test.YtpkdoinofenahaaDoorWApart
import Derived.Test.YtpkdoinofenahaaDoorWArr
import Derived.Test.YtpkdoinofenahaaDoorWZeros
import Derived.Test.YtpkdoinofenahaaDoorWFoot
import Derived.Test.YtpkdoinofenahaaDoorWKept
import Derived.Test.YtpkdoinofenahaaDoorWShare
import Derived.Test.YtpkdoinofenahaaDoorWN
import Derived.Test.YtpkdoinofenahaaDoorWFootNe
import Derived.Test.YtpkdoinofenahaaDoorWAt
import Derived.Test.YtpkdoinofenahaaDoorWEqStruct
import Derived.Test.YtpkdoinofenahaaDoorWRepsOne
import Derived.Test.YtpkdoinofenahaaDoorWInv
import Derived.Test.YtpkdoinofenahaaDoorWInvWords
import Derived.Test.YtpkdoinofenahaaDoorWGuard
import Derived.Test.YtpkdoinofenahaaDoorWNEv
import Derived.Test.YtpkdoinofenahaaDoorWMore
namespace Go.Proofs.YtpkdoinofenahaaDoor.PFnWrapLines
open Go.Proofs.YtpkdoinofenahaaDoor.Giv
open Go.RowKit Go.Proofs.YtpkdoinofenahaaDoorW.PrintWords Go.Proofs.YtpkdoinofenahaaDoorW.PrintLast Go.Proofs.YtpkdoinofenahaaDoorW.PrintMore
attribute [local go_sem] max2_int min2_int max_two min_two max_three min_three max_four min_four   -- for this text's walks alone
set_option linter.unusedVariables false
set_option linter.unusedSimpArgs false



def errW : Option Int → Value
  | none => .nilIface
  | some c => .iface 0 (.int .i64 c)
theorem errW_none : errW none = .nilIface := rfl
theorem errW_some (c : Int) : errW (some c) = .iface 0 (.int .i64 c) := rfl

theorem info9 : (Tryd.prog.info? 9).map (fun i => (i.zero, i.size, i.bytes)) = some (some (.string ⟨#[]⟩), 1, 16) := by kernel_rfl
-- the values' own types

end Go.Proofs.YtpkdoinofenahaaDoor.PFnWrapLines
