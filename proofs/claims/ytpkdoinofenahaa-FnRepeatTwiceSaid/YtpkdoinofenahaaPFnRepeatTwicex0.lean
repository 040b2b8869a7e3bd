-- Written by gprint.py (a program of this session, over the kit's print) out of Lean's own print of the program.
import Derived.Test.YtpkdoinofenahaaProg
import Derived.Below
import Derived.Deep.Draws
import Derived.Deep.AppendLies
import Derived.Maps.AppendAt
import Derived.OwnWalk
import Derived.Laws.BytesArg
import Derived.Laws.MakeOwn
import Derived.Laws.OwnMore
import Derived.Deep.OwnRows
import Derived.Tactics
import Derived.Lib.ConvBytes
import Derived.Laws.Slices
import Derived.WalkKit
import Derived.KernelRfl
import Derived.RowKit3
import Derived.Deep.LoopGhost
import Derived.Deep.QuietTactic
import Derived.BigQuiet
import Derived.WideLaws
import Derived.Deep.DeepCutAuto
import Derived.Deep.CutBlock
import Derived.Deep.RegionHeld3
import Derived.Laws.Rows
import Derived.Lib.AppendStr
import Derived.ArgAppend
import Derived.Laws.IdiomCopy
import Derived.OrdersHeld
import Derived.Laws.BitsLemmas
import Derived.RowKit
import Derived.Test.YtpkdoinofenahaaTxt
import Derived.Test.YtpkdoinofenahaaUtf
import Derived.Test.YtpkdoinofenahaaRepeat
import Derived.Test.YtpkdoinofenahaaWWords
import Derived.Test.YtpkdoinofenahaaWLast
import Derived.Test.YtpkdoinofenahaaWTab
import Derived.Test.YtpkdoinofenahaaWFour
import Derived.Test.YtpkdoinofenahaaWQPut
import Derived.Test.YtpkdoinofenahaaWApart
import Derived.Test.YtpkdoinofenahaaWArr
import Derived.Test.YtpkdoinofenahaaWZeros
import Derived.Test.YtpkdoinofenahaaWFoot
import Derived.Test.YtpkdoinofenahaaWKept
import Derived.Test.YtpkdoinofenahaaWShare
import Derived.Test.YtpkdoinofenahaaWN
import Derived.Test.YtpkdoinofenahaaWFootNe
import Derived.Test.YtpkdoinofenahaaWAt
import Derived.Test.YtpkdoinofenahaaWEqStruct
import Derived.Test.YtpkdoinofenahaaWRepsOne
import Derived.Test.YtpkdoinofenahaaWInv
import Derived.Test.YtpkdoinofenahaaWInvWords
import Derived.Test.YtpkdoinofenahaaWGuard
import Derived.Test.YtpkdoinofenahaaWNEv
import Derived.Test.YtpkdoinofenahaaWMore
namespace Go.Proofs.Ytpkdoinofenahaa.PFnRepeatTwice
open Go.Proofs.Ytpkdoinofenahaa.Giv
open Go.RowKit Go.Proofs.YtpkdoinofenahaaW.PrintWords Go.Proofs.YtpkdoinofenahaaW.PrintLast Go.Proofs.YtpkdoinofenahaaW.PrintMore
attribute [local go_sem] max2_int min2_int max_two min_two max_three min_three max_four min_four   -- for this text's walks alone
set_option linter.unusedVariables false
set_option linter.unusedSimpArgs false



def errW : Option Int → Value
  | none => .nilIface
  | some c => .iface 0 (.int .i64 c)
theorem errW_none : errW none = .nilIface := rfl
theorem errW_some (c : Int) : errW (some c) = .iface 0 (.int .i64 c) := rfl

theorem info9 : (Try.prog.info? 9).map (fun i => (i.zero, i.size, i.bytes)) = some (some (.string ⟨#[]⟩), 1, 16) := by kernel_rfl
-- the values' own types

end Go.Proofs.Ytpkdoinofenahaa.PFnRepeatTwice
