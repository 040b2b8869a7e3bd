-- Written by gprint.py (a program of this session, over the kit's print) out of Lean's own print of the program.
import Derived.Test.YtkikkeegdooenaaGreatDoorProg
import Derived.Below
import Derived.Deep.Draws
import Derived.Deep.AppendLies
import Derived.Maps.AppendAt
import Derived.OwnWalk
import Derived.Laws.BytesArg
import Derived.Laws.MakeOwn
import Derived.Laws.OwnMore
import Derived.Deep.OwnRows
import Derived.Tactics
import Derived.Lib.ConvBytes
import Derived.Laws.Slices
import Derived.WalkKit
import Derived.KernelRfl
import Derived.RowKit3
import Derived.Deep.LoopGhost
import Derived.Deep.QuietTactic
import Derived.BigQuiet
import Derived.WideLaws
import Derived.Deep.DeepCutAuto
import Derived.Deep.CutBlock
import Derived.Deep.RegionHeld3
import Derived.Laws.Rows
import Derived.Lib.AppendStr
import Derived.ArgAppend
import Derived.Laws.IdiomCopy
import Derived.OrdersHeld
import Derived.Laws.BitsLemmas
import Derived.RowKit
import Derived.Test.YtkikkeegdooenaaGreatDoorTxt
import Derived.Test.YtkikkeegdooenaaGreatDoorUtf
import Derived.Test.YtkikkeegdooenaaGreatDoorNope
import Derived.Test.YtkikkeegdooenaaGreatDoorWWords
import Derived.Test.YtkikkeegdooenaaGreatDoorWLast
import Derived.Test.YtkikkeegdooenaaGreatDoorWTab
import Derived.Test.YtkikkeegdooenaaGreatDoorWFour
import Derived.Test.YtkikkeegdooenaaGreatDoorWQPut
import Derived.Test.YtkikkeegdooenaaGreatDoorWApart
import Derived.Test.YtkikkeegdooenaaGreatDoorWArr
import Derived.Test.YtkikkeegdooenaaGreatDoorWZeros
import Derived.Test.YtkikkeegdooenaaGreatDoorWFoot
import Derived.Test.YtkikkeegdooenaaGreatDoorWKept
import Derived.Test.YtkikkeegdooenaaGreatDoorWShare
import Derived.Test.YtkikkeegdooenaaGreatDoorWN
import Derived.Test.YtkikkeegdooenaaGreatDoorWFootNe
import Derived.Test.YtkikkeegdooenaaGreatDoorWAt
import Derived.Test.YtkikkeegdooenaaGreatDoorWEqStruct
import Derived.Test.YtkikkeegdooenaaGreatDoorWRepsOne
import Derived.Test.YtkikkeegdooenaaGreatDoorWInv
import Derived.Test.YtkikkeegdooenaaGreatDoorWInvWords
import Derived.Test.YtkikkeegdooenaaGreatDoorWGuard
import Derived.Test.YtkikkeegdooenaaGreatDoorWNEv
import Derived.Test.YtkikkeegdooenaaGreatDoorWMore
namespace Go.Proofs.YtkikkeegdooenaaGreatDoor.PFnSquote
open Go.Proofs.YtkikkeegdooenaaGreatDoor.Giv
open Go.RowKit Go.Proofs.YtkikkeegdooenaaGreatDoorW.PrintWords Go.Proofs.YtkikkeegdooenaaGreatDoorW.PrintLast Go.Proofs.YtkikkeegdooenaaGreatDoorW.PrintMore
attribute [local go_sem] max2_int min2_int max_two min_two max_three min_three max_four min_four   -- for this text's walks alone
set_option linter.unusedVariables false
set_option linter.unusedSimpArgs false



def errW : Option Int → Value
  | none => .nilIface
  | some c => .iface 0 (.int .i64 c)
theorem errW_none : errW none = .nilIface := rfl
theorem errW_some (c : Int) : errW (some c) = .iface 0 (.int .i64 c) := rfl

theorem info5 : (Tryz.prog.info? 5).map (fun i => (i.zero, i.size, i.bytes)) = some (some (.int .u8 0), 1, 1) := by kernel_rfl
-- the values' own types

end Go.Proofs.YtkikkeegdooenaaGreatDoor.PFnSquote
