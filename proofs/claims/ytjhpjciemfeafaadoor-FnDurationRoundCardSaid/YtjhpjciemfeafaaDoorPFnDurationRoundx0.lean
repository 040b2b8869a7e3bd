-- Written by gprint.py (a program of this session, over the kit's print) out of Lean's own print of the program.
import Derived.Test.YtjhpjciemfeafaaDoorProg
import Derived.Below
import Derived.Deep.Draws
import Derived.Deep.AppendLies
import Derived.Maps.AppendAt
import Derived.OwnWalk
import Derived.Laws.BytesArg
import Derived.Laws.MakeOwn
import Derived.Laws.OwnMore
import Derived.Deep.OwnRows
import Derived.Tactics
import Derived.Lib.ConvBytes
import Derived.Laws.Slices
import Derived.WalkKit
import Derived.KernelRfl
import Derived.RowKit3
import Derived.Deep.LoopGhost
import Derived.Deep.QuietTactic
import Derived.BigQuiet
import Derived.WideLaws
import Derived.Deep.DeepCutAuto
import Derived.Deep.CutBlock
import Derived.Deep.RegionHeld3
import Derived.Laws.Rows
import Derived.Lib.AppendStr
import Derived.ArgAppend
import Derived.Laws.IdiomCopy
import Derived.OrdersHeld
import Derived.Laws.BitsLemmas
import Derived.RowKit
import Derived.Test.YtjhpjciemfeafaaDoorTxt
import Derived.Test.YtjhpjciemfeafaaDoorDurG
import Derived.Test.YtjhpjciemfeafaaDoorWWords
import Derived.Test.YtjhpjciemfeafaaDoorWLast
import Derived.Test.YtjhpjciemfeafaaDoorWTab
import Derived.Test.YtjhpjciemfeafaaDoorWFour
import Derived.Test.YtjhpjciemfeafaaDoorWQPut
import Derived.Test.YtjhpjciemfeafaaDoorWApart
import Derived.Test.YtjhpjciemfeafaaDoorWArr
import Derived.Test.YtjhpjciemfeafaaDoorWZeros
import Derived.Test.YtjhpjciemfeafaaDoorWFoot
import Derived.Test.YtjhpjciemfeafaaDoorWKept
import Derived.Test.YtjhpjciemfeafaaDoorWShare
import Derived.Test.YtjhpjciemfeafaaDoorWN
import Derived.Test.YtjhpjciemfeafaaDoorWFootNe
import Derived.Test.YtjhpjciemfeafaaDoorWAt
import Derived.Test.YtjhpjciemfeafaaDoorWEqStruct
import Derived.Test.YtjhpjciemfeafaaDoorWRepsOne
import Derived.Test.YtjhpjciemfeafaaDoorWInv
import Derived.Test.YtjhpjciemfeafaaDoorWInvWords
import Derived.Test.YtjhpjciemfeafaaDoorWGuard
import Derived.Test.YtjhpjciemfeafaaDoorWNEv
import Derived.Test.YtjhpjciemfeafaaDoorWMore
namespace Go.Proofs.YtjhpjciemfeafaaDoor.PFnDurationRound
open Go.Proofs.YtjhpjciemfeafaaDoor.Giv
open Go.RowKit Go.Proofs.YtjhpjciemfeafaaDoorW.PrintWords Go.Proofs.YtjhpjciemfeafaaDoorW.PrintLast Go.Proofs.YtjhpjciemfeafaaDoorW.PrintMore
attribute [local go_sem] max2_int min2_int max_two min_two max_three min_three max_four min_four   -- for this text's walks alone
set_option linter.unusedVariables false
set_option linter.unusedSimpArgs false



def errW : Option Int → Value
  | none => .nilIface
  | some c => .iface 0 (.int .i64 c)
theorem errW_none : errW none = .nilIface := rfl
theorem errW_some (c : Int) : errW (some c) = .iface 0 (.int .i64 c) := rfl

theorem info2 : (Tryd.prog.info? 2).map (fun i => (i.zero, i.size, i.bytes)) = some (some (.int .i64 0), 1, 8) := by kernel_rfl
theorem info9 : (Tryd.prog.info? 9).map (fun i => (i.zero, i.size, i.bytes)) = some (some (.string ⟨#[]⟩), 1, 16) := by kernel_rfl
-- the values' own types

end Go.Proofs.YtjhpjciemfeafaaDoor.PFnDurationRound
