-- PRINTED BY print.sh 35421559b90ae4d0a3588c463048766b98c2df88dd9212a6774a882060cdf62d: not written by this session
import Derived.Test.YtoebognfkigooaaGreatDoorProg
import Derived.Below
import Derived.Deep.Draws
import Derived.Deep.AppendLies
import Derived.Maps.AppendAt
import Derived.OwnWalk
import Derived.Laws.BytesArg
import Derived.Laws.MakeOwn
import Derived.Laws.OwnMore
import Derived.Deep.OwnRows
import Derived.Tactics
import Derived.Lib.ConvBytes
import Derived.Laws.Slices
import Derived.WalkKit
import Derived.KernelRfl
import Derived.RowKit3
import Derived.Deep.LoopGhost
import Derived.Deep.QuietTactic
import Derived.BigQuiet
import Derived.WideLaws
import Derived.Deep.DeepCutAuto
import Derived.Deep.CutBlock
import Derived.Deep.RegionHeld3
import Derived.Laws.Rows
import Derived.Lib.AppendStr
import Derived.ArgAppend
import Derived.Laws.IdiomCopy
import Derived.OrdersHeld
import Derived.Laws.BitsLemmas
import Derived.RowKit
import Derived.Test.YtoebognfkigooaaGreatDoorWWords
import Derived.Test.YtoebognfkigooaaGreatDoorWLast
import Derived.Test.YtoebognfkigooaaGreatDoorWTab
import Derived.Test.YtoebognfkigooaaGreatDoorWFour
import Derived.Test.YtoebognfkigooaaGreatDoorWQPut
import Derived.Test.YtoebognfkigooaaGreatDoorWApart
import Derived.Test.YtoebognfkigooaaGreatDoorWArr
import Derived.Test.YtoebognfkigooaaGreatDoorWZeros
import Derived.Test.YtoebognfkigooaaGreatDoorWFoot
import Derived.Test.YtoebognfkigooaaGreatDoorWKept
import Derived.Test.YtoebognfkigooaaGreatDoorWShare
import Derived.Test.YtoebognfkigooaaGreatDoorWN
import Derived.Test.YtoebognfkigooaaGreatDoorWFootNe
import Derived.Test.YtoebognfkigooaaGreatDoorWAt
import Derived.Test.YtoebognfkigooaaGreatDoorWEqStruct
import Derived.Test.YtoebognfkigooaaGreatDoorWRepsOne
import Derived.Test.YtoebognfkigooaaGreatDoorWInv
import Derived.Test.YtoebognfkigooaaGreatDoorWInvWords
import Derived.Test.YtoebognfkigooaaGreatDoorWGuard
import Derived.Test.YtoebognfkigooaaGreatDoorWNEv
import Derived.Test.YtoebognfkigooaaGreatDoorWMore
namespace Go.Proofs.YtoebognfkigooaaGreatDoor.PFnSemverEither
open Go.RowKit Go.Proofs.YtoebognfkigooaaGreatDoorW.PrintWords Go.Proofs.YtoebognfkigooaaGreatDoorW.PrintLast Go.Proofs.YtoebognfkigooaaGreatDoorW.PrintMore
attribute [local go_sem] max2_int min2_int max_two min_two max_three min_three max_four min_four   -- for this text's walks alone
set_option linter.unusedVariables false
set_option linter.unusedSimpArgs false



def errW : Option Int → Value
  | none => .nilIface
  | some c => .iface 114 (.int .i64 c)
theorem errW_none : errW none = .nilIface := rfl
theorem errW_some (c : Int) : errW (some c) = .iface 114 (.int .i64 c) := rfl

theorem info9 : (Tryz.prog.info? 9).map (fun i => (i.zero, i.size, i.bytes)) = some (some (.string ⟨#[]⟩), 1, 16) := by kernel_rfl
-- the values' own types

end Go.Proofs.YtoebognfkigooaaGreatDoor.PFnSemverEither
