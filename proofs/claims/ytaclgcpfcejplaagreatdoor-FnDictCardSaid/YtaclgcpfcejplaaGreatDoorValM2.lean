/- Walks of sprig.coalesce, all, any. -/
import Derived.Test.YtaclgcpfcejplaaGreatDoorValM
import Derived.Test.YtaclgcpfcejplaaGreatDoorValE2
namespace Go.Proofs.YtaclgcpfcejplaaGreatDoor.Vals
open Go.RowKit Go.Proofs.YtaclgcpfcejplaaGreatDoorW.PrintWords
set_option linter.unusedVariables false
set_option maxRecDepth 20000

/-- The first that is not empty. -/
def pickV : List V → V
  | [] => V.nil
  | v :: r => if emptyB v = true then pickV r else v
def pickX : List V → List Value → Value
  | v :: r, x :: s => if emptyB v = true then pickX r s else x
  | _, _ => .nilIface
theorem GoVs.pick {w : World} {P : Nat → Prop} : ∀ {l : List V} {xs : List Value}, GoVs w P l xs → GoV w P (pickV l) (pickX l xs)
  | [], xs, h => by unfold GoVs at h; subst h; exact GoV.nil w P
  | v :: l, xs, h => by
    unfold GoVs at h
    obtain ⟨x, r, rfl, h1, h2⟩ := h
    unfold pickV pickX
    split
    · exact GoVs.pick h2
    · exact h1
end Go.Proofs.YtaclgcpfcejplaaGreatDoor.Vals
