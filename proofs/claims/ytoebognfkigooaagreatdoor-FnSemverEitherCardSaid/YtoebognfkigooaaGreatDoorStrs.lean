/- A slice of strings that came in, as the law's row reads it. No program in sight. -/
import Derived.Test.YtoebognfkigooaaGreatDoorTxt
import Derived.Test.YtoebognfkigooaaGreatDoorWWords
namespace Go.Proofs.YtoebognfkigooaaGreatDoor.Txt
open Go.RowKit Go.Proofs.YtoebognfkigooaaGreatDoorW.PrintWords

/-- The strings of a slice that came in. -/
def IsStrs (w : World) (a : Option Addr) (len cap : Nat) (l : List ByteArray) : Prop := l.length = len ∧ len ≤ cap ∧ ReadsOf Value.string ByteArray.empty w a len l
theorem isStrs_nil (w : World) : IsStrs w none 0 0 [] := ⟨rfl, Nat.le_refl _, rfl, by omega, fun h => absurd h (by omega)⟩
theorem isStrs_of {w : World} {x : Addr} {len cap : Nat} {ss : List ByteArray} (hl : len ≤ cap) (hm : cap ≤ maxLen) (hz : ss.length = cap) (hc : ∀ i, i < ss.length → w.cell? (x.add i) = some (.string (ss.getD i ByteArray.empty))) : IsStrs w (some x) len cap (ss.take len) := by
  have hlen : (ss.take len).length = len := by rw [List.length_take]; omega
  refine ⟨hlen, hl, hlen, by unfold maxLen at hm; omega, fun _ => ⟨x, rfl, fun j hj => ?_⟩⟩
  rw [hc j (by omega)]
  simp [List.getD, hj]

end Go.Proofs.YtoebognfkigooaaGreatDoor.Txt
