/- Walks over impl.Value: sizes, bare values. -/
import Derived.Test.YtkikkeegdooenaaGreatDoorVals
import Derived.Test.YtkikkeegdooenaaGreatDoorFlt
import Derived.WalkKit
import Derived.BigCall
import Derived.WalkLawsBesides
import Derived.WalkSpells
import Derived.Outline
import Derived.Lib.Hide
namespace Go.Proofs.YtkikkeegdooenaaGreatDoor.Vals
open Go.RowKit Go.Proofs.YtkikkeegdooenaaGreatDoorW.PrintWords
set_option linter.unusedVariables false
set_option maxRecDepth 20000

/-- Two values without keys and lists. -/
def bareB (k n : Int) (r : Nat) (t : ByteArray) (k' n' : Int) (r' : Nat) (t' : ByteArray) : Bool :=
  decide (k = k') && (decide (n = n') && ((feq r r' || (!feq r r && !feq r' r')) && (t.toList == t'.toList)))

/-- A bool, whichever. -/
def SomeBool (Q : Bool → World → Prop) (e : Ending) (w' : World) : Prop := ∃ b, e = .returned (.bool b) ∧ Q b w'
end Go.Proofs.YtkikkeegdooenaaGreatDoor.Vals
