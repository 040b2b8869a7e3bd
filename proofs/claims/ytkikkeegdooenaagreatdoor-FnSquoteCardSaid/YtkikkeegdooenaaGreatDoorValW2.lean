/- Walks over impl.Value: sizes and weights. -/
import Derived.Test.YtkikkeegdooenaaGreatDoorValW1
namespace Go.Proofs.YtkikkeegdooenaaGreatDoor.Vals
open Go.RowKit Go.Proofs.YtkikkeegdooenaaGreatDoorW.PrintWords
set_option linter.unusedVariables false
set_option maxRecDepth 20000

/-- An int within bounds. -/
def SomeInt (Q : Int → World → Prop) (e : Ending) (w' : World) : Prop := ∃ r, e = .returned (.int .i64 r) ∧ Q r w'

end Go.Proofs.YtkikkeegdooenaaGreatDoor.Vals
