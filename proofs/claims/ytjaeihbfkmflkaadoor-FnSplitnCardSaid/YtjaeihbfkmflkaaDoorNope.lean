/- utf8.DecodeRuneInString where it is never called: of no argument anything is said. -/
import Derived.Test.YtjaeihbfkmflkaaDoorProg
import Derived.Test.YtjaeihbfkmflkaaDoorTxt
namespace Go.Proofs.YtjaeihbfkmflkaaDoor.Giv
open Go.RowKit Go.Proofs.YtjaeihbfkmflkaaDoorW.PrintWords
def utf8_DecodeRuneInString.f (_a0 : ByteArray) : Option (Int × Int) := none
theorem utf8_DecodeRuneInString.calls (a0 : ByteArray) (r1 : Int) (r2 : Int) (w : World) (h : utf8_DecodeRuneInString.f a0 = some (r1, r2)) :
    Calls Tryd.prog 34 #[.string a0] w fun e w' => e = .returned (.tuple #[.int .i32 r1, .int .i64 r2]) ∧ Drawn0 w w' := by
  exact absurd h (by simp [utf8_DecodeRuneInString.f])
end Go.Proofs.YtjaeihbfkmflkaaDoor.Giv
