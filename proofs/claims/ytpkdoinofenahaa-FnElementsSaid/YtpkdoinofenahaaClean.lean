/- path.Clean in the print's form: by the kit's shelf. For every text of at most 2^48 bytes. -/
import Derived.Test.YtpkdoinofenahaaShelf
namespace Go.Proofs.Ytpkdoinofenahaa.Giv
open Go.RowKit
def path_Clean.f (a0 : ByteArray) : Option (ByteArray) := if a0.size ≤ 281474976710656 then some ⟨(Lib.Pa.cleanEls a0.data.toList).toArray⟩ else none
theorem path_Clean.calls (a0 : ByteArray) (r : ByteArray) (w : World) (h : path_Clean.f a0 = some r) :
    Calls Try.prog 42 #[.string a0] w fun e w' => e = .returned (.string r) ∧ Below w.heap.size w w' := by
  unfold path_Clean.f at h
  split at h
  · obtain rfl := Option.some.inj h
    exact Try.path_Clean_rules a0 w (by assumption)
  · exact absurd h (by simp)
end Go.Proofs.Ytpkdoinofenahaa.Giv
