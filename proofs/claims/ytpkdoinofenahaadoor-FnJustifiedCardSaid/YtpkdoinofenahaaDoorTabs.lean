/- The tables of unicode/utf8 as the world has them, and the shelf's decoding. -/
import Derived.Test.YtpkdoinofenahaaDoorShelf
import Derived.Test.YtpkdoinofenahaaDoorPts
namespace Go.Proofs.YtpkdoinofenahaaDoor.Giv
open Go.RowKit Go.Proofs.YtpkdoinofenahaaDoorW.PrintWords Go.Proofs.YtpkdoinofenahaaDoor.Txt

def Tabs (w : World) : Prop := Lib.Utf8Tabs 3 4 w
theorem Tabs.below {w w' : World} (h : Tabs w) (hb : Below w.heap.size w w') : Tabs w' := Utf8Tabs_below h hb
theorem Tabs.below' {B : Nat} {w w' : World} (h : Tabs w) (hb : Below B w w') (hB : w.heap.size ≤ B) : Tabs w' := Utf8Tabs_below h (hb.mono hB)
theorem Tabs.alloc {w : World} (h : Tabs w) (o : Obj) : Tabs (w.alloc o) := h.below ((Below.refl _ _).alloc (Nat.le_refl _) _)
theorem Tabs.drewN {w : World} (h : Tabs w) (n : Nat) : Tabs (w.drewN n) := h.below (pw_below_drewN (Below.refl _ _) n)
/-- The code point that stands at a place, and how many bytes it takes. -/
theorem decode_tail (s : ByteArray) (pos : Nat) (w : World) (hT : Tabs w) (hp : pos < s.size) :
    Calls Tryd.prog 68 #[.string (s.extract pos s.size)] w fun e w' => e = .returned (.tuple #[.int .i32 (Utf8.decode s pos).1, .int .i64 (wid s pos)]) ∧ Below w.heap.size w w' := by
  have h := Tryd.utf8_DecodeRuneInString (s.extract pos s.size) w hT
  have z : ¬ (s.extract pos s.size).size = 0 := by rw [Lib.tail_size]; omega
  have e : Lib.decodeGo (s.extract pos s.size) = Utf8.decode s pos := by
    unfold Lib.decodeGo; rw [if_neg z, Lib.tail_decode, Nat.add_zero]
  rw [e] at h
  exact h

end Go.Proofs.YtpkdoinofenahaaDoor.Giv
