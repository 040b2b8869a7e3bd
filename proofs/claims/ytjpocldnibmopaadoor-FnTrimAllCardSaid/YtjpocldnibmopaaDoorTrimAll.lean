/- spec.TrimAll, and unicode/utf8's decoding at both ends, in the print's form. -/
import Derived.Test.YtjpocldnibmopaaDoorCut
import Derived.Test.YtjpocldnibmopaaDoorTabs
import Derived.Test.YtjpocldnibmopaaDoorRunes
namespace Go.Proofs.YtjpocldnibmopaaDoor.Giv
open Go.RowKit Go.Proofs.YtjpocldnibmopaaDoorW.PrintWords Go.Proofs.YtjpocldnibmopaaDoor.Txt
set_option linter.unusedVariables false

def trimT (set s : ByteArray) : ByteArray := runesBytes (trimS (fun c => decide (c ∈ runes set)) (runes s))
theorem TrimAll_walk (set s : ByteArray) (w : World) (hs : s.size ≤ 1000) (hs2 : set.size ≤ 1000) :
    Calls Tryd.prog 12 #[.string set, .string s] w fun e w' => e = .returned (.string (trimT set s)) ∧ Below w.heap.size w w' := by
  have hmf : ∀ (fn : Fn) (first cap : Array Value) (w : World), (Instr.makeFunc fn first cap).run Tryd.prog w = .ok (.func fn first cap) w := fun _ _ _ _ => rfl
  have Hc := Lib.hid (cut_walk s set ⟨w.heap.size, 0, none⟩ (w.alloc (.cells #[.string set] 9)) hs hs2 (by simp) (by simp [go_sem]))
  obtain ⟨R, hR⟩ : ∃ R, R = trimT set s := ⟨_, rfl⟩
  have hR' : runesBytes (trimS (fun c => decide (c ∈ runes set)) (runes s)) = R := hR.symm
  rw [hR'] at Hc
  rw [← hR]
  clear hR hR'
  go_enter Tryd.func12, Tryd.ntmps12
  go_wp2_with fail
  refine Hc.out.mono ?_
  rintro x w' ⟨rfl, hb⟩
  have HB := Lib.hid hb
  clear hb
  go_wp2_with fail
  go_ret
  exact ⟨rfl, ((Below.refl _ _).alloc (Nat.le_refl _) _).trans (HB.out.mono (by simp))⟩
def spec_TrimAll.f (a0 : ByteArray) (a1 : ByteArray) : Option (ByteArray) := if a0.size ≤ 1000 ∧ a1.size ≤ 1000 then some (trimT a0 a1) else none
theorem spec_TrimAll.calls (a0 : ByteArray) (a1 : ByteArray) (r : ByteArray) (w : World) (h : spec_TrimAll.f a0 a1 = some r) :
    Calls Tryd.prog 12 #[.string a0, .string a1] w fun e w' => e = .returned (.string r) ∧ Below w.heap.size w w' := by
  unfold spec_TrimAll.f at h
  split at h
  · rename_i hb
    obtain rfl := Option.some.inj h
    exact TrimAll_walk a0 a1 w hb.2 hb.1
  · exact absurd h (by simp)
def utf8_DecodeRuneInString.f (a0 : ByteArray) : Option (Int × Int) := some (((Lib.decodeGo a0).1 : Int), ((Lib.decodeGo a0).2 : Int))
theorem utf8_DecodeRuneInString.calls (a0 : ByteArray) (r1 : Int) (r2 : Int) (w : World) (T : Tabs w) (h : utf8_DecodeRuneInString.f a0 = some (r1, r2)) :
    Calls Tryd.prog 27 #[.string a0] w fun e w' => e = .returned (.tuple #[.int .i32 r1, .int .i64 r2]) ∧ Below w.heap.size w w' := by
  obtain ⟨rfl, rfl⟩ := Prod.mk.inj (Option.some.inj h)
  exact Tryd.utf8_DecodeRuneInString a0 w T
def utf8_DecodeLastRuneInString.f (a0 : ByteArray) : Option (Int × Int) := if a0.size ≤ 1000 then some (((Lib.decodeLastL a0.toList).1 : Int), ((Lib.decodeLastL a0.toList).2 : Int)) else none
theorem utf8_DecodeLastRuneInString.calls (a0 : ByteArray) (r1 : Int) (r2 : Int) (w : World) (T : Tabs w) (h : utf8_DecodeLastRuneInString.f a0 = some (r1, r2)) :
    Calls Tryd.prog 34 #[.string a0] w fun e w' => e = .returned (.tuple #[.int .i32 r1, .int .i64 r2]) ∧ Below w.heap.size w w' := by
  unfold utf8_DecodeLastRuneInString.f at h
  split at h
  case isFalse => exact absurd h (by simp)
  obtain ⟨rfl, rfl⟩ := Prod.mk.inj (Option.some.inj h)
  rw [Lib.toList_data]
  exact Tryd.utf8_DecodeLastRuneInString a0 w (by omega) T

end Go.Proofs.YtjpocldnibmopaaDoor.Giv
