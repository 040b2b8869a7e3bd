/- Walks of sprig's isIn and of spec.isIn: whether a code point is among those of a text. -/
import Derived.Test.YtpkdoinofenahaaDoorPts
namespace Go.Proofs.YtpkdoinofenahaaDoor.Giv
open Go.RowKit Go.Proofs.YtpkdoinofenahaaDoorW.PrintWords Go.Proofs.YtpkdoinofenahaaDoor.Txt
set_option linter.unusedVariables false

set_option maxHeartbeats 1000000 in
theorem isIn_walk (c : Int) (s : ByteArray) (w : World) (hs : s.size ≤ 35184372088832) :
    Calls Tryd.prog 86 #[.int .i32 c, .string s] w fun e w' => e = .returned (.bool (decide (c ∈ runes s))) ∧ Below w.heap.size w w' := by
  obtain ⟨R, hR⟩ : ∃ R, R = decide (c ∈ runes s) := ⟨_, rfl⟩
  rw [← hR]
  have HR := Lib.hid hR
  clear hR
  go_enter Tryd.func86, Tryd.ntmps86
  go_wp2
  go_loopw [] (fun wr => ∃ (pos fuel : Nat), wr.heap[w.heap.size]? = some (.stringIter s pos) ∧ Hid (Below w.heap.size w wr) ∧ Hid (decide (c ∈ runesFrom s fuel pos) = R) ∧ s.size ≤ pos + fuel) (fun wr => s.size - wr.iterPos w.heap.size)
  case atStart =>
    exact ⟨0, s.size, World.iter_heap w s 0, Lib.hid ((Below.refl _ w).alloc (Nat.le_refl _) _), Lib.hid HR.out.symm, by omega⟩
  case round =>
    obtain ⟨pos, fuel, hit, hbw, hacc, hfu⟩ := hrel
    by_cases hp : pos < s.size
    · have hnx : ∀ ty, (Instr.next (.pointer (some ⟨w.heap.size, 0, none⟩)) true ty).run Tryd.prog wr = _ := fun ty => Lib.run_next_any_at wr w.heap.size s pos ty hit hp
      have hw := width_pos s pos hp
      obtain ⟨f, rfl⟩ : ∃ f, fuel = f + 1 := ⟨fuel - 1, by omega⟩
      have hd1 := decode_le s pos
      have hit2 := Lib.iterAt_heap wr w.heap.size s pos (pos + (Utf8.decode s pos).2) hit
      have hbw2 := Lib.hid (Lib.below_iterAt hbw.out (k := w.heap.size) (by omega) s (pos + (Utf8.decode s pos).2))
      have ha := hacc.out
      rw [runesFrom, if_pos hp] at ha
      have HA := Lib.hid ha
      clear ha
      by_cases h1 : ((Utf8.decode s pos).1 : Int) = c
      · subst h1
        go_wp2
        go_ret
        have := HA.out
        exact ⟨by rw [← this]; simp, hbw2.out⟩
      · have h2 : ¬ ((Utf8.decode s pos).1 : Int) = c := fun e => h1 (e)
        have H1 := Lib.hid h1
        clear h1
        go_wp2
        refine ⟨⟨pos + (Utf8.decode s pos).2, f, hit2, hbw2, Lib.hid ?_, by omega⟩, ?_⟩
        · have h3 : ¬ c = ((Utf8.decode s pos).1 : Int) := fun e => H1.out e.symm
          rw [← HA.out]; simp [h3]
        · simp only [World.iterPos, hit2, hit]; omega
    · have hnx : ∀ ty, (Instr.next (.pointer (some ⟨w.heap.size, 0, none⟩)) true ty).run Tryd.prog wr = _ := fun ty => Lib.run_next_end_at wr w.heap.size s pos ty hit hp
      go_wp2
      go_ret
      have := hacc.out
      have e : runesFrom s fuel pos = [] := by cases fuel with | zero => rfl | succ f => rw [runesFrom, if_neg hp]
      rw [e] at this
      exact ⟨by rw [← this]; simp, hbw.out⟩
def spec_isIn.f (a0 : Int) (a1 : ByteArray) : Option (Bool) := if a1.size ≤ 35184372088832 then some (decide (a0 ∈ runes a1)) else none
theorem spec_isIn.calls (a0 : Int) (a1 : ByteArray) (r : Bool) (w : World) (h : spec_isIn.f a0 a1 = some r) :
    Calls Tryd.prog 86 #[.int .i32 a0, .string a1] w fun e w' => e = .returned (.bool r) ∧ Below w.heap.size w w' := by
  unfold spec_isIn.f at h
  split at h
  · obtain rfl := Option.some.inj h
    exact isIn_walk a0 a1 w (by assumption)
  · exact absurd h (by simp)

end Go.Proofs.YtpkdoinofenahaaDoor.Giv
