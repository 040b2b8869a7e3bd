/- Semantic versions: whether a text's bytes are all among those of a set (texts and sets of ASCII). -/
import Derived.Test.YtmoilbhkjmhoaaaDoorSvNv
import Derived.Lib.OthersKept
namespace Go.Proofs.YtmoilbhkjmhoaaaDoor.Sv
open Go.RowKit Go.Proofs.YtmoilbhkjmhoaaaDoor.PFnSemverOrderThree Go.Proofs.YtmoilbhkjmhoaaaDoorW.PrintWords Go.Proofs.YtmoilbhkjmhoaaaDoor.Txt Go.Proofs.YtmoilbhkjmhoaaaDoor
set_option linter.unusedVariables false
set_option linter.unusedSimpArgs false
set_option maxRecDepth 20000

def Asc (s : ByteArray) : Prop := ∀ (i : Nat) (h : i < s.size), (s[i]'h).toNat < 128
theorem get_list (s : ByteArray) (i : Nat) (h : i < s.size) (h' : i < s.toList.length) : s.toList[i] = s[i]'h := by
  simp only [Lib.toList_data, Array.getElem_toList]; rfl
theorem asc_of {s : ByteArray} (h : ∀ x ∈ s.toList, x.toNat < 128) : Asc s := fun i hi => by
  have hl : i < s.toList.length := by rw [← len_eq]; exact hi
  rw [← get_list s i hi hl]; exact h _ (List.getElem_mem hl)

set_option maxHeartbeats 1000000 in
theorem zzIndexRune_walk (c : Nat) (hc : c < 128) (s : ByteArray) (hs : s.size ≤ 1000) (hA : Asc s) (w : World) :
    Calls Tryd.prog 91 #[.string s, .int .i32 (c : Int)] w fun e w' => ∃ i : Int, e = .returned (.int .i64 i) ∧ (0 ≤ i ↔ ∃ x ∈ s.toList, x.toNat = c) ∧ Below w.heap.size w w' := by
  have hl := len_eq s
  have c1 : ¬ ((c : Int) < 0) := by omega
  have c2 : ¬ ((c : Int) > 1114111) := by omega
  have c3 : ¬ ((55296 : Int) ≤ (c : Int)) := by omega
  have c4 : ¬ ((c : Int) = 65533) := by omega
  have c5 : ¬ ((1114111 : Int) < (c : Int)) := by omega
  go_enter Tryd.func91, Tryd.ntmps91
  go_wp2
  go_loopw [] (fun wr => ∃ pos : Nat, wr.heap[w.heap.size]? = some (.stringIter s pos) ∧ Hid (Below w.heap.size w wr) ∧ Hid (∀ x ∈ s.toList.take pos, x.toNat ≠ c) ∧ pos ≤ s.size) (fun wr => s.size - wr.iterPos w.heap.size)
  case atStart =>
    exact ⟨0, World.iter_heap w s 0, Lib.hid ((Below.refl _ w).alloc (Nat.le_refl _) _), Lib.hid (by simp), by omega⟩
  case round =>
    obtain ⟨pos, hit, hbw, hacc, hfu⟩ := hrel
    by_cases hp : pos < s.size
    · have hlt : pos < s.toList.length := by rw [← hl]; exact hp
      have hnx : ∀ ty, (Instr.next (.pointer (some ⟨w.heap.size, 0, none⟩)) true ty).run Tryd.prog wr = _ := fun ty => Lib.run_next_ascii_at wr w.heap.size s pos ty hit hp (hA pos hp)
      have hit2 := Lib.iterAt_heap wr w.heap.size s pos (pos + 1) hit
      have hbw2 := Lib.hid (Lib.below_iterAt hbw.out (k := w.heap.size) (by omega) s (pos + 1))
      obtain ⟨d, hd⟩ : ∃ d, d = (s[pos]'hp).toNat := ⟨_, rfl⟩
      have hdl : (s.toList[pos]).toNat = d := by rw [get_list s pos hp hlt, hd]
      rw [← hd] at hnx
      have HD := Lib.hid hdl
      clear hdl hd
      by_cases h1 : (d : Int) = (c : Int)
      · have hdc : d = c := by omega
        rw [hdc] at hnx HD
        clear h1 hdc c1 c2 c3 c4 c5 hl hs hc hA
        go_wp2_with fail
        go_ret
        exact ⟨_, rfl, ⟨fun _ => ⟨_, List.getElem_mem hlt, HD.out⟩, fun _ => by omega⟩, hbw2.out⟩
      · have H1 := Lib.hid h1
        have h2 : ((d : Int) == (c : Int)) = false := by simp; omega
        clear h1 c1 c2 c3 c4 c5
        go_wp2
        refine ⟨⟨pos + 1, hit2, hbw2, Lib.hid ?_, by omega⟩, ?_⟩
        · intro x hx
          rw [List.take_add_one] at hx
          rcases List.mem_append.1 hx with hx | hx
          · exact hacc.out x hx
          · rw [List.getElem?_eq_getElem hlt] at hx
            have : x = s.toList[pos] := by simpa using hx
            rw [this, HD.out]; have := H1.out; omega
        · simp only [World.iterPos, hit2, hit]; omega
    · have hnx : ∀ ty, (Instr.next (.pointer (some ⟨w.heap.size, 0, none⟩)) true ty).run Tryd.prog wr = _ := fun ty => Lib.run_next_end_at wr w.heap.size s pos ty hit hp
      go_wp2
      go_ret
      refine ⟨_, rfl, ⟨fun h => absurd h (by omega), fun ⟨x, hx, he⟩ => ?_⟩, hbw.out⟩
      exact absurd he (hacc.out x (by rw [List.take_of_length_le (by omega)]; exact hx))

set_option maxHeartbeats 1000000 in
theorem zzContainsRune_walk (c : Nat) (hc : c < 128) (s : ByteArray) (hs : s.size ≤ 1000) (hA : Asc s) (w : World) :
    Calls Tryd.prog 76 #[.string s, .int .i32 (c : Int)] w fun e w' => ∃ b : Bool, e = .returned (.bool b) ∧ (b = true ↔ ∃ x ∈ s.toList, x.toNat = c) ∧ Below w.heap.size w w' := by
  have H := Lib.hid (zzIndexRune_walk c hc s hs hA w)
  clear hA hs hc
  go_enter Tryd.func76, Tryd.ntmps76
  go_wp2_with fail
  refine H.out.mono ?_
  rintro e w1 ⟨i, rfl, hi, hb⟩
  have HI := Lib.hid hi
  have HB := Lib.hid hb
  clear hi hb
  go_wp2_with fail
  go_ret
  refine ⟨_, rfl, ?_, HB.out⟩
  rw [← HI.out]; simp

set_option maxHeartbeats 1000000 in
/-- Each byte of s among those of a set. -/
theorem containsOnly_walk (s t : ByteArray) (hs : s.size ≤ 1000) (ht : t.size ≤ 1000) (hA : Asc s) (hB : Asc t) (w : World) :
    Calls Tryd.prog 57 #[.string s, .string t] w fun e w' => ∃ b : Bool, e = .returned (.bool b) ∧ (b = true ↔ ∀ x ∈ s.toList, x ∈ t.toList) ∧ Below w.heap.size w w' := by
  have hl := len_eq s
  have HC : Hid (∀ c : Nat, c < 128 → ∀ W, Calls Tryd.prog 76 #[.string t, .int .i32 (c : Int)] W fun e w' => ∃ b : Bool, e = .returned (.bool b) ∧ (b = true ↔ ∃ x ∈ t.toList, x.toNat = c) ∧ Below W.heap.size W w') := Lib.hid fun c hc W => zzContainsRune_walk c hc t ht hB W
  clear hB ht
  go_enter Tryd.func57, Tryd.ntmps57
  go_wp2
  go_loopw [] (fun wr => ∃ pos : Nat, wr.heap[w.heap.size]? = some (.stringIter s pos) ∧ Hid (Below w.heap.size w wr) ∧ Hid (∀ x ∈ s.toList.take pos, x ∈ t.toList) ∧ pos ≤ s.size) (fun wr => s.size - wr.iterPos w.heap.size)
  case atStart =>
    exact ⟨0, World.iter_heap w s 0, Lib.hid ((Below.refl _ w).alloc (Nat.le_refl _) _), Lib.hid (by simp), by omega⟩
  case round =>
    obtain ⟨pos, hit, hbw, hacc, hfu⟩ := hrel
    by_cases hp : pos < s.size
    · have hlt : pos < s.toList.length := by rw [← hl]; exact hp
      have hd128 := hA pos hp
      have hnx : ∀ ty, (Instr.next (.pointer (some ⟨w.heap.size, 0, none⟩)) true ty).run Tryd.prog wr = _ := fun ty => Lib.run_next_ascii_at wr w.heap.size s pos ty hit hp hd128
      have hit2 := Lib.iterAt_heap wr w.heap.size s pos (pos + 1) hit
      have hbw2 := Lib.hid (Lib.below_iterAt hbw.out (k := w.heap.size) (by omega) s (pos + 1))
      obtain ⟨d, hd⟩ : ∃ d, d = (s[pos]'hp).toNat := ⟨_, rfl⟩
      have hdl : (s.toList[pos]).toNat = d := by rw [get_list s pos hp hlt, hd]
      rw [← hd] at hnx hd128
      have HD := Lib.hid hdl
      clear hdl hd
      have H1 := Lib.hid (HC.out d hd128 (wr.iterAt w.heap.size s (pos + 1)))
      go_wp2_with fail
      refine H1.out.mono ?_
      rintro e w1 ⟨b, rfl, hb, hbb⟩
      have hb1 := Lib.hid (hbw2.out.trans (hbb.mono hbw2.out.size))
      have hk := hbb.block w.heap.size (by exact (Array.getElem?_eq_some_iff.1 hit2).1)
      have hit3 : w1.heap[w.heap.size]? = some (.stringIter s (pos + 1)) := hk.trans hit2
      have HBI := Lib.hid hb
      clear hk hbb hb
      cases b with
      | false =>
        go_wp2_with fail
        go_ret
        refine ⟨_, rfl, ⟨fun h => absurd h (by simp), fun h => ?_⟩, hb1.out⟩
        have := h _ (List.getElem_mem hlt)
        exact absurd (HBI.out.2 ⟨_, this, HD.out⟩) (by simp)
      | true =>
        go_wp2_with fail
        refine ⟨⟨pos + 1, hit3, hb1, Lib.hid ?_, by omega⟩, ?_⟩
        · intro x hx
          rw [List.take_add_one] at hx
          rcases List.mem_append.1 hx with hx | hx
          · exact hacc.out x hx
          · rw [List.getElem?_eq_getElem hlt] at hx
            have e : x = s.toList[pos] := by simpa using hx
            obtain ⟨y, hy, hyd⟩ := HBI.out.1 (by simp)
            have hxd : x.toNat = y.toNat := by rw [e, HD.out, hyd]
            rw [show x = y from UInt8.toNat_inj.1 hxd]; exact hy
        · simp only [World.iterPos, hit3, hit]; omega
    · have hnx : ∀ ty, (Instr.next (.pointer (some ⟨w.heap.size, 0, none⟩)) true ty).run Tryd.prog wr = _ := fun ty => Lib.run_next_end_at wr w.heap.size s pos ty hit hp
      go_wp2
      go_ret
      exact ⟨_, rfl, ⟨fun _ x hx => hacc.out x (by rw [List.take_of_length_le (by omega)]; exact hx), fun _ => rfl⟩, hbw.out⟩
end Go.Proofs.YtmoilbhkjmhoaaaDoor.Sv
