/- A walk of spec.Scrubbed: what it answers. -/
import Derived.Test.YtpkdoinofenahaaDoorScrub
namespace Go.Proofs.YtpkdoinofenahaaDoor.Giv
open Go.RowKit Go.Proofs.YtpkdoinofenahaaDoorW.PrintWords Go.Proofs.YtpkdoinofenahaaDoor.Txt
set_option linter.unusedVariables false
set_option maxRecDepth 20000

theorem enc_good (s : ByteArray) (p : Nat) (hp : p < s.size) (hc : (Utf8.decode s p).1 ≠ 65533) : (runesBytes [((Utf8.decode s p).1 : Int)]).toList = (s.toList.drop p).take (wid s p) := by
  have hl := len_eq s
  have hne : s.toList.drop p ≠ [] := by
    intro e
    have := congrArg List.length e
    rw [List.length_drop] at this
    simp at this; omega
  have := Lib.encode_decode (s.toList.drop p) hne (by rw [decL]; rintro ⟨h1, h2⟩; exact hc h1)
  rw [bytes_flat]
  simp only [List.flatMap_cons, List.flatMap_nil, List.append_nil]
  rw [enc_eq, ← decL s p, this, decL]; rfl

theorem one_rune {P : Program} (src dst e : TypeId) (c : Int) (hS : P.underlying src = some (.slice e)) (hE : P.underlying e = some (.int .i32)) (hD : P.underlying dst = some .string) (W : World) (g : Nat) (h : W.cell? ⟨g, 0, none⟩ = some (.int .i32 c)) :
    (convert src dst (.slice (some ⟨g, 0, none⟩) 1 1)).run P W = .ok (.string (runesBytes [c])) W := by
  have := run_convert_runes (P := P) W src dst e ⟨g, 0, none⟩ 1 1 [c] (by simp) hS hE hD (fun j hj => by
    have hj0 : j = 0 := by simp at hj; exact hj
    subst hj0
    exact h)
  exact this

set_option maxHeartbeats 8000000 in
theorem scrubbed_walk (s other : ByteArray) (w : World) (hs : s.size ≤ 1000) (ho : other.size ≤ 1000) :
    Calls Tryd.prog 15 #[.string s, .string other] w fun e w' => ∃ r : ByteArray, e = .returned (.string r) ∧ r.toList = scrubL s other s.size 0 false ∧ Below w.heap.size w w' := by
  obtain ⟨R, hR⟩ : ∃ R, R = scrubL s other s.size 0 false := ⟨_, rfl⟩
  have HR := Lib.hid hR
  rw [← hR]
  clear hR
  go_enter Tryd.func15, Tryd.ntmps15
  go_wp2_with fail
  go_loopw [5, 6, 7, 8] (fun v5 v6 v7 v8 wr => ∃ (pos fuel : Nat) (acc : ByteArray) (bad : Bool) (x7 x8 : Value), v5 = .string acc ∧ v6 = .bool bad ∧ v7 = x7 ∧ v8 = x8 ∧ wr.heap[w.heap.size]? = some (.stringIter s pos) ∧ Hid (Below w.heap.size w wr) ∧ Hid (R = acc.toList ++ scrubL s other fuel pos bad) ∧ Hid (s.size ≤ pos + fuel) ∧ Hid (pos ≤ s.size) ∧ acc.size ≤ 1000 * pos) (fun _ _ _ _ wr => s.size - wr.iterPos w.heap.size)
  case atStart =>
    exact ⟨0, s.size, _, false, _, _, rfl, rfl, rfl, rfl, World.iter_heap w s 0, Lib.hid ((Below.refl _ w).alloc (Nat.le_refl _) _), Lib.hid (by rw [HR.out]; show _ = ByteArray.empty.toList ++ _; rw [show ByteArray.empty.toList = [] from tl_nil]; rfl), Lib.hid (by omega), Lib.hid (by omega), Nat.zero_le _⟩
  case round =>
    obtain ⟨pos, fuel, acc, bad, x7, x8, rfl, rfl, rfl, rfl, hit, HB, HI, HF, HP, hsz⟩ := hrel
    by_cases hp : pos < s.size
    · have hnx : ∀ ty, (Instr.next (.pointer (some ⟨w.heap.size, 0, none⟩)) true ty).run Tryd.prog wr = _ := fun ty => Lib.run_next_any_at wr w.heap.size s pos ty hit hp
      have hw1 := width_pos s pos hp
      have hw2 := wid_le s pos hp
      have hwd : (Utf8.decode s pos).2 = wid s pos := rfl
      obtain ⟨f, rfl⟩ : ∃ f, fuel = f + 1 := ⟨fuel - 1, by have := HF.out; omega⟩
      have hit2 := Lib.iterAt_heap wr w.heap.size s pos (pos + (Utf8.decode s pos).2) hit
      have hbw2 := Lib.below_iterAt HB.out (k := w.heap.size) (by omega) s (pos + (Utf8.decode s pos).2)
      have SB := Lib.hid (scrubL_bad s other f pos bad hp)
      have SG := Lib.hid (scrubL_good s other f pos bad hp)
      have EG := Lib.hid (enc_good s pos hp)
      have HWD := Lib.hid hwd
      have Hbw2 := Lib.hid hbw2
      rw [hwd] at hnx hit2 hw1
      have Hit2 := Lib.hid hit2
      obtain ⟨d, hd⟩ : ∃ d, d = wid s pos := ⟨_, rfl⟩
      rw [← hd] at hnx Hit2 hw1 hw2
      have HD := Lib.hid hd
      obtain ⟨c, hc⟩ : ∃ c, c = (Utf8.decode s pos).1 := ⟨_, rfl⟩
      rw [← hc] at hnx
      have HC := Lib.hid hc
      clear hwd hbw2 hit2 hd hc
      by_cases h1 : c = 65533
      · subst h1
        cases bad with
        | true =>
          go_wp2_with fail
          refine ⟨⟨pos + d, f, acc, true, _, _, rfl, rfl, rfl, rfl, Hit2.out, Lib.hid (by have := Hbw2.out; rw [HWD.out, ← HD.out] at this; exact this), Lib.hid (by rw [HI.out, SB.out HC.out.symm, ← HD.out]; rfl), Lib.hid (by have := HF.out; omega), Lib.hid hw2, by omega⟩, ?_⟩
          simp only [World.iterPos, Hit2.out, hit]; omega
        | false =>
          go_wp2_with fail
          refine ⟨⟨pos + d, f, acc ++ other, true, _, _, rfl, rfl, rfl, rfl, Hit2.out, Lib.hid (by have := Hbw2.out; rw [HWD.out, ← HD.out] at this; exact this), Lib.hid (by rw [HI.out, SB.out HC.out.symm, ← HD.out, tl_append]; simp), Lib.hid (by have := HF.out; omega), Lib.hid hw2, by rw [ByteArray.size_append]; omega⟩, ?_⟩
          simp only [World.iterPos, Hit2.out, hit]; omega
      · have hB : (runesBytes [(c : Int)]).size ≤ 1000 * d := by
          rw [len_eq, HC.out, EG.out (by rw [← HC.out]; exact h1), List.length_take, ← HD.out]; omega
        obtain ⟨B, hBB⟩ : ∃ B, B = runesBytes [(c : Int)] := ⟨_, rfl⟩
        have hcv := one_rune (P := Tryd.prog) 42 9 21 (c : Int) Tryd.underlying42 Tryd.underlying21 Tryd.underlying9
        rw [← hBB] at hB hcv
        have HBB := Lib.hid hBB
        clear hBB
        have HCV := Lib.hid hcv
        clear hcv
        go_wp2_with fail
        rw [HCV.out _ _ (by rw [Lib.cell_of_heap (heap_alloc_new _ _)]; rfl)]
        simp only [Result.andThen]
        rw [Oper.upon_value]
        go_wp2_with fail
        have Hit3 : ((wr.iterAt w.heap.size s (pos + d)).alloc (Obj.cells #[Value.int IntKind.i32 (c : Int)] 21)).heap[w.heap.size]? = some (Obj.stringIter s (pos + d)) := by
          have h := Hit2.out
          have hlt : w.heap.size < (wr.iterAt w.heap.size s (pos + d)).heap.size := (Array.getElem?_eq_some_iff.1 h).1
          rw [Lib.alloc_old _ _ _ hlt]; exact h
        have hbw := Hbw2.out
        rw [HWD.out, ← HD.out] at hbw
        refine ⟨⟨pos + d, f, acc ++ B, false, _, _, rfl, rfl, rfl, rfl, Hit3, Lib.hid (hbw.alloc hbw.size _), Lib.hid ?_, Lib.hid (by have := HF.out; omega), Lib.hid hw2, by rw [ByteArray.size_append]; omega⟩, ?_⟩
        · rw [HI.out, SG.out (by rw [← HC.out]; exact h1), ← HD.out, tl_append, HBB.out, HC.out, EG.out (by rw [← HC.out]; exact h1), ← HD.out, List.append_assoc]
        · simp only [World.iterPos, Hit3, hit]; omega
    · have hnx : ∀ ty, (Instr.next (.pointer (some ⟨w.heap.size, 0, none⟩)) true ty).run Tryd.prog wr = _ := fun ty => Lib.run_next_end_at wr w.heap.size s pos ty hit hp
      have HE := Lib.hid (scrubL_end s other fuel pos bad hp)
      go_wp2_with fail
      go_ret
      exact ⟨_, rfl, by rw [HI.out, HE.out, List.append_nil], HB.out⟩

/-! ### in the print's form -/
def scrubS (s other : ByteArray) : ByteArray := ⟨(scrubL s other s.size 0 false).toArray⟩
def spec_Scrubbed.f (a0 : ByteArray) (a1 : ByteArray) : Option (ByteArray) := if a0.size ≤ 1000 ∧ a1.size ≤ 1000 then some (scrubS a0 a1) else none
theorem spec_Scrubbed.calls (a0 : ByteArray) (a1 : ByteArray) (r : ByteArray) (w : World) (h : spec_Scrubbed.f a0 a1 = some r) :
    Calls Tryd.prog 15 #[.string a0, .string a1] w fun e w' => e = .returned (.string r) ∧ Below w.heap.size w w' := by
  unfold spec_Scrubbed.f at h
  split at h
  · obtain rfl := Option.some.inj h
    rename_i hb
    refine (scrubbed_walk a0 a1 w hb.1 hb.2).mono ?_
    rintro e w' ⟨r, rfl, hr, hB⟩
    have e : r = scrubS a0 a1 := ext_eq (hr.trans (tl_mk _).symm)
    rw [e]
    exact ⟨rfl, hB⟩
  · exact absurd h (by simp)
def xstrings_Scrub.f (a0 : ByteArray) (a1 : ByteArray) : Option (ByteArray) := if a0.size ≤ 1000 ∧ a1.size ≤ 1000 then some (scrubS a0 a1) else none
theorem xstrings_Scrub.calls (a0 : ByteArray) (a1 : ByteArray) (r : ByteArray) (w : World) (T : Tabs w) (h : xstrings_Scrub.f a0 a1 = some r) :
    Calls Tryd.prog 45 #[.string a0, .string a1] w fun e w' => e = .returned (.string r) ∧ Below w.heap.size w w' := by
  unfold xstrings_Scrub.f at h
  split at h
  · obtain rfl := Option.some.inj h
    rename_i hb
    refine (scrub_walk a0 a1 w hb.1 hb.2 T).mono ?_
    rintro e w' ⟨r, rfl, hr, hB⟩
    have e : r = scrubS a0 a1 := ext_eq (hr.trans (tl_mk _).symm)
    rw [e]
    exact ⟨rfl, hB⟩
  · exact absurd h (by simp)

end Go.Proofs.YtpkdoinofenahaaDoor.Giv
