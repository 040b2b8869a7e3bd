/- A walk of spec.SliceText: what it answers. -/
import Derived.Test.YtjpocldnibmopaaDoorPts
namespace Go.Proofs.YtjpocldnibmopaaDoor.Giv
open Go.RowKit Go.Proofs.YtjpocldnibmopaaDoorW.PrintWords Go.Proofs.YtjpocldnibmopaaDoor.Txt
set_option linter.unusedVariables false

set_option maxHeartbeats 1000000 in
theorem points_row (s : ByteArray) (w : World) (hs : s.size ≤ 35184372088832) :
    Calls Tryd.prog 16 #[.string s] w fun e w' => ∃ cap : Nat, e = .returned (.tuple #[.slice (some ⟨w.heap.size, 0, none⟩) (runes s).length cap, .bool (utf8 s)]) ∧ w'.ownsRow w.heap.size 21 1 (.slice (some ⟨w.heap.size, 0, none⟩) (runes s).length cap) (runes s).length (nums .i32 (runes s)) ∧ (runes s).length ≤ cap ∧ Below w.heap.size w w' := by
  obtain ⟨cap, W1, hcv, hown, hb⟩ := made_runes (P := Tryd.prog) w 9 33 21 s Tryd.underlying9 Tryd.underlying33 Tryd.underlying21 hs
  have hcs := text_runes (P := Tryd.prog) 33 9 21 w.heap.size cap Tryd.underlying33 Tryd.underlying21 Tryd.underlying9 hown
  have hcap : (runes s).length ≤ cap := by
    obtain ⟨_, h | ⟨g, l, c, h, _, _, h2, _⟩⟩ := hown
    · cases h.1
    · cases h; exact h2
  have Hcap := Lib.hid hcap; clear hcap
  have Hown := Lib.hid hown; clear hown
  have Hb := Lib.hid hb; clear hb
  obtain ⟨n, hn⟩ : ∃ n, n = (runes s).length := ⟨_, rfl⟩
  rw [← hn] at hcv hcs
  have Hn := Lib.hid hn; clear hn
  obtain ⟨B, hB⟩ : ∃ B, B = runesBytes (runes s) := ⟨_, rfl⟩
  rw [← hB] at hcs
  have HB := Lib.hid hB; clear hB
  cases h : (B.toList == s.toList)
  · go_enter Tryd.func16, Tryd.ntmps16
    go_wp2_with fail
    go_ret2
    have hd : (decide (B = s) && !repl s) = false := by
      have : ¬ B = s := fun e => by rw [e] at h; simp at h
      simp [this]
    rw [HB.out] at hd
    exact ⟨cap, by unfold utf8; rw [hd, ← Hn.out]; rfl, Hown.out, Hcap.out, Hb.out⟩
  · go_enter Tryd.func16, Tryd.ntmps16
    go_wp2_with fail
    refine (replaced_walk s W1 hs).mono ?_
    rintro e w' ⟨rfl, hb'⟩
    have Hb' := Lib.hid hb'; clear hb'
    go_wp2_with fail
    go_ret2
    have hd : (decide (B = s) && !repl s) = !repl s := by
      have : B = s := ext_eq (by simpa using h)
      simp [this]
    rw [HB.out] at hd
    exact ⟨cap, by unfold utf8; rw [hd, ← Hn.out]; rfl, pw_own_below Hown.out Hb'.out, Hcap.out, Hb.out.trans (Hb'.out.mono Hb.out.size)⟩

/-- 'string(l[a:b])' of a row of runes. -/
theorem text_part {P : Program} {W : World} {base n : Nat} {xs : List Int} (src dst e : TypeId) (g cap cap2 a b : Nat) (hS : P.underlying src = some (.slice e)) (hE : P.underlying e = some (.int .i32)) (hD : P.underlying dst = some .string)
    (hab : a + b ≤ n) (h : W.ownsRow base e 1 (.slice (some ⟨g, 0, none⟩) n cap) n (nums .i32 xs)) :
    (convert src dst (.slice (some ⟨g, a, none⟩) b cap2)).run P W = .ok (.string (runesBytes ((xs.drop a).take b))) W := by
  have hl : xs.length = n := by have := h.1; simpa [nums] using this
  have hb : ((xs.drop a).take b).length = b := by rw [List.length_take, List.length_drop]; omega
  have := run_convert_runes (P := P) W src dst e ⟨g, a, none⟩ b cap2 ((xs.drop a).take b) (by omega) hS hE hD (fun j hj => by
    have hc := h.cells (g := g) rfl (a + j) (.int .i32 (xs.getD (a + j) 0)) (by simp [nums, List.getElem?_eq_getElem (show a + j < xs.length by omega)])
    have e : ((xs.drop a).take b).getD j 0 = xs.getD (a + j) 0 := by
      have hj' : j < b := by omega
      simp [List.getD, List.getElem?_drop, hj']
    have e2 : (⟨g, a, none⟩ : Addr).add j = (⟨g, 0, none⟩ : Addr).add (a + j) := by
      simp only [Addr.add]
      split <;> split <;> simp <;> omega
    rw [e, e2]
    exact hc)
  rw [List.take_of_length_le (Nat.le_of_eq hb)] at this
  exact this

theorem spec_slice_no (s : ByteArray) (a e : Int) (w : World) (hs : s.size ≤ 1000) (h : a < 0 ∨ (e < 0 ∧ ((runes s).length : Int) < a) ∨ (0 ≤ e ∧ (e < a ∨ ((runes s).length : Int) < e))) :
    Calls Tryd.prog 9 #[.string s, .int .i64 a, .int .i64 e] w fun e w' => e = .returned (.tuple #[.string ⟨#[]⟩, .bool false]) ∧ Below w.heap.size w w' := by
  have Hp := Lib.hid (points_row s w (by omega))
  have hz := runes_length s
  obtain ⟨n, hn⟩ : ∃ n, n = (runes s).length := ⟨_, rfl⟩
  rw [← hn] at Hp h hz
  clear hn
  obtain ⟨X, hX⟩ : ∃ X, X = nums .i32 (runes s) := ⟨_, rfl⟩
  rw [← hX] at Hp
  clear hX
  by_cases he : e < 0
  · by_cases ha : a < 0
    · clear h
      go_enter Tryd.func9, Tryd.ntmps9
      go_wp2_with fail
      refine Hp.out.mono ?_
      rintro x w' ⟨cap, rfl, hrow, hcap, hb⟩
      have Hb := Lib.hid hb
      have Hrow := Lib.hid hrow
      clear hb hrow
      go_wp2_with fail
      go_ret2
      exact ⟨rfl, Hb.out⟩
    · have h2 : (n : Int) < a := by omega
      clear h
      go_enter Tryd.func9, Tryd.ntmps9
      go_wp2_with fail
      refine Hp.out.mono ?_
      rintro x w' ⟨cap, rfl, hrow, hcap, hb⟩
      have Hb := Lib.hid hb
      have Hrow := Lib.hid hrow
      clear hb hrow
      go_wp2_with fail
      go_ret2
      exact ⟨rfl, Hb.out⟩
  · by_cases ha : a < 0
    · clear h
      go_enter Tryd.func9, Tryd.ntmps9
      go_wp2_with fail
      refine Hp.out.mono ?_
      rintro x w' ⟨cap, rfl, hrow, hcap, hb⟩
      have Hb := Lib.hid hb
      have Hrow := Lib.hid hrow
      clear hb hrow
      go_wp2_with fail
      go_ret2
      exact ⟨rfl, Hb.out⟩
    · by_cases hc : e < a
      · clear h
        go_enter Tryd.func9, Tryd.ntmps9
        go_wp2_with fail
        refine Hp.out.mono ?_
        rintro x w' ⟨cap, rfl, hrow, hcap, hb⟩
        have Hb := Lib.hid hb
        have Hrow := Lib.hid hrow
        clear hb hrow
        go_wp2_with fail
        go_ret2
        exact ⟨rfl, Hb.out⟩
      · have h2 : (n : Int) < e := by omega
        clear h
        go_enter Tryd.func9, Tryd.ntmps9
        go_wp2_with fail
        refine Hp.out.mono ?_
        rintro x w' ⟨cap, rfl, hrow, hcap, hb⟩
        have Hb := Lib.hid hb
        have Hrow := Lib.hid hrow
        clear hb hrow
        go_wp2_with fail
        go_ret2
        exact ⟨rfl, Hb.out⟩
theorem spec_slice_to (s : ByteArray) (a b : Nat) (w : World) (hs : s.size ≤ 1000) (h : a + b ≤ (runes s).length) :
    Calls Tryd.prog 9 #[.string s, .int .i64 (a : Int), .int .i64 ((a + b : Nat) : Int)] w fun e w' => e = .returned (.tuple #[.string (runesBytes (((runes s).drop a).take b)), .bool true]) ∧ Below w.heap.size w w' := by
  have Hp := Lib.hid (points_row s w (by omega))
  have hz := runes_length s
  obtain ⟨l, hl⟩ : ∃ l, l = runes s := ⟨_, rfl⟩
  rw [← hl] at Hp h hz ⊢
  clear hl
  obtain ⟨n, hn⟩ : ∃ n, n = l.length := ⟨_, rfl⟩
  rw [← hn] at Hp h hz
  clear hn
  obtain ⟨R, hR⟩ : ∃ R, R = runesBytes ((l.drop a).take b) := ⟨_, rfl⟩
  have HR := Lib.hid hR
  rw [← hR]
  clear hR
  go_enter Tryd.func9, Tryd.ntmps9
  go_wp2_with fail
  refine Hp.out.mono ?_
  rintro x w' ⟨cap, rfl, hrow, hcap, hb⟩
  have hcv : ∀ cap2, (convert 33 9 (.slice (some ⟨w.heap.size, a, none⟩) b cap2)).run Tryd.prog w' = .ok (.string R) w' := fun cap2 => by
    rw [HR.out]
    exact text_part 33 9 21 w.heap.size cap cap2 a b Tryd.underlying33 Tryd.underlying21 Tryd.underlying9 h hrow
  have hcv0 : cap = a → ∀ cap2, (convert 33 9 (.slice (some ⟨w.heap.size, 0, none⟩) b cap2)).run Tryd.prog w' = .ok (.string R) w' := fun e cap2 => by
    have h0 : b = 0 := by omega
    rw [HR.out, h0, List.take_zero]
    exact text_part 33 9 21 w.heap.size cap cap2 0 0 Tryd.underlying33 Tryd.underlying21 Tryd.underlying9 (by omega) hrow
  have Hb := Lib.hid hb
  clear hb hrow
  by_cases hca : cap = a
  · have hcv0' := hcv0 hca
    clear hcv0 hcv
    go_wp2_with fail
    go_ret2
    exact ⟨rfl, Hb.out⟩
  · clear hcv0
    go_wp2_with fail
    go_ret2
    exact ⟨rfl, Hb.out⟩
theorem spec_slice_end (s : ByteArray) (a : Nat) (e : Int) (w : World) (hs : s.size ≤ 1000) (he : e < 0) (h : a ≤ (runes s).length) :
    Calls Tryd.prog 9 #[.string s, .int .i64 (a : Int), .int .i64 e] w fun e w' => e = .returned (.tuple #[.string (runesBytes (((runes s).drop a).take ((runes s).length - a))), .bool true]) ∧ Below w.heap.size w w' := by
  have Hp := Lib.hid (points_row s w (by omega))
  have hz := runes_length s
  obtain ⟨l, hl⟩ : ∃ l, l = runes s := ⟨_, rfl⟩
  rw [← hl] at Hp h hz ⊢
  clear hl
  obtain ⟨n, hn⟩ : ∃ n, n = l.length := ⟨_, rfl⟩
  rw [← hn] at Hp h hz ⊢
  clear hn
  obtain ⟨R, hR⟩ : ∃ R, R = runesBytes ((l.drop a).take (n - a)) := ⟨_, rfl⟩
  have HR := Lib.hid hR
  rw [← hR]
  clear hR
  go_enter Tryd.func9, Tryd.ntmps9
  go_wp2_with fail
  refine Hp.out.mono ?_
  rintro x w' ⟨cap, rfl, hrow, hcap, hb⟩
  have hcv : ∀ cap2, (convert 33 9 (.slice (some ⟨w.heap.size, a, none⟩) (n - a) cap2)).run Tryd.prog w' = .ok (.string R) w' := fun cap2 => by
    rw [HR.out]
    exact text_part 33 9 21 w.heap.size cap cap2 a (n - a) Tryd.underlying33 Tryd.underlying21 Tryd.underlying9 (by omega) hrow
  have hcv0 : cap = a → ∀ cap2, (convert 33 9 (.slice (some ⟨w.heap.size, 0, none⟩) (n - a) cap2)).run Tryd.prog w' = .ok (.string R) w' := fun e cap2 => by
    have h0 : (n - a) = 0 := by omega
    rw [HR.out, h0, List.take_zero]
    exact text_part 33 9 21 w.heap.size cap cap2 0 0 Tryd.underlying33 Tryd.underlying21 Tryd.underlying9 (by omega) hrow
  have Hb := Lib.hid hb
  clear hb hrow
  by_cases hca : cap = a
  · have hcv0' := hcv0 hca
    clear hcv0 hcv
    go_wp2_with fail
    go_ret2
    exact ⟨rfl, Hb.out⟩
  · clear hcv0
    go_wp2_with fail
    go_ret2
    exact ⟨rfl, Hb.out⟩

end Go.Proofs.YtjpocldnibmopaaDoor.Giv
