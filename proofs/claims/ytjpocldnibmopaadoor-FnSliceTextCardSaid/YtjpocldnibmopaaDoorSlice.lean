/- Walks of xstrings.Slice and impl.SliceText: what they answer, and where they panic. -/
import Derived.Test.YtjpocldnibmopaaDoorCaught
import Derived.Test.YtjpocldnibmopaaDoorTabs
namespace Go.Proofs.YtjpocldnibmopaaDoor.Giv
open Go.RowKit Go.Proofs.YtjpocldnibmopaaDoorW.PrintWords Go.Proofs.YtjpocldnibmopaaDoor.Txt
set_option linter.unusedVariables false

theorem slice_bad (s : ByteArray) (a e : Int) (w : World) (hs : s.size ≤ 1000) (a0 : -9223372036854775808 ≤ a) (a1 : a ≤ 9223372036854775807) (e0 : -9223372036854775808 ≤ e) (e1 : e ≤ 9223372036854775807)
    (h : a < 0 ∨ (s.size : Int) < e ∨ (0 ≤ e ∧ e < a)) :
    ∃ pv, Calls Tryd.prog 19 #[.string s, .int .i64 a, .int .i64 e] w fun e w' => e = .panicked [{ v := .iface 9 pv, recovered := false }] ∧ Below w.heap.size w w' := by
  refine ⟨.string ⟨#[111, 117, 116, 32, 111, 102, 32, 114, 97, 110, 103, 101]⟩, ?_⟩
  by_cases c1 : a < 0
  · go_enter Tryd.func19, Tryd.ntmps19
    go_wp2_with fail
    exact ⟨rfl, rfl, Below.refl _ _⟩
  · by_cases c2 : (s.size : Int) < e
    · go_enter Tryd.func19, Tryd.ntmps19
      go_wp2_with fail
      exact ⟨rfl, rfl, Below.refl _ _⟩
    · have c3 : 0 ≤ e := by omega
      have c4 : e < a := by omega
      clear h
      go_enter Tryd.func19, Tryd.ntmps19
      go_wp2_with fail
      exact ⟨rfl, rfl, Below.refl _ _⟩

theorem extract_tail (s : ByteArray) (pos d : Nat) (h : pos + d ≤ s.size) : (s.extract pos s.size).extract d (s.size - pos) = s.extract (pos + d) s.size := by
  apply ext_eq
  have hl := len_eq s
  rw [tl_extract, extract_self, extract_self, List.drop_drop, List.take_of_length_le]
  rw [List.length_drop]; omega

theorem slice_far (s : ByteArray) (a : Nat) (e : Int) (w : World) (T : Tabs w) (hs : s.size ≤ 1000) (ha : (a : Int) ≤ 9223372036854775807) (e0 : -9223372036854775808 ≤ e) (he : e ≤ (s.size : Int)) (hae : e < 0 ∨ (a : Int) ≤ e) (h : 0 < (adv s a 0).1) :
    ∃ pv, Calls Tryd.prog 19 #[.string s, .int .i64 (a : Int), .int .i64 e] w fun e w' => e = .panicked [{ v := .iface 9 pv, recovered := false }] ∧ Below w.heap.size w w' := by
  refine ⟨.string ⟨#[111, 117, 116, 32, 111, 102, 32, 114, 97, 110, 103, 101]⟩, ?_⟩
  have HT := Lib.hid T
  have HH := Lib.hid h
  clear T h
  rcases hae with hae | hae
  · go_enter Tryd.func19, Tryd.ntmps19
    go_wp2_with fail
    go_loopg [0, 1, 7, 8] a (fun kq v0 v1 v7 v8 wr => ∃ (pos : Nat) (z : Int), v0 = .string (s.extract pos s.size) ∧ v1 = .int .i64 (kq : Int) ∧ v7 = .int .i64 z ∧ v8 = .int .i64 (pos : Int) ∧ Hid (adv s kq pos = adv s a 0) ∧ Hid (kq ≤ a) ∧ Hid (pos ≤ s.size) ∧ Hid (0 ≤ pos) ∧ Hid (Below w.heap.size w wr))
    case atStart => exact ⟨0, 0, by rw [extract_zero_size], rfl, rfl, rfl, Lib.hid rfl, Lib.hid (Nat.le_refl _), Lib.hid (Nat.zero_le _), Lib.hid (Nat.le_refl _), Lib.hid (Below.refl _ _)⟩
    case round =>
      obtain ⟨pos, z, rfl, rfl, rfl, rfl, H1, H2, H3, H5, H4⟩ := hrel
      have hsz : (s.extract pos s.size).size = s.size - pos := Lib.tail_size s pos
      have h3 := H3.out
      cases gk with
      | zero =>
        exfalso
        have h1 := H1.out
        rw [adv] at h1
        have := HH.out
        rw [← h1] at this
        exact absurd this (by simp)
      | succ n =>
        have hk := H2.out
        by_cases hp : pos < s.size
        · have hd := decode_tail s pos wr (HT.out.below H4.out) hp
          have hw1 := width_pos s pos hp
          have hw2 := wid_le s pos hp
          obtain ⟨d, hd0⟩ : ∃ d, d = wid s pos := ⟨_, rfl⟩
          rw [← hd0] at hd hw2
          have hw3 : 1 ≤ d := by rw [hd0]; exact hw1
          clear hw1
          have HD := Lib.hid hd0
          have Hd := Lib.hid hd
          clear hd hd0
          go_wp2_with fail
          refine Hd.out.mono ?_
          rintro x w' ⟨rfl, hb⟩
          have HB := Lib.hid hb
          clear hb
          go_wp2_with fail
          go_roundg n
          case measure => omega
          case rel =>
            refine ⟨pos + d, d, ?_, rfl, rfl, by rw [Int.natCast_add], Lib.hid ?_, Lib.hid (by omega), Lib.hid hw2, Lib.hid (Nat.le_trans H5.out (Nat.le_add_right _ _)), Lib.hid (H4.out.trans (HB.out.mono H4.out.size))⟩
            · rw [extract_tail s pos d hw2]
            · have := H1.out; rw [adv, if_pos hp] at this; rw [HD.out]; exact this
        · go_wp2_with fail
          exact ⟨rfl, rfl, H4.out⟩
  · go_enter Tryd.func19, Tryd.ntmps19
    go_wp2_with fail
    go_loopg [0, 1, 7, 8] a (fun kq v0 v1 v7 v8 wr => ∃ (pos : Nat) (z : Int), v0 = .string (s.extract pos s.size) ∧ v1 = .int .i64 (kq : Int) ∧ v7 = .int .i64 z ∧ v8 = .int .i64 (pos : Int) ∧ Hid (adv s kq pos = adv s a 0) ∧ Hid (kq ≤ a) ∧ Hid (pos ≤ s.size) ∧ Hid (0 ≤ pos) ∧ Hid (Below w.heap.size w wr))
    case atStart => exact ⟨0, 0, by rw [extract_zero_size], rfl, rfl, rfl, Lib.hid rfl, Lib.hid (Nat.le_refl _), Lib.hid (Nat.zero_le _), Lib.hid (Nat.le_refl _), Lib.hid (Below.refl _ _)⟩
    case round =>
      obtain ⟨pos, z, rfl, rfl, rfl, rfl, H1, H2, H3, H5, H4⟩ := hrel
      have hsz : (s.extract pos s.size).size = s.size - pos := Lib.tail_size s pos
      have h3 := H3.out
      cases gk with
      | zero =>
        exfalso
        have h1 := H1.out
        rw [adv] at h1
        have := HH.out
        rw [← h1] at this
        exact absurd this (by simp)
      | succ n =>
        have hk := H2.out
        by_cases hp : pos < s.size
        · have hd := decode_tail s pos wr (HT.out.below H4.out) hp
          have hw1 := width_pos s pos hp
          have hw2 := wid_le s pos hp
          obtain ⟨d, hd0⟩ : ∃ d, d = wid s pos := ⟨_, rfl⟩
          rw [← hd0] at hd hw2
          have hw3 : 1 ≤ d := by rw [hd0]; exact hw1
          clear hw1
          have HD := Lib.hid hd0
          have Hd := Lib.hid hd
          clear hd hd0
          go_wp2_with fail
          refine Hd.out.mono ?_
          rintro x w' ⟨rfl, hb⟩
          have HB := Lib.hid hb
          clear hb
          go_wp2_with fail
          go_roundg n
          case measure => omega
          case rel =>
            refine ⟨pos + d, d, ?_, rfl, rfl, by rw [Int.natCast_add], Lib.hid ?_, Lib.hid (by omega), Lib.hid hw2, Lib.hid (Nat.le_trans H5.out (Nat.le_add_right _ _)), Lib.hid (H4.out.trans (HB.out.mono H4.out.size))⟩
            · rw [extract_tail s pos d hw2]
            · have := H1.out; rw [adv, if_pos hp] at this; rw [HD.out]; exact this
        · go_wp2_with fail
          exact ⟨rfl, rfl, H4.out⟩
theorem slice_tail (s : ByteArray) (a : Nat) (e : Int) (w : World) (T : Tabs w) (hs : s.size ≤ 1000) (ha : (a : Int) ≤ 9223372036854775807) (e0 : -9223372036854775808 ≤ e) (hae : e < 0) (h : (adv s a 0).1 = 0) :
    Calls Tryd.prog 19 #[.string s, .int .i64 (a : Int), .int .i64 e] w fun e w' => e = .returned (.string (s.extract (adv s a 0).2 s.size)) ∧ Below w.heap.size w w' := by
  have HT := Lib.hid T
  have HH := Lib.hid h
  clear T h
  go_enter Tryd.func19, Tryd.ntmps19
  go_wp2_with fail
  go_loopg [0, 1, 7, 8] a (fun kq v0 v1 v7 v8 wr => ∃ (pos : Nat) (z : Int), v0 = .string (s.extract pos s.size) ∧ v1 = .int .i64 (kq : Int) ∧ v7 = .int .i64 z ∧ v8 = .int .i64 (pos : Int) ∧ Hid (adv s kq pos = adv s a 0) ∧ Hid (kq ≤ a) ∧ Hid (pos ≤ s.size) ∧ Hid (0 ≤ pos) ∧ Hid (Below w.heap.size w wr))
  case atStart => exact ⟨0, 0, by rw [extract_zero_size], rfl, rfl, rfl, Lib.hid rfl, Lib.hid (Nat.le_refl _), Lib.hid (Nat.zero_le _), Lib.hid (Nat.le_refl _), Lib.hid (Below.refl _ _)⟩
  case round =>
    obtain ⟨pos, z, rfl, rfl, rfl, rfl, H1, H2, H3, H5, H4⟩ := hrel
    have hsz : (s.extract pos s.size).size = s.size - pos := Lib.tail_size s pos
    have h3 := H3.out
    cases gk with
    | zero =>
      have h1 := H1.out
      rw [adv] at h1
      go_wp2_with fail
      go_ret
      exact ⟨by rw [← h1]; rfl, H4.out⟩
    | succ n =>
      have hk := H2.out
      by_cases hp : pos < s.size
      · have hd := decode_tail s pos wr (HT.out.below H4.out) hp
        have hw1 := width_pos s pos hp
        have hw2 := wid_le s pos hp
        obtain ⟨d, hd0⟩ : ∃ d, d = wid s pos := ⟨_, rfl⟩
        rw [← hd0] at hd hw2
        have hw3 : 1 ≤ d := by rw [hd0]; exact hw1
        clear hw1
        have HD := Lib.hid hd0
        have Hd := Lib.hid hd
        clear hd hd0
        go_wp2_with fail
        refine Hd.out.mono ?_
        rintro x w' ⟨rfl, hb⟩
        have HB := Lib.hid hb
        clear hb
        go_wp2_with fail
        go_roundg n
        case measure => omega
        case rel =>
          refine ⟨pos + d, d, ?_, rfl, rfl, by rw [Int.natCast_add], Lib.hid ?_, Lib.hid (by omega), Lib.hid hw2, Lib.hid (Nat.le_trans H5.out (Nat.le_add_right _ _)), Lib.hid (H4.out.trans (HB.out.mono H4.out.size))⟩
          · rw [extract_tail s pos d hw2]
          · have := H1.out; rw [adv, if_pos hp] at this; rw [HD.out]; exact this
      · exfalso
        have h1 := H1.out
        rw [adv_end s _ _ hp] at h1
        have := HH.out
        rw [← h1] at this
        exact absurd this (by simp)
theorem slice_far2 (s : ByteArray) (a : Nat) (b P : Nat) (w : World) (T : Tabs w) (hs : s.size ≤ 1000) (ha : (a : Int) ≤ 9223372036854775807) (he : ((a + b : Nat) : Int) ≤ (s.size : Int)) (h0 : (adv s a 0).1 = 0) (hQ : (adv s a 0).2 = P) (h : 0 < (adv s b P).1) :
    ∃ pv, Calls Tryd.prog 19 #[.string s, .int .i64 (a : Int), .int .i64 ((a + b : Nat) : Int)] w fun e w' => e = .panicked [{ v := .iface 9 pv, recovered := false }] ∧ Below w.heap.size w w' := by
  refine ⟨.string ⟨#[111, 117, 116, 32, 111, 102, 32, 114, 97, 110, 103, 101]⟩, ?_⟩
  have HT := Lib.hid T
  have HA := Lib.hid h0
  have HQ := Lib.hid hQ
  have HH := Lib.hid h
  clear T h0 hQ h
  go_enter Tryd.func19, Tryd.ntmps19
  go_wp2_with fail
  go_loopg [0, 1, 7, 8] a (fun kq v0 v1 v7 v8 wr => ∃ (pos : Nat) (z : Int), v0 = .string (s.extract pos s.size) ∧ v1 = .int .i64 (kq : Int) ∧ v7 = .int .i64 z ∧ v8 = .int .i64 (pos : Int) ∧ Hid (adv s kq pos = adv s a 0) ∧ Hid (kq ≤ a) ∧ Hid (pos ≤ s.size) ∧ Hid (0 ≤ pos) ∧ Hid (Below w.heap.size w wr))
  case atStart => exact ⟨0, 0, by rw [extract_zero_size], rfl, rfl, rfl, Lib.hid rfl, Lib.hid (Nat.le_refl _), Lib.hid (Nat.zero_le _), Lib.hid (Nat.le_refl _), Lib.hid (Below.refl _ _)⟩
  case round =>
    obtain ⟨pos, z, rfl, rfl, rfl, rfl, H1, H2, H3, H5, H4⟩ := hrel
    have hsz : (s.extract pos s.size).size = s.size - pos := Lib.tail_size s pos
    have h3 := H3.out
    cases gk with
    | zero =>
      have hP := H1.out
      rw [adv] at hP
      obtain rfl : pos = P := by rw [← HQ.out, ← hP]
      have HW := H4
      have HP := H3
      clear H1 H2 H4 H5 hP HQ
      go_wp2_with fail
      go_loopg [0, 2, 7, 9] b (fun kq v0 v2 v7 v9 wr => ∃ (pos2 : Nat) (z : Int), v0 = .string (s.extract pos2 s.size) ∧ v2 = .int .i64 (kq : Int) ∧ v7 = .int .i64 z ∧ v9 = .int .i64 (pos2 : Int) ∧ Hid (adv s kq pos2 = adv s b pos) ∧ Hid (kq ≤ b) ∧ Hid (pos2 ≤ s.size) ∧ Hid (pos ≤ pos2) ∧ Hid (Below w.heap.size w wr))
      case atStart => exact ⟨pos, z, rfl, by congr 1; omega, rfl, rfl, Lib.hid rfl, Lib.hid (Nat.le_refl _), HP, Lib.hid (Nat.le_refl _), HW⟩
      case round =>
        clear h3 hsz
        obtain ⟨pos2, z2, rfl, rfl, rfl, rfl, H1, H2, H3, H5, H4⟩ := hrel
        have hsz : (s.extract pos2 s.size).size = s.size - pos2 := Lib.tail_size s pos2
        have h3 := H3.out
        cases gk with
        | zero =>
          exfalso
          have h1 := H1.out
          rw [adv] at h1
          have := HH.out
          rw [← h1] at this
          exact absurd this (by simp)
        | succ n =>
          have hk := H2.out
          by_cases hp : pos2 < s.size
          · have hd := decode_tail s pos2 wr (HT.out.below H4.out) hp
            have hw1 := width_pos s pos2 hp
            have hw2 := wid_le s pos2 hp
            obtain ⟨d, hd0⟩ : ∃ d, d = wid s pos2 := ⟨_, rfl⟩
            rw [← hd0] at hd hw2
            have hw3 : 1 ≤ d := by rw [hd0]; exact hw1
            clear hw1
            have HD := Lib.hid hd0
            have Hd := Lib.hid hd
            clear hd hd0
            go_wp2_with fail
            refine Hd.out.mono ?_
            rintro x w' ⟨rfl, hb⟩
            have HB := Lib.hid hb
            clear hb
            go_wp2_with fail
            go_roundg n
            case measure => omega
            case rel =>
              refine ⟨pos2 + d, d, ?_, rfl, rfl, by rw [Int.natCast_add], Lib.hid ?_, Lib.hid (by omega), Lib.hid hw2, Lib.hid (Nat.le_trans H5.out (Nat.le_add_right _ _)), Lib.hid (H4.out.trans (HB.out.mono H4.out.size))⟩
              · rw [extract_tail s pos2 d hw2]
              · have := H1.out; rw [adv, if_pos hp] at this; rw [HD.out]; exact this
          · go_wp2_with fail
            exact ⟨rfl, rfl, H4.out⟩
    | succ n =>
      have hk := H2.out
      by_cases hp : pos < s.size
      · have hd := decode_tail s pos wr (HT.out.below H4.out) hp
        have hw1 := width_pos s pos hp
        have hw2 := wid_le s pos hp
        obtain ⟨d, hd0⟩ : ∃ d, d = wid s pos := ⟨_, rfl⟩
        rw [← hd0] at hd hw2
        have hw3 : 1 ≤ d := by rw [hd0]; exact hw1
        clear hw1
        have HD := Lib.hid hd0
        have Hd := Lib.hid hd
        clear hd hd0
        go_wp2_with fail
        refine Hd.out.mono ?_
        rintro x w' ⟨rfl, hb⟩
        have HB := Lib.hid hb
        clear hb
        go_wp2_with fail
        go_roundg n
        case measure => omega
        case rel =>
          refine ⟨pos + d, d, ?_, rfl, rfl, by rw [Int.natCast_add], Lib.hid ?_, Lib.hid (by omega), Lib.hid hw2, Lib.hid (Nat.le_trans H5.out (Nat.le_add_right _ _)), Lib.hid (H4.out.trans (HB.out.mono H4.out.size))⟩
          · rw [extract_tail s pos d hw2]
          · have := H1.out; rw [adv, if_pos hp] at this; rw [HD.out]; exact this
      · exfalso
        have h1 := H1.out
        rw [adv_end s _ _ hp] at h1
        have := HA.out
        rw [← h1] at this
        exact absurd this (by simp)
theorem slice_mid (s : ByteArray) (a : Nat) (b P : Nat) (w : World) (T : Tabs w) (hs : s.size ≤ 1000) (ha : (a : Int) ≤ 9223372036854775807) (he : ((a + b : Nat) : Int) ≤ (s.size : Int)) (h0 : (adv s a 0).1 = 0) (hQ : (adv s a 0).2 = P) (h : (adv s b P).1 = 0) :
    Calls Tryd.prog 19 #[.string s, .int .i64 (a : Int), .int .i64 ((a + b : Nat) : Int)] w fun e w' => e = .returned (.string (s.extract P (adv s b P).2)) ∧ Below w.heap.size w w' := by
  have HT := Lib.hid T
  have HA := Lib.hid h0
  have HQ := Lib.hid hQ
  have HH := Lib.hid h
  clear T h0 hQ h
  go_enter Tryd.func19, Tryd.ntmps19
  go_wp2_with fail
  go_loopg [0, 1, 7, 8] a (fun kq v0 v1 v7 v8 wr => ∃ (pos : Nat) (z : Int), v0 = .string (s.extract pos s.size) ∧ v1 = .int .i64 (kq : Int) ∧ v7 = .int .i64 z ∧ v8 = .int .i64 (pos : Int) ∧ Hid (adv s kq pos = adv s a 0) ∧ Hid (kq ≤ a) ∧ Hid (pos ≤ s.size) ∧ Hid (0 ≤ pos) ∧ Hid (Below w.heap.size w wr))
  case atStart => exact ⟨0, 0, by rw [extract_zero_size], rfl, rfl, rfl, Lib.hid rfl, Lib.hid (Nat.le_refl _), Lib.hid (Nat.zero_le _), Lib.hid (Nat.le_refl _), Lib.hid (Below.refl _ _)⟩
  case round =>
    obtain ⟨pos, z, rfl, rfl, rfl, rfl, H1, H2, H3, H5, H4⟩ := hrel
    have hsz : (s.extract pos s.size).size = s.size - pos := Lib.tail_size s pos
    have h3 := H3.out
    cases gk with
    | zero =>
      have hP := H1.out
      rw [adv] at hP
      obtain rfl : pos = P := by rw [← HQ.out, ← hP]
      have HW := H4
      have HP := H3
      clear H1 H2 H4 H5 hP HQ
      go_wp2_with fail
      go_loopg [0, 2, 7, 9] b (fun kq v0 v2 v7 v9 wr => ∃ (pos2 : Nat) (z : Int), v0 = .string (s.extract pos2 s.size) ∧ v2 = .int .i64 (kq : Int) ∧ v7 = .int .i64 z ∧ v9 = .int .i64 (pos2 : Int) ∧ Hid (adv s kq pos2 = adv s b pos) ∧ Hid (kq ≤ b) ∧ Hid (pos2 ≤ s.size) ∧ Hid (pos ≤ pos2) ∧ Hid (Below w.heap.size w wr))
      case atStart => exact ⟨pos, z, rfl, by congr 1; omega, rfl, rfl, Lib.hid rfl, Lib.hid (Nat.le_refl _), HP, Lib.hid (Nat.le_refl _), HW⟩
      case round =>
        clear h3 hsz
        obtain ⟨pos2, z2, rfl, rfl, rfl, rfl, H1, H2, H3, H5, H4⟩ := hrel
        have hsz : (s.extract pos2 s.size).size = s.size - pos2 := Lib.tail_size s pos2
        have h3 := H3.out
        cases gk with
        | zero =>
          have h1 := H1.out
          rw [adv] at h1
          have h5 := H5.out
          by_cases hq : pos2 = s.size
          · go_wp2_with fail
            go_ret
            exact ⟨by rw [← h1, hq]; rfl, H4.out⟩
          · have hq2 : pos2 < s.size := by omega
            go_wp2_with fail
            go_ret
            exact ⟨by rw [← h1]; rfl, H4.out⟩
        | succ n =>
          have hk := H2.out
          by_cases hp : pos2 < s.size
          · have hd := decode_tail s pos2 wr (HT.out.below H4.out) hp
            have hw1 := width_pos s pos2 hp
            have hw2 := wid_le s pos2 hp
            obtain ⟨d, hd0⟩ : ∃ d, d = wid s pos2 := ⟨_, rfl⟩
            rw [← hd0] at hd hw2
            have hw3 : 1 ≤ d := by rw [hd0]; exact hw1
            clear hw1
            have HD := Lib.hid hd0
            have Hd := Lib.hid hd
            clear hd hd0
            go_wp2_with fail
            refine Hd.out.mono ?_
            rintro x w' ⟨rfl, hb⟩
            have HB := Lib.hid hb
            clear hb
            go_wp2_with fail
            go_roundg n
            case measure => omega
            case rel =>
              refine ⟨pos2 + d, d, ?_, rfl, rfl, by rw [Int.natCast_add], Lib.hid ?_, Lib.hid (by omega), Lib.hid hw2, Lib.hid (Nat.le_trans H5.out (Nat.le_add_right _ _)), Lib.hid (H4.out.trans (HB.out.mono H4.out.size))⟩
              · rw [extract_tail s pos2 d hw2]
              · have := H1.out; rw [adv, if_pos hp] at this; rw [HD.out]; exact this
          · exfalso
            have h1 := H1.out
            rw [adv_end s _ _ hp] at h1
            have := HH.out
            rw [← h1] at this
            exact absurd this (by simp)
    | succ n =>
      have hk := H2.out
      by_cases hp : pos < s.size
      · have hd := decode_tail s pos wr (HT.out.below H4.out) hp
        have hw1 := width_pos s pos hp
        have hw2 := wid_le s pos hp
        obtain ⟨d, hd0⟩ : ∃ d, d = wid s pos := ⟨_, rfl⟩
        rw [← hd0] at hd hw2
        have hw3 : 1 ≤ d := by rw [hd0]; exact hw1
        clear hw1
        have HD := Lib.hid hd0
        have Hd := Lib.hid hd
        clear hd hd0
        go_wp2_with fail
        refine Hd.out.mono ?_
        rintro x w' ⟨rfl, hb⟩
        have HB := Lib.hid hb
        clear hb
        go_wp2_with fail
        go_roundg n
        case measure => omega
        case rel =>
          refine ⟨pos + d, d, ?_, rfl, rfl, by rw [Int.natCast_add], Lib.hid ?_, Lib.hid (by omega), Lib.hid hw2, Lib.hid (Nat.le_trans H5.out (Nat.le_add_right _ _)), Lib.hid (H4.out.trans (HB.out.mono H4.out.size))⟩
          · rw [extract_tail s pos d hw2]
          · have := H1.out; rw [adv, if_pos hp] at this; rw [HD.out]; exact this
      · exfalso
        have h1 := H1.out
        rw [adv_end s _ _ hp] at h1
        have := HA.out
        rw [← h1] at this
        exact absurd this (by simp)

end Go.Proofs.YtjpocldnibmopaaDoor.Giv
