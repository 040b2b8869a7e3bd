/- Walks of goutils.AbbreviateFull, Abbreviate and sprig's abbrevboth: what they answer, for every text of at most 1000 bytes, places and widths from -1000000 to 1000000. -/
import Derived.Test.YtjpocldnibmopaaProg
import Derived.Test.YtjpocldnibmopaaTxt
import Derived.WalkKit
import Derived.BigCall
import Derived.WalkLawsBesides
import Derived.WalkSpells
import Derived.Outline
import Derived.Lib.Hide
namespace Go.Proofs.Ytjpocldnibmopaa.Giv
set_option linter.unusedVariables false
open Go.RowKit Go.Proofs.YtjpocldnibmopaaW.PrintWords Go.Proofs.Ytjpocldnibmopaa.Txt

def dots : ByteArray := ⟨#[46, 46, 46]⟩
def front (s : ByteArray) (w : Int) : ByteArray := s.extract 0 (w - 3).toNat ++ dots
def tail (s : ByteArray) (w : Int) : ByteArray := dots ++ s.extract ((s.size : Int) - (w - 3)).toNat s.size

theorem not_empty {s : ByteArray} (h : 0 < s.size) : (s.toList == ([] : List UInt8)) = false := by
  have := len_eq s
  cases e : s.toList with
  | nil => rw [e, List.length_nil] at this; omega
  | cons _ _ => rfl
theorem drawn_n (W : World) (n : Nat) : Drawn0 W (W.drewN n) := ⟨⟨n, rfl⟩⟩
set_option maxHeartbeats 1000000 in
theorem full_short (s : ByteArray) (off w : Int) (W : World) (hs : s.size ≤ 1000) (h0 : -1000000 ≤ off) (h1 : off ≤ 1000000) (h4 : 4 ≤ w) (hp : 0 < s.size) (hw : s.size ≤ w) :
    Calls Try.prog 72 #[.string s, .int .i64 off, .int .i64 w] W fun e W' => e = .returned (.tuple #[.string (s), .nilIface]) ∧ Drawn0 W W' := by
  have hne := not_empty (s := s) (by omega)
  go_enter Try.func72, Try.ntmps72
  go_wp2_with fail
  go_ret2
  exact ⟨rfl, by repeat (first | exact Drawn0.refl _ | apply Drawn0.step)⟩
set_option maxHeartbeats 1000000 in
theorem full_front1 (s : ByteArray) (off w : Int) (W : World) (hs : s.size ≤ 1000) (h0 : -1000000 ≤ off) (h1 : off ≤ 1000000) (h4 : 4 ≤ w) (hw : w < s.size) (c1 : (s.size : Int) < off) (c2 : (s.size : Int) - (w - 3) ≤ 4) :
    Calls Try.prog 72 #[.string s, .int .i64 off, .int .i64 w] W fun e W' => e = .returned (.tuple #[.string (front s w), .nilIface]) ∧ Drawn0 W W' := by
  have hne := not_empty (s := s) (by omega)
  go_enter Try.func72, Try.ntmps72
  go_wp2_with fail
  go_ret2
  exact ⟨rfl, by repeat (first | exact Drawn0.refl _ | apply Drawn0.step)⟩
set_option maxHeartbeats 1000000 in
theorem full_tail1 (s : ByteArray) (off w : Int) (W : World) (hs : s.size ≤ 1000) (h0 : -1000000 ≤ off) (h1 : off ≤ 1000000) (h4 : 4 ≤ w) (hw : w < s.size) (c1 : (s.size : Int) < off) (c2 : 4 < (s.size : Int) - (w - 3)) (h7 : 7 ≤ w) :
    Calls Try.prog 72 #[.string s, .int .i64 off, .int .i64 w] W fun e W' => e = .returned (.tuple #[.string (tail s w), .nilIface]) ∧ Drawn0 W W' := by
  have hne := not_empty (s := s) (by omega)
  go_enter Try.func72, Try.ntmps72
  go_wp2_with fail
  go_ret2
  exact ⟨rfl, by repeat (first | exact Drawn0.refl _ | apply Drawn0.step)⟩
set_option maxHeartbeats 1000000 in
theorem full_front2 (s : ByteArray) (off w : Int) (W : World) (hs : s.size ≤ 1000) (h0 : -1000000 ≤ off) (h1 : off ≤ 1000000) (h4 : 4 ≤ w) (hw : w < s.size) (c1 : off ≤ (s.size : Int)) (c3 : (s.size : Int) - off < w - 3) (c2 : (s.size : Int) - (w - 3) ≤ 4) :
    Calls Try.prog 72 #[.string s, .int .i64 off, .int .i64 w] W fun e W' => e = .returned (.tuple #[.string (front s w), .nilIface]) ∧ Drawn0 W W' := by
  have hne := not_empty (s := s) (by omega)
  go_enter Try.func72, Try.ntmps72
  go_wp2_with fail
  go_ret2
  exact ⟨rfl, by repeat (first | exact Drawn0.refl _ | apply Drawn0.step)⟩
set_option maxHeartbeats 1000000 in
theorem full_tail2 (s : ByteArray) (off w : Int) (W : World) (hs : s.size ≤ 1000) (h0 : -1000000 ≤ off) (h1 : off ≤ 1000000) (h4 : 4 ≤ w) (hw : w < s.size) (c1 : off ≤ (s.size : Int)) (c3 : (s.size : Int) - off < w - 3) (c2 : 4 < (s.size : Int) - (w - 3)) (h7 : 7 ≤ w) :
    Calls Try.prog 72 #[.string s, .int .i64 off, .int .i64 w] W fun e W' => e = .returned (.tuple #[.string (tail s w), .nilIface]) ∧ Drawn0 W W' := by
  have hne := not_empty (s := s) (by omega)
  go_enter Try.func72, Try.ntmps72
  go_wp2_with fail
  go_ret2
  exact ⟨rfl, by repeat (first | exact Drawn0.refl _ | apply Drawn0.step)⟩
set_option maxHeartbeats 1000000 in
theorem full_front3 (s : ByteArray) (off w : Int) (W : World) (hs : s.size ≤ 1000) (h0 : -1000000 ≤ off) (h1 : off ≤ 1000000) (h4 : 4 ≤ w) (hw : w < s.size) (c1 : off ≤ (s.size : Int)) (c3 : w - 3 ≤ (s.size : Int) - off) (c2 : off ≤ 4) :
    Calls Try.prog 72 #[.string s, .int .i64 off, .int .i64 w] W fun e W' => e = .returned (.tuple #[.string (front s w), .nilIface]) ∧ Drawn0 W W' := by
  have hne := not_empty (s := s) (by omega)
  go_enter Try.func72, Try.ntmps72
  go_wp2_with fail
  go_ret2
  exact ⟨rfl, by repeat (first | exact Drawn0.refl _ | apply Drawn0.step)⟩
set_option maxHeartbeats 1000000 in
theorem full_tail3 (s : ByteArray) (off w : Int) (W : World) (hs : s.size ≤ 1000) (h0 : -1000000 ≤ off) (h1 : off ≤ 1000000) (h4 : 4 ≤ w) (hw : w < s.size) (c1 : off ≤ (s.size : Int)) (c3 : w - 3 ≤ (s.size : Int) - off) (c2 : 4 < off) (h7 : 7 ≤ w) (c5 : (s.size : Int) ≤ off + w - 3) :
    Calls Try.prog 72 #[.string s, .int .i64 off, .int .i64 w] W fun e W' => e = .returned (.tuple #[.string (tail s w), .nilIface]) ∧ Drawn0 W W' := by
  have hne := not_empty (s := s) (by omega)
  go_enter Try.func72, Try.ntmps72
  go_wp2_with fail
  go_ret2
  exact ⟨rfl, by repeat (first | exact Drawn0.refl _ | apply Drawn0.step)⟩
/-- The inner call's answer. -/
def abbr0 (t : ByteArray) (w : Int) : ByteArray := if t.size ≤ w then t else front t w
theorem inner (s : ByteArray) (w : Int) (W : World) (hs : s.size ≤ 1000) (h1 : w ≤ 1000000) (h4 : 4 ≤ w) (hp : 0 < s.size) :
    Calls Try.prog 76 #[.string s, .int .i64 w] W fun e W' => e = .returned (.tuple #[.string (abbr0 s w), .nilIface]) ∧ Drawn0 W W' := by
  have hc : ∀ W : World, Calls Try.prog 72 #[.string s, .int .i64 0, .int .i64 w] W fun e W' => e = .returned (.tuple #[.string (abbr0 s w), .nilIface]) ∧ Drawn0 W W' := by
    intro W
    unfold abbr0
    by_cases h : (s.size : Int) ≤ w
    · rw [if_pos h]; exact full_short s 0 w W hs (by omega) (by omega) h4 hp h
    · rw [if_neg h]; exact full_front3 s 0 w W hs (by omega) (by omega) h4 (by omega) (by omega) (by omega) (by omega)
  have Hc := Lib.hid hc
  clear hc
  go_enter Try.func76, Try.ntmps76
  go_wp2_with fail
  refine (Hc.out _).mono ?_
  rintro e w' ⟨rfl, ⟨nd, rfl⟩⟩
  go_wp2_with fail
  go_ret2
  exact ⟨rfl, by repeat (first | exact Drawn0.refl _ | apply Drawn0.step)⟩
def both (s : ByteArray) (off w : Int) : ByteArray := dots ++ abbr0 (s.extract off.toNat s.size) (w - 3)
set_option maxHeartbeats 1000000 in
theorem full_both (s : ByteArray) (off w : Int) (W : World) (hs : s.size ≤ 1000) (h0 : -1000000 ≤ off) (h1 : off ≤ 1000000) (h4 : 4 ≤ w) (hw : w < s.size) (c1 : off ≤ (s.size : Int)) (c2 : 4 < off) (h7 : 7 ≤ w) (c5 : off + w - 3 < (s.size : Int)) :
    Calls Try.prog 72 #[.string s, .int .i64 off, .int .i64 w] W fun e W' => e = .returned (.tuple #[.string (both s off w), .nilIface]) ∧ Drawn0 W W' := by
  have hne := not_empty (s := s) (by omega)
  have hsz : (s.extract off.toNat s.size).size = s.size - off.toNat := size_extract _ _ _ (by omega) (by omega)
  have hi := fun W => inner (s.extract off.toNat s.size) (w - 3) W (by omega) (by omega) (by omega) (by omega)
  unfold both
  obtain ⟨r, hr⟩ : ∃ r, r = abbr0 (s.extract off.toNat s.size) (w - 3) := ⟨_, rfl⟩
  have hz : r.size ≤ 5000 := by
    rw [hr]; unfold abbr0 front
    split
    · omega
    · rw [size_append, len_eq (ByteArray.extract _ _ _), extract_upto, List.length_take, ← len_eq]
      have : dots.size = 3 := rfl
      omega
  rw [← hr] at hi ⊢
  have Hi := Lib.hid hi
  clear hi hr hsz
  go_enter Try.func72, Try.ntmps72
  go_wp2_with fail
  refine (Hi.out _).mono ?_
  rintro e w' ⟨rfl, ⟨nd, rfl⟩⟩
  go_wp2_with fail
  go_ret2
  exact ⟨rfl, by repeat (first | exact Drawn0.refl _ | apply Drawn0.step)⟩

/-- What abbrevboth answers. -/
def abbB (off w : Int) (s : ByteArray) : ByteArray :=
  if w < 4 ∨ (0 < off ∧ w < 7) ∨ s.size ≤ w then s
  else if (if (s.size : Int) - (if (s.size : Int) < off then (s.size : Int) else off) < w - 3 then (s.size : Int) - (w - 3) else off) ≤ 4 then front s w
  else if off ≤ (s.size : Int) ∧ off + w - 3 < (s.size : Int) then both s off w else tail s w

theorem full_any (s : ByteArray) (off w : Int) (W : World) (hs : s.size ≤ 1000) (h0 : -1000000 ≤ off) (h1 : off ≤ 1000000) (h4 : 4 ≤ w) (hw' : w ≤ 1000000) (hp : 0 < s.size) (h7 : off ≤ 0 ∨ 7 ≤ w) :
    Calls Try.prog 72 #[.string s, .int .i64 off, .int .i64 w] W fun e W' => e = .returned (.tuple #[.string (abbB off w s), .nilIface]) ∧ Drawn0 W W' := by
  unfold abbB
  by_cases hw : (s.size : Int) ≤ w
  · rw [if_pos (by omega)]; exact full_short s off w W hs h0 h1 h4 hp hw
  rw [if_neg (by omega)]
  by_cases c1 : (s.size : Int) < off
  · simp only [if_pos c1]
    rw [if_pos (show (s.size : Int) - (s.size : Int) < w - 3 by omega)]
    by_cases c2 : (s.size : Int) - (w - 3) ≤ 4
    · rw [if_pos c2]; exact full_front1 s off w W hs h0 h1 h4 (by omega) c1 c2
    · rw [if_neg c2, if_neg (by omega)]; exact full_tail1 s off w W hs h0 h1 h4 (by omega) c1 (by omega) (by omega)
  · simp only [if_neg c1]
    by_cases c3 : (s.size : Int) - off < w - 3
    · simp only [if_pos c3]
      by_cases c2 : (s.size : Int) - (w - 3) ≤ 4
      · rw [if_pos c2]; exact full_front2 s off w W hs h0 h1 h4 (by omega) (by omega) c3 c2
      · rw [if_neg c2, if_neg (by omega)]; exact full_tail2 s off w W hs h0 h1 h4 (by omega) (by omega) c3 (by omega) (by omega)
    · simp only [if_neg c3]
      by_cases c2 : off ≤ 4
      · rw [if_pos c2]; exact full_front3 s off w W hs h0 h1 h4 (by omega) (by omega) (by omega) c2
      · rw [if_neg c2]
        by_cases c5 : off + w - 3 < (s.size : Int)
        · rw [if_pos ⟨by omega, c5⟩]; exact full_both s off w W hs h0 h1 h4 (by omega) (by omega) (by omega) (by omega) c5
        · rw [if_neg (by omega)]; exact full_tail3 s off w W hs h0 h1 h4 (by omega) (by omega) (by omega) (by omega) (by omega) (by omega)
theorem full_empty (s : ByteArray) (off w : Int) (W : World) (hp : s.size = 0) :
    Calls Try.prog 72 #[.string s, .int .i64 off, .int .i64 w] W fun e W' => e = .returned (.tuple #[.string s, .nilIface]) ∧ Drawn0 W W' := by
  have hl := len_eq s
  have he : s.toList = [] := List.length_eq_zero_iff.1 (by omega)
  obtain rfl : s = ⟨#[]⟩ := ext_eq (by rw [he, tl_nil])
  clear hl he hp
  go_enter Try.func72, Try.ntmps72
  go_wp2_with fail
  go_ret2
  exact ⟨rfl, by repeat (first | exact Drawn0.refl _ | apply Drawn0.step)⟩

def sprig_abbrevboth.f (a0 : Int) (a1 : Int) (a2 : ByteArray) : Option (ByteArray) := if -1000000 ≤ a0 ∧ a0 ≤ 1000000 ∧ -1000000 ≤ a1 ∧ a1 ≤ 1000000 ∧ a2.size ≤ 1000 then some (abbB a0 a1 a2) else none
set_option maxHeartbeats 1000000 in
theorem sprig_abbrevboth.calls (a0 : Int) (a1 : Int) (a2 : ByteArray) (r : ByteArray) (w : World) (h : sprig_abbrevboth.f a0 a1 a2 = some r) :
    Calls Try.prog 66 #[.int .i64 a0, .int .i64 a1, .string a2] w fun e w' => e = .returned (.string r) ∧ Drawn0 w w' := by
  unfold sprig_abbrevboth.f at h
  split at h
  case isFalse => exact absurd h (by simp)
  rename_i hb
  obtain ⟨b1, b2, b3, b4, b5⟩ := hb
  obtain rfl := Option.some.inj h
  clear h
  by_cases h4 : a1 < 4
  · have hr : abbB a0 a1 a2 = a2 := by unfold abbB; rw [if_pos (.inl h4)]
    rw [hr]
    clear hr
    go_enter Try.func66, Try.ntmps66
    go_wp2_with fail
    go_ret
    exact ⟨rfl, by repeat (first | exact Drawn0.refl _ | apply Drawn0.step)⟩
  by_cases h7 : 0 < a0 ∧ a1 < 7
  · have hr : abbB a0 a1 a2 = a2 := by unfold abbB; rw [if_pos (.inr (.inl h7))]
    rw [hr]
    clear hr
    obtain ⟨g1, g2⟩ := h7
    go_enter Try.func66, Try.ntmps66
    go_wp2_with fail
    go_ret
    exact ⟨rfl, by repeat (first | exact Drawn0.refl _ | apply Drawn0.step)⟩
  have hc : ∀ W, Calls Try.prog 72 #[.string a2, .int .i64 a0, .int .i64 a1] W fun e W' => e = .returned (.tuple #[.string (abbB a0 a1 a2), .nilIface]) ∧ Drawn0 W W' := by
    intro W
    by_cases hp : a2.size = 0
    · have hr : abbB a0 a1 a2 = a2 := by unfold abbB; rw [if_pos (by omega)]
      rw [hr]; exact full_empty a2 a0 a1 W hp
    · exact full_any a2 a0 a1 W b5 b1 b2 (by omega) b4 (by omega) (by omega)
  obtain ⟨r, hr⟩ : ∃ r, r = abbB a0 a1 a2 := ⟨_, rfl⟩
  rw [← hr] at hc ⊢
  have Hc := Lib.hid hc
  clear hc hr
  by_cases g : 0 < a0
  · have g2 : ¬ a1 < 7 := fun h => h7 ⟨g, h⟩
    clear h7
    go_enter Try.func66, Try.ntmps66
    go_wp2_with fail
    refine (Hc.out _).mono ?_
    rintro e w' ⟨rfl, ⟨nd, rfl⟩⟩
    go_wp2_with fail
    go_ret
    exact ⟨rfl, by repeat (first | exact Drawn0.refl _ | apply Drawn0.step)⟩
  · clear h7
    go_enter Try.func66, Try.ntmps66
    go_wp2_with fail
    refine (Hc.out _).mono ?_
    rintro e w' ⟨rfl, ⟨nd, rfl⟩⟩
    go_wp2_with fail
    go_ret
    exact ⟨rfl, by repeat (first | exact Drawn0.refl _ | apply Drawn0.step)⟩

/-! ### the reference -/
set_option maxHeartbeats 1000000 in
theorem spec_small (s : ByteArray) (off w : Int) (W : World) (hs : s.size ≤ 1000) (h0 : -1000000 ≤ off) (h1 : off ≤ 1000000) (h2 : -1000000 ≤ w) (h3 : w ≤ 1000000) (hp : 0 < s.size) (h4 : w < 4) :
    Calls Try.prog 28 #[.string s, .int .i64 off, .int .i64 w] W fun e W' => e = .returned (.tuple #[.string (⟨#[]⟩), .bool false, .bool true]) ∧ Drawn0 W W' := by
  have hne := not_empty (s := s) (by omega)
  go_enter Try.func28, Try.ntmps28
  go_wp2_with fail
  go_ret3
  exact ⟨rfl, by repeat (first | exact Drawn0.refl _ | apply Drawn0.step)⟩
set_option maxHeartbeats 1000000 in
theorem spec_unsure (s : ByteArray) (off w : Int) (W : World) (hs : s.size ≤ 1000) (h0 : -1000000 ≤ off) (h1 : off ≤ 1000000) (h2 : -1000000 ≤ w) (h3 : w ≤ 1000000) (hp : 0 < s.size) (h4 : 4 ≤ w) (c1 : 0 < off) (c2 : w < 7) :
    Calls Try.prog 28 #[.string s, .int .i64 off, .int .i64 w] W fun e W' => e = .returned (.tuple #[.string (⟨#[]⟩), .bool false, .bool false]) ∧ Drawn0 W W' := by
  have hne := not_empty (s := s) (by omega)
  go_enter Try.func28, Try.ntmps28
  go_wp2_with fail
  go_ret3
  exact ⟨rfl, by repeat (first | exact Drawn0.refl _ | apply Drawn0.step)⟩
set_option maxHeartbeats 1000000 in
theorem spec_short_a (s : ByteArray) (off w : Int) (W : World) (hs : s.size ≤ 1000) (h0 : -1000000 ≤ off) (h1 : off ≤ 1000000) (h2 : -1000000 ≤ w) (h3 : w ≤ 1000000) (hp : 0 < s.size) (h4 : 4 ≤ w) (hw : s.size ≤ w) (g : 0 < off) (g7 : 7 ≤ w) :
    Calls Try.prog 28 #[.string s, .int .i64 off, .int .i64 w] W fun e W' => e = .returned (.tuple #[.string (s), .bool true, .bool true]) ∧ Drawn0 W W' := by
  have hne := not_empty (s := s) (by omega)
  go_enter Try.func28, Try.ntmps28
  go_wp2_with fail
  go_ret3
  exact ⟨rfl, by repeat (first | exact Drawn0.refl _ | apply Drawn0.step)⟩
set_option maxHeartbeats 1000000 in
theorem spec_front1 (s : ByteArray) (off w : Int) (W : World) (hs : s.size ≤ 1000) (h0 : -1000000 ≤ off) (h1 : off ≤ 1000000) (h2 : -1000000 ≤ w) (h3 : w ≤ 1000000) (h4 : 4 ≤ w) (hw : w < s.size) (g : 0 < off) (g7 : 7 ≤ w) (c1 : (s.size : Int) < off) (c2 : (s.size : Int) - (w - 3) ≤ 4) :
    Calls Try.prog 28 #[.string s, .int .i64 off, .int .i64 w] W fun e W' => e = .returned (.tuple #[.string (front s w), .bool true, .bool true]) ∧ Drawn0 W W' := by
  have hne := not_empty (s := s) (by omega)
  go_enter Try.func28, Try.ntmps28
  go_wp2_with fail
  go_ret3
  exact ⟨rfl, by repeat (first | exact Drawn0.refl _ | apply Drawn0.step)⟩
set_option maxHeartbeats 1000000 in
theorem spec_tail1 (s : ByteArray) (off w : Int) (W : World) (hs : s.size ≤ 1000) (h0 : -1000000 ≤ off) (h1 : off ≤ 1000000) (h2 : -1000000 ≤ w) (h3 : w ≤ 1000000) (h4 : 4 ≤ w) (hw : w < s.size) (g : 0 < off) (g7 : 7 ≤ w) (c1 : (s.size : Int) < off) (c2 : 4 < (s.size : Int) - (w - 3)) :
    Calls Try.prog 28 #[.string s, .int .i64 off, .int .i64 w] W fun e W' => e = .returned (.tuple #[.string (tail s w), .bool true, .bool true]) ∧ Drawn0 W W' := by
  have hne := not_empty (s := s) (by omega)
  go_enter Try.func28, Try.ntmps28
  go_wp2_with fail
  go_ret3
  exact ⟨rfl, by repeat (first | exact Drawn0.refl _ | apply Drawn0.step)⟩
set_option maxHeartbeats 1000000 in
theorem spec_front2 (s : ByteArray) (off w : Int) (W : World) (hs : s.size ≤ 1000) (h0 : -1000000 ≤ off) (h1 : off ≤ 1000000) (h2 : -1000000 ≤ w) (h3 : w ≤ 1000000) (h4 : 4 ≤ w) (hw : w < s.size) (g : 0 < off) (g7 : 7 ≤ w) (c1 : off ≤ (s.size : Int)) (c3 : (s.size : Int) - off < w - 3) (c2 : (s.size : Int) - (w - 3) ≤ 4) :
    Calls Try.prog 28 #[.string s, .int .i64 off, .int .i64 w] W fun e W' => e = .returned (.tuple #[.string (front s w), .bool true, .bool true]) ∧ Drawn0 W W' := by
  have hne := not_empty (s := s) (by omega)
  go_enter Try.func28, Try.ntmps28
  go_wp2_with fail
  go_ret3
  exact ⟨rfl, by repeat (first | exact Drawn0.refl _ | apply Drawn0.step)⟩
set_option maxHeartbeats 1000000 in
theorem spec_tail2 (s : ByteArray) (off w : Int) (W : World) (hs : s.size ≤ 1000) (h0 : -1000000 ≤ off) (h1 : off ≤ 1000000) (h2 : -1000000 ≤ w) (h3 : w ≤ 1000000) (h4 : 4 ≤ w) (hw : w < s.size) (g : 0 < off) (g7 : 7 ≤ w) (c1 : off ≤ (s.size : Int)) (c3 : (s.size : Int) - off < w - 3) (c2 : 4 < (s.size : Int) - (w - 3)) :
    Calls Try.prog 28 #[.string s, .int .i64 off, .int .i64 w] W fun e W' => e = .returned (.tuple #[.string (tail s w), .bool true, .bool true]) ∧ Drawn0 W W' := by
  have hne := not_empty (s := s) (by omega)
  go_enter Try.func28, Try.ntmps28
  go_wp2_with fail
  go_ret3
  exact ⟨rfl, by repeat (first | exact Drawn0.refl _ | apply Drawn0.step)⟩
set_option maxHeartbeats 1000000 in
theorem spec_front3a (s : ByteArray) (off w : Int) (W : World) (hs : s.size ≤ 1000) (h0 : -1000000 ≤ off) (h1 : off ≤ 1000000) (h2 : -1000000 ≤ w) (h3 : w ≤ 1000000) (h4 : 4 ≤ w) (hw : w < s.size) (g : 0 < off) (g7 : 7 ≤ w) (c1 : off ≤ (s.size : Int)) (c3 : w - 3 ≤ (s.size : Int) - off) (c2 : off ≤ 4) :
    Calls Try.prog 28 #[.string s, .int .i64 off, .int .i64 w] W fun e W' => e = .returned (.tuple #[.string (front s w), .bool true, .bool true]) ∧ Drawn0 W W' := by
  have hne := not_empty (s := s) (by omega)
  go_enter Try.func28, Try.ntmps28
  go_wp2_with fail
  go_ret3
  exact ⟨rfl, by repeat (first | exact Drawn0.refl _ | apply Drawn0.step)⟩
set_option maxHeartbeats 1000000 in
theorem spec_tail3 (s : ByteArray) (off w : Int) (W : World) (hs : s.size ≤ 1000) (h0 : -1000000 ≤ off) (h1 : off ≤ 1000000) (h2 : -1000000 ≤ w) (h3 : w ≤ 1000000) (h4 : 4 ≤ w) (hw : w < s.size) (g : 0 < off) (g7 : 7 ≤ w) (c1 : off ≤ (s.size : Int)) (c3 : w - 3 ≤ (s.size : Int) - off) (c2 : 4 < off) (c5 : (s.size : Int) ≤ off + w - 3) :
    Calls Try.prog 28 #[.string s, .int .i64 off, .int .i64 w] W fun e W' => e = .returned (.tuple #[.string (tail s w), .bool true, .bool true]) ∧ Drawn0 W W' := by
  have hne := not_empty (s := s) (by omega)
  go_enter Try.func28, Try.ntmps28
  go_wp2_with fail
  go_ret3
  exact ⟨rfl, by repeat (first | exact Drawn0.refl _ | apply Drawn0.step)⟩
set_option maxHeartbeats 1000000 in
theorem spec_short_b (s : ByteArray) (off w : Int) (W : World) (hs : s.size ≤ 1000) (h0 : -1000000 ≤ off) (h1 : off ≤ 1000000) (h2 : -1000000 ≤ w) (h3 : w ≤ 1000000) (hp : 0 < s.size) (h4 : 4 ≤ w) (hw : s.size ≤ w) (g : off ≤ 0) :
    Calls Try.prog 28 #[.string s, .int .i64 off, .int .i64 w] W fun e W' => e = .returned (.tuple #[.string (s), .bool true, .bool true]) ∧ Drawn0 W W' := by
  have hne := not_empty (s := s) (by omega)
  go_enter Try.func28, Try.ntmps28
  go_wp2_with fail
  go_ret3
  exact ⟨rfl, by repeat (first | exact Drawn0.refl _ | apply Drawn0.step)⟩
set_option maxHeartbeats 1000000 in
theorem spec_front3b (s : ByteArray) (off w : Int) (W : World) (hs : s.size ≤ 1000) (h0 : -1000000 ≤ off) (h1 : off ≤ 1000000) (h2 : -1000000 ≤ w) (h3 : w ≤ 1000000) (h4 : 4 ≤ w) (hw : w < s.size) (g : off ≤ 0) (c1 : off ≤ (s.size : Int)) (c3 : w - 3 ≤ (s.size : Int) - off) (c2 : off ≤ 4) :
    Calls Try.prog 28 #[.string s, .int .i64 off, .int .i64 w] W fun e W' => e = .returned (.tuple #[.string (front s w), .bool true, .bool true]) ∧ Drawn0 W W' := by
  have hne := not_empty (s := s) (by omega)
  go_enter Try.func28, Try.ntmps28
  go_wp2_with fail
  go_ret3
  exact ⟨rfl, by repeat (first | exact Drawn0.refl _ | apply Drawn0.step)⟩

theorem spec_abbr0 (s : ByteArray) (w : Int) (W : World) (hs : s.size ≤ 1000) (h1 : w ≤ 1000000) (h4 : 4 ≤ w) (hp : 0 < s.size) :
    Calls Try.prog 28 #[.string s, .int .i64 0, .int .i64 w] W fun e W' => e = .returned (.tuple #[.string (abbr0 s w), .bool true, .bool true]) ∧ Drawn0 W W' := by
  unfold abbr0
  by_cases h : (s.size : Int) ≤ w
  · rw [if_pos h]; exact spec_short_b s 0 w W hs (by omega) (by omega) (by omega) (by omega) hp h4 h (by omega)
  · rw [if_neg h]; exact spec_front3b s 0 w W hs (by omega) (by omega) (by omega) (by omega) h4 (by omega) (by omega) (by omega) (by omega) (by omega)
theorem abbr0_size (t : ByteArray) (w : Int) (ht : t.size ≤ 1000) : (abbr0 t w).size ≤ 5000 := by
  unfold abbr0 front
  split
  · omega
  · rw [size_append, len_eq (ByteArray.extract _ _ _), extract_upto, List.length_take, ← len_eq]
    have : dots.size = 3 := rfl
    omega
set_option maxHeartbeats 1000000 in
theorem spec_both (s : ByteArray) (off w : Int) (W : World) (hs : s.size ≤ 1000) (h0 : -1000000 ≤ off) (h1 : off ≤ 1000000) (h2 : -1000000 ≤ w) (h3 : w ≤ 1000000) (hw : w < s.size) (c1 : off ≤ (s.size : Int)) (c2 : 4 < off) (h7 : 7 ≤ w) (c5 : off + w - 3 < (s.size : Int)) :
    Calls Try.prog 28 #[.string s, .int .i64 off, .int .i64 w] W fun e W' => e = .returned (.tuple #[.string (both s off w), .bool true, .bool true]) ∧ Drawn0 W W' := by
  have hne := not_empty (s := s) (by omega)
  have hsz : (s.extract off.toNat s.size).size = s.size - off.toNat := size_extract _ _ _ (by omega) (by omega)
  have hi := fun W => spec_abbr0 (s.extract off.toNat s.size) (w - 3) W (by omega) (by omega) (by omega) (by omega)
  have hz := abbr0_size (s.extract off.toNat s.size) (w - 3) (by omega)
  unfold both
  obtain ⟨r, hr⟩ : ∃ r, r = abbr0 (s.extract off.toNat s.size) (w - 3) := ⟨_, rfl⟩
  rw [← hr] at hi hz ⊢
  have Hi := Lib.hid hi
  clear hi hr hsz
  go_enter Try.func28, Try.ntmps28
  go_wp2_with fail
  refine (Hi.out _).mono ?_
  rintro e w' ⟨rfl, ⟨nd, rfl⟩⟩
  go_wp2_with fail
  go_ret3
  exact ⟨rfl, by repeat (first | exact Drawn0.refl _ | apply Drawn0.step)⟩
theorem spec_empty (s : ByteArray) (off w : Int) (W : World) (hp : s.size = 0) :
    Calls Try.prog 28 #[.string s, .int .i64 off, .int .i64 w] W fun e W' => e = .returned (.tuple #[.string ⟨#[]⟩, .bool true, .bool true]) ∧ Drawn0 W W' := by
  have hl := len_eq s
  have he : s.toList = [] := List.length_eq_zero_iff.1 (by omega)
  obtain rfl : s = ⟨#[]⟩ := ext_eq (by rw [he, tl_nil])
  clear hl he hp
  go_enter Try.func28, Try.ntmps28
  go_wp2_with fail
  go_ret3
  exact ⟨rfl, by repeat (first | exact Drawn0.refl _ | apply Drawn0.step)⟩
def spec3 (s : ByteArray) (off w : Int) : ByteArray × Bool × Bool :=
  if s.size = 0 then (⟨#[]⟩, true, true) else if w < 4 then (⟨#[]⟩, false, true) else if 0 < off ∧ w < 7 then (⟨#[]⟩, false, false) else (abbB off w s, true, true)
theorem spec_any (s : ByteArray) (off w : Int) (W : World) (hs : s.size ≤ 1000) (h0 : -1000000 ≤ off) (h1 : off ≤ 1000000) (h2 : -1000000 ≤ w) (h3 : w ≤ 1000000) :
    Calls Try.prog 28 #[.string s, .int .i64 off, .int .i64 w] W fun e W' => e = .returned (.tuple #[.string (spec3 s off w).1, .bool (spec3 s off w).2.1, .bool (spec3 s off w).2.2]) ∧ Drawn0 W W' := by
  unfold spec3
  by_cases hp : s.size = 0
  · simp only [if_pos hp]; exact spec_empty s off w W hp
  simp only [if_neg hp]
  by_cases h4 : w < 4
  · simp only [if_pos h4]; exact spec_small s off w W hs h0 h1 h2 h3 (by omega) h4
  simp only [if_neg h4]
  by_cases h7 : 0 < off ∧ w < 7
  · simp only [if_pos h7]; exact spec_unsure s off w W hs h0 h1 h2 h3 (by omega) (by omega) h7.1 h7.2
  simp only [if_neg h7]
  unfold abbB
  by_cases hw : (s.size : Int) ≤ w
  · rw [if_pos (by omega)]
    by_cases g : 0 < off
    · exact spec_short_a s off w W hs h0 h1 h2 h3 (by omega) (by omega) hw g (by omega)
    · exact spec_short_b s off w W hs h0 h1 h2 h3 (by omega) (by omega) hw (by omega)
  rw [if_neg (by omega)]
  by_cases c1 : (s.size : Int) < off
  · simp only [if_pos c1]
    rw [if_pos (show (s.size : Int) - (s.size : Int) < w - 3 by omega)]
    by_cases c2 : (s.size : Int) - (w - 3) ≤ 4
    · rw [if_pos c2]; exact spec_front1 s off w W hs h0 h1 h2 h3 (by omega) (by omega) (by omega) (by omega) c1 c2
    · rw [if_neg c2, if_neg (by omega)]; exact spec_tail1 s off w W hs h0 h1 h2 h3 (by omega) (by omega) (by omega) (by omega) c1 (by omega)
  · simp only [if_neg c1]
    by_cases c3 : (s.size : Int) - off < w - 3
    · simp only [if_pos c3]
      by_cases c2 : (s.size : Int) - (w - 3) ≤ 4
      · rw [if_pos c2]; exact spec_front2 s off w W hs h0 h1 h2 h3 (by omega) (by omega) (by omega) (by omega) (by omega) c3 c2
      · rw [if_neg c2, if_neg (by omega)]; exact spec_tail2 s off w W hs h0 h1 h2 h3 (by omega) (by omega) (by omega) (by omega) (by omega) c3 (by omega)
    · simp only [if_neg c3]
      by_cases c2 : off ≤ 4
      · rw [if_pos c2]
        by_cases g : 0 < off
        · exact spec_front3a s off w W hs h0 h1 h2 h3 (by omega) (by omega) g (by omega) (by omega) (by omega) c2
        · exact spec_front3b s off w W hs h0 h1 h2 h3 (by omega) (by omega) (by omega) (by omega) (by omega) c2
      · rw [if_neg c2]
        by_cases c5 : off + w - 3 < (s.size : Int)
        · rw [if_pos ⟨by omega, c5⟩]; exact spec_both s off w W hs h0 h1 h2 h3 (by omega) (by omega) (by omega) (by omega) c5
        · rw [if_neg (by omega)]; exact spec_tail3 s off w W hs h0 h1 h2 h3 (by omega) (by omega) (by omega) (by omega) (by omega) (by omega) (by omega) (by omega)
def spec_Abbreviated.f (a0 : ByteArray) (a1 : Int) (a2 : Int) : Option (ByteArray × Bool × Bool) := if a0.size ≤ 1000 ∧ -1000000 ≤ a1 ∧ a1 ≤ 1000000 ∧ -1000000 ≤ a2 ∧ a2 ≤ 1000000 then some (spec3 a0 a1 a2) else none
theorem spec_Abbreviated.calls (a0 : ByteArray) (a1 : Int) (a2 : Int) (r1 : ByteArray) (r2 : Bool) (r3 : Bool) (w : World) (h : spec_Abbreviated.f a0 a1 a2 = some (r1, r2, r3)) :
    Calls Try.prog 28 #[.string a0, .int .i64 a1, .int .i64 a2] w fun e w' => e = .returned (.tuple #[.string r1, .bool r2, .bool r3]) ∧ Drawn0 w w' := by
  unfold spec_Abbreviated.f at h
  split at h
  case isFalse => exact absurd h (by simp)
  rename_i hb
  obtain ⟨b1, b2, b3, b4, b5⟩ := hb
  have := spec_any a0 a1 a2 w b1 b2 b3 b4 b5
  rw [Option.some.inj h] at this
  exact this

end Go.Proofs.Ytjpocldnibmopaa.Giv
