/- Texts of UTF-8, character by character: places, and the bytes of a part of the characters. No program in sight. -/
import Derived.Test.YtpkdoinofenahaaDoorUtf
import Derived.Lib.MapLaws
import Derived.Lib.RuneCountTail
import Derived.Lib.QuoteLoop
import Derived.Stop.FmtQuoteTie
namespace Go.Proofs.YtpkdoinofenahaaDoor.Giv
open Go.RowKit Go.Proofs.YtpkdoinofenahaaDoorW.PrintWords Go.Proofs.YtpkdoinofenahaaDoor.Txt

def wid (s : ByteArray) (pos : Nat) : Nat := (Utf8.decode s pos).2
theorem wid_le (s : ByteArray) (pos : Nat) (h : pos < s.size) : pos + wid s pos ≤ s.size := by
  have a := Lib.tail_size s pos
  have b := Lib.width_le (s.extract pos s.size) (by omega)
  rw [Lib.tail_decode] at b
  unfold wid
  rw [Nat.add_zero] at b
  omega
theorem decL (s : ByteArray) (pos : Nat) : Lib.decodeL (s.toList.drop pos) = Utf8.decode s pos := by
  have e : (⟨(s.toList.drop pos).toArray⟩ : ByteArray) = s.extract pos s.size := ext_eq (by rw [tl_mk, extract_self])
  unfold Lib.decodeL
  rw [e, Lib.tail_decode, Nat.add_zero]
theorem enc_eq (r : Nat) : (Utf8.encode (r : Int)).toList = Lib.encodeRune (r : Int) := by
  have h := Go.Extern.FmtText.encode_eq r
  unfold Lib.encodeRune
  rw [← h, Lib.toList_data]
  unfold Go.Extern.FmtText.nums
  rw [List.map_map]
  conv => lhs; rw [← List.map_id (Utf8.encode (r : Int)).data.toList]
  apply List.map_congr_left
  intro x _
  simp

/-- A step in a text in which nothing was replaced: the code point's own bytes stand there. -/
theorem step_ok {s : ByteArray} {f pos : Nat} (h : replFrom s (f + 1) pos = false) (hp : pos < s.size) :
    (Utf8.encode ((Utf8.decode s pos).1 : Int)).toList = (s.toList.drop pos).take (wid s pos) ∧ replFrom s f (pos + wid s pos) = false := by
  have hl := len_eq s
  rw [replFrom, if_pos hp] at h
  split at h
  · exact absurd h (by simp)
  rename_i hn
  refine ⟨?_, h⟩
  have hne : s.toList.drop pos ≠ [] := by
    intro e
    have := congrArg List.length e
    rw [List.length_drop] at this
    simp at this; omega
  have := Lib.encode_decode (s.toList.drop pos) hne (by
    rw [decL]
    rintro ⟨h1, h2⟩
    have h3 : pos + 3 ≤ s.size := by
      rcases Nat.lt_or_ge s.size (pos + 3) with h' | h'
      · exact absurd ⟨h1, .inl h'⟩ hn
      · exact h'
    have h4 : (s.extract pos (pos + 3)).toList = [239, 191, 189] := Classical.byContradiction fun h' => hn ⟨h1, .inr h'⟩
    rw [tl_extract, show pos + 3 - pos = 3 by omega] at h4
    have g0 : (s.toList.drop pos).getD 0 0 = 239 := by
      have := congrArg (fun l => List.getD l 0 0) h4
      simpa [List.getD] using this
    have g1 : (s.toList.drop pos).getD 1 0 = 191 := by
      have := congrArg (fun l => List.getD l 1 0) h4
      simpa [List.getD] using this
    have g2 : (s.toList.drop pos).getD 2 0 = 189 := by
      have := congrArg (fun l => List.getD l 2 0) h4
      simpa [List.getD] using this
    have hd := decL s pos
    rw [Lib.decodeL_N, g0, g1, g2, List.length_drop] at hd
    rw [← hd] at h2
    have n2 : 2 < s.toList.length - pos := by omega
    have n1 : 1 < s.toList.length - pos := by omega
    simp [Lib.decodeN, n1, n2] at h2)
  rw [enc_eq, ← decL s pos, this, decL]; rfl

theorem bytes_foldl (l : List Int) : ∀ b : ByteArray, (l.foldl (fun r n => r ++ Utf8.encode n) b).toList = b.toList ++ l.flatMap (fun n => (Utf8.encode n).toList) := by
  induction l with
  | nil => intro b; simp
  | cons x l ih => intro b; rw [List.foldl_cons, ih, tl_append]; simp
theorem bytes_flat (l : List Int) : (runesBytes l).toList = l.flatMap (fun n => (Utf8.encode n).toList) := by
  unfold runesBytes; rw [bytes_foldl]
  show ByteArray.empty.toList ++ _ = _
  rw [show ByteArray.empty.toList = [] from tl_nil]; rfl

/-- So many characters on from a place, or to the end: what is left to go, and the place. -/
def adv (s : ByteArray) : Nat → Nat → Nat × Nat
  | 0, pos => (0, pos)
  | n + 1, pos => if pos < s.size then adv s n (pos + wid s pos) else (n + 1, pos)
theorem adv_end (s : ByteArray) (n pos : Nat) (h : ¬ pos < s.size) : adv s n pos = (n, pos) := by
  cases n with
  | zero => rfl
  | succ n => rw [adv, if_neg h]
theorem adv_le (s : ByteArray) : ∀ n pos, pos ≤ s.size → pos ≤ (adv s n pos).2 ∧ (adv s n pos).2 ≤ s.size ∧ (0 < (adv s n pos).1 → (adv s n pos).2 = s.size) ∧ (adv s n pos).1 ≤ n
  | 0, pos, h => ⟨Nat.le_refl _, h, fun h => absurd h (Nat.lt_irrefl 0), Nat.le_refl _⟩
  | n + 1, pos, h => by
    rw [adv]
    split
    · rename_i hp
      have a := wid_le s pos hp
      have ⟨b, c, d, e⟩ := adv_le s n (pos + wid s pos) a
      exact ⟨by omega, c, d, by omega⟩
    · refine ⟨Nat.le_refl _, h, fun _ => ?_, Nat.le_refl _⟩
      show pos = s.size
      omega
/-- The first characters from a place on: their bytes, and where the others begin. -/
theorem adv_runes (s : ByteArray) : ∀ n f pos, replFrom s f pos = false → s.size ≤ pos + f → pos ≤ s.size →
    (runesBytes ((runesFrom s f pos).take n)).toList = (s.toList.drop pos).take ((adv s n pos).2 - pos) ∧ (adv s n pos).1 = n - (runesFrom s f pos).length ∧
    ∃ g, (runesFrom s f pos).drop n = runesFrom s g (adv s n pos).2 ∧ replFrom s g (adv s n pos).2 = false ∧ s.size ≤ (adv s n pos).2 + g := by
  intro n
  induction n with
  | zero =>
    intro f pos h hf hp
    refine ⟨?_, by simp [adv], f, rfl, h, hf⟩
    rw [bytes_flat]; simp [adv]
  | succ n ih =>
    intro f pos h hf hp
    cases f with
    | zero =>
      have e : ¬ pos < s.size := by omega
      rw [adv_end s _ _ e]
      refine ⟨?_, by simp [runesFrom], 0, by simp [runesFrom], h, hf⟩
      rw [bytes_flat]; simp [runesFrom]
    | succ f =>
      by_cases hlt : pos < s.size
      · have w1 := width_pos s pos hlt
        have w2 := wid_le s pos hlt
        obtain ⟨e1, e2⟩ := step_ok h hlt
        have hw : wid s pos = (Utf8.decode s pos).2 := rfl
        obtain ⟨i1, i2, g, i3, i4, i5⟩ := ih f (pos + wid s pos) e2 (by omega) w2
        have hle := adv_le s n (pos + wid s pos) w2
        rw [adv, if_pos hlt]
        rw [runesFrom, if_pos hlt]
        refine ⟨?_, ?_, g, ?_, i4, i5⟩
        · rw [bytes_flat] at i1 ⊢
          rw [List.take_succ_cons, List.flatMap_cons, e1, ← hw, i1]
          have : (adv s n (pos + wid s pos)).2 - pos = wid s pos + ((adv s n (pos + wid s pos)).2 - (pos + wid s pos)) := by omega
          rw [this, List.take_add, List.drop_drop]
        · rw [i2, List.length_cons, ← hw]; omega
        · rw [List.drop_succ_cons, ← hw]; exact i3
      · rw [adv_end s _ _ hlt]
        refine ⟨?_, by simp [runesFrom, hlt], 0, by simp [runesFrom, hlt], by rfl, by show s.size ≤ pos + 0; omega⟩
        rw [bytes_flat]; simp [runesFrom, hlt]
/-- Of a text of UTF-8: a part of its characters. -/
theorem part_runes (s : ByteArray) (hu : utf8 s = true) (a b : Nat) :
    (adv s a 0).1 = a - (runes s).length ∧ (adv s b (adv s a 0).2).1 = b - ((runes s).length - a) ∧
    (runesBytes (((runes s).drop a).take b)).toList = (s.extract (adv s a 0).2 (adv s b (adv s a 0).2).2).toList := by
  have hr : replFrom s s.size 0 = false := by
    unfold utf8 repl at hu
    simp at hu; exact hu.2
  obtain ⟨a1, a2, g, a3, a4, a5⟩ := adv_runes s a s.size 0 hr (by omega) (Nat.zero_le _)
  have hle := adv_le s a 0 (Nat.zero_le _)
  obtain ⟨b1, b2, _⟩ := adv_runes s b g (adv s a 0).2 a4 a5 hle.2.1
  refine ⟨a2, ?_, ?_⟩
  · rw [b2, ← a3, List.length_drop]; rfl
  · rw [tl_extract, ← b1, ← a3]; rfl

end Go.Proofs.YtpkdoinofenahaaDoor.Giv
