/- Characters and their bytes, both ways: at the beginning of a text, and at its end. No program in sight. -/
import Derived.Test.YtpkdoinofenahaaDoorPts
import Derived.Lib.SpaceUEq
namespace Go.Proofs.YtpkdoinofenahaaDoor.Giv
open Go.RowKit Go.Lib Go.Proofs.YtpkdoinofenahaaDoor.Txt

/-- A code point that stands for a character. -/
def okRune (r : Nat) : Prop := r < 55296 ∨ (57344 ≤ r ∧ r ≤ 1114111)
theorem byteOf (z : Int) (h0 : 0 ≤ z) (h1 : z < 256) : z.toNat.toUInt8.toNat = z.toNat := by
  rw [UInt8.toNat_ofNat_of_lt']
  show z.toNat < 256
  omega
theorem enc1 {r : Nat} (h : r < 128) : ∃ c0 : UInt8, encodeRune (r : Int) = [c0] ∧ c0.toNat = r :=
  ⟨(r : Int).toNat.toUInt8, by unfold encodeRune; rw [encodeRuneZ_one (by omega) (by omega)]; rfl, by rw [byteOf _ (by omega) (by omega)]; omega⟩
theorem enc2 {r : Nat} (h0 : 128 ≤ r) (h : r < 2048) : ∃ c0 c1 : UInt8, encodeRune (r : Int) = [c0, c1] ∧ c0.toNat = 192 + r / 64 ∧ c1.toNat = 128 + r % 64 :=
  ⟨(192 + (r : Int) / 64).toNat.toUInt8, (128 + (r : Int) % 64).toNat.toUInt8, by unfold encodeRune; rw [encodeRuneZ_two (by omega) (by omega)]; rfl, by rw [byteOf _ (by omega) (by omega)]; omega, by rw [byteOf _ (by omega) (by omega)]; omega⟩
theorem enc3 {r : Nat} (h0 : 2048 ≤ r) (h : r < 65536) (hr : okRune r) : ∃ c0 c1 c2 : UInt8, encodeRune (r : Int) = [c0, c1, c2] ∧ c0.toNat = 224 + r / 4096 ∧ c1.toNat = 128 + r / 64 % 64 ∧ c2.toNat = 128 + r % 64 :=
  ⟨(224 + (r : Int) / 4096).toNat.toUInt8, (128 + (r : Int) / 64 % 64).toNat.toUInt8, (128 + (r : Int) % 64).toNat.toUInt8, by unfold encodeRune; rw [encodeRuneZ_three (by unfold okRune at hr; omega)]; rfl, by rw [byteOf _ (by omega) (by omega)]; omega, by rw [byteOf _ (by omega) (by omega)]; omega, by rw [byteOf _ (by omega) (by omega)]; omega⟩
theorem enc4 {r : Nat} (h0 : 65536 ≤ r) (h : r ≤ 1114111) : ∃ c0 c1 c2 c3 : UInt8, encodeRune (r : Int) = [c0, c1, c2, c3] ∧ c0.toNat = 240 + r / 262144 ∧ c1.toNat = 128 + r / 4096 % 64 ∧ c2.toNat = 128 + r / 64 % 64 ∧ c3.toNat = 128 + r % 64 :=
  ⟨(240 + (r : Int) / 262144).toNat.toUInt8, (128 + (r : Int) / 4096 % 64).toNat.toUInt8, (128 + (r : Int) / 64 % 64).toNat.toUInt8, (128 + (r : Int) % 64).toNat.toUInt8, by unfold encodeRune; rw [encodeRuneZ_four (by omega) (by omega)]; rfl, by rw [byteOf _ (by omega) (by omega)]; omega, by rw [byteOf _ (by omega) (by omega)]; omega, by rw [byteOf _ (by omega) (by omega)]; omega, by rw [byteOf _ (by omega) (by omega)]; omega⟩
theorem dec_enc {r : Nat} (h : okRune r) (t : List UInt8) : decodeL (encodeRune (r : Int) ++ t) = (r, (encodeRune (r : Int)).length) := by
  rw [decodeL_N]
  by_cases c1 : r < 128
  · obtain ⟨c0, e, h0⟩ := enc1 c1
    rw [e]
    simp only [List.cons_append, List.getD_cons_zero, List.length_cons, List.length_nil, h0]
    unfold decodeN
    rw [if_pos c1]
  by_cases c2 : r < 2048
  · obtain ⟨c0, b1, e, h0, h1⟩ := enc2 (by omega) c2
    rw [e]
    simp only [List.cons_append, List.nil_append, List.getD_cons_zero, List.getD_cons_succ, List.length_cons, List.length_nil, h0, h1]
    unfold decodeN
    rw [if_neg (by omega), if_pos (by omega), if_pos (by omega)]
    congr 1; omega
  by_cases c3 : r < 65536
  · obtain ⟨c0, b1, b2, e, h0, h1, h2⟩ := enc3 (by omega) c3 h
    unfold okRune at h
    rw [e]
    simp only [List.cons_append, List.nil_append, List.getD_cons_zero, List.getD_cons_succ, List.length_cons, List.length_nil, h0, h1, h2]
    unfold decodeN
    rw [if_neg (by omega), if_neg (by omega), if_pos (by omega), if_pos (by omega)]
    congr 1; omega
  · unfold okRune at h
    obtain ⟨c0, b1, b2, b3, e, h0, h1, h2, h3⟩ := enc4 (r := r) (by omega) (by omega)
    rw [e]
    simp only [List.cons_append, List.nil_append, List.getD_cons_zero, List.getD_cons_succ, List.length_cons, List.length_nil, h0, h1, h2, h3]
    unfold decodeN
    rw [if_neg (by omega), if_neg (by omega), if_neg (by omega), if_pos (by omega), if_pos (by omega)]
    congr 1; omega
theorem last4 (t : List UInt8) (c0 c1 c2 c3 : UInt8) (h3 : 128 ≤ c3.toNat) (h2 : runeStartB c2 = false) (h1 : runeStartB c1 = false) (h0 : runeStartB c0 = true) (hd : (decodeL [c0, c1, c2, c3]).2 = 4) : decodeLastL (t ++ [c0, c1, c2, c3]) = decodeL [c0, c1, c2, c3] := by
  have g1 := getD_app_end t [c0, c1, c2, c3] 1 (by omega) (by simp)
  have g2 := getD_app_end t [c0, c1, c2, c3] 2 (by omega) (by simp)
  have g3 := getD_app_end t [c0, c1, c2, c3] 3 (by omega) (by simp)
  have g4 := getD_app_end t [c0, c1, c2, c3] 4 (by omega) (by simp)
  have hl : (t ++ [c0, c1, c2, c3]).length = t.length + 4 := by simp
  have hs : lastStart (t ++ [c0, c1, c2, c3]) = (t ++ [c0, c1, c2, c3]).length - 4 := by
    unfold lastStart
    simp only [g2, g3, g4]
    rw [if_neg (by omega)]
    simp only [List.length_cons, List.length_nil, List.getD_cons_succ, List.getD_cons_zero, Nat.reduceAdd, Nat.reduceSub, h2, h1, h0, Bool.false_eq_true, if_false, if_true]
    rw [if_neg (by omega), if_neg (by omega)]
  have hdrop := drop_app_end t [c0, c1, c2, c3]
  unfold decodeLastL
  rw [if_neg (by simp), g1, if_neg (by simp; omega), hs]
  simp only [List.length_cons, List.length_nil] at hdrop
  simp only [hdrop, hd]
  rw [if_pos (by omega)]
theorem start_no {c : UInt8} {n : Nat} (h : c.toNat = 128 + n) (hn : n < 64) : runeStartB c = false := by
  unfold runeStartB
  have : c.toNat / 64 = 2 := by omega
  rw [this]; rfl
theorem start_yes {c : UInt8} (h : 192 ≤ c.toNat) : runeStartB c = true := by
  unfold runeStartB
  have : c.toNat / 64 ≠ 2 := by omega
  simpa using this
theorem last_enc {r : Nat} (h : okRune r) (t : List UInt8) : decodeLastL (t ++ encodeRune (r : Int)) = (r, (encodeRune (r : Int)).length) := by
  have hd := dec_enc h []
  rw [List.append_nil] at hd
  by_cases c1 : r < 128
  · obtain ⟨c0, e, h0⟩ := enc1 c1
    rw [e, decodeLastL_ascii t _ (by omega), h0]; rfl
  by_cases c2 : r < 2048
  · obtain ⟨c0, b1, e, h0, h1⟩ := enc2 (by omega) c2
    rw [e] at hd ⊢
    rw [last2 t _ _ (by omega) (start_yes (by omega)) (by rw [hd]; rfl), hd]
  by_cases c3 : r < 65536
  · obtain ⟨c0, b1, b2, e, h0, h1, h2⟩ := enc3 (by omega) c3 h
    rw [e] at hd ⊢
    rw [last3 t _ _ _ (by omega) (start_no h1 (by omega)) (start_yes (by omega)) (by rw [hd]; rfl), hd]
  · have h' := h
    unfold okRune at h'
    obtain ⟨c0, b1, b2, b3, e, h0, h1, h2, h3⟩ := enc4 (r := r) (by omega) (by omega)
    rw [e] at hd ⊢
    rw [last4 t _ _ _ _ (by omega) (start_no h2 (by omega)) (start_no h1 (by omega)) (start_yes (by omega)) (by rw [hd]; rfl), hd]
theorem enc_len (r : Int) : 1 ≤ (encodeRune r).length ∧ (encodeRune r).length ≤ 4 := by
  have := encodeRuneZ_length r
  unfold encodeRune; rw [List.length_map]; exact this

/-- The bytes of characters, one behind the other. -/
def encs' (l : List Nat) : List UInt8 := l.flatMap fun (r : Nat) => encodeRune (r : Int)
theorem encs_cons (r : Nat) (l : List Nat) : encs' (r :: l) = encodeRune (r : Int) ++ encs' l := rfl
theorem encs_app (l m : List Nat) : encs' (l ++ m) = encs' l ++ encs' m := by unfold encs'; rw [List.flatMap_append]
theorem encs_last (l : List Nat) (r : Nat) : encs' (l ++ [r]) = encs' l ++ encodeRune (r : Int) := by rw [encs_app]; simp [encs']
theorem bytes_encs (l : List Nat) : (runesBytes (l.map fun (r : Nat) => (r : Int))).toList = encs' l := by
  rw [bytes_flat]; unfold encs'
  rw [List.flatMap_map]
  congr 1; funext r; exact enc_eq r
theorem ok_of_dec (l : List UInt8) : okRune (decodeL l).1 := by
  have h := decodeL_N l
  unfold okRune
  rw [h]
  unfold decodeN
  repeat' split
  all_goals simp only
  all_goals omega
/-- The characters of a text of UTF-8. -/
theorem text_runes_ok (s : ByteArray) (hu : utf8 s = true) : ∃ l : List Nat, runes s = l.map (fun (r : Nat) => (r : Int)) ∧ (∀ r ∈ l, okRune r) ∧ s.toList = encs' l := by
  have key : ∀ f i, ∃ l : List Nat, runesFrom s f i = l.map (fun (r : Nat) => (r : Int)) ∧ ∀ r ∈ l, okRune r := by
    intro f
    induction f with
    | zero => intro i; exact ⟨[], rfl, by simp⟩
    | succ f ih =>
      intro i
      rw [runesFrom]
      split
      · obtain ⟨l, e, h⟩ := ih (i + (Utf8.decode s i).2)
        refine ⟨(Utf8.decode s i).1 :: l, by rw [e]; rfl, ?_⟩
        intro r hr
        rcases List.mem_cons.1 hr with rfl | hr
        · rw [← decL]; exact ok_of_dec _
        · exact h r hr
      · exact ⟨[], rfl, by simp⟩
  obtain ⟨l, e, h⟩ := key s.size 0
  refine ⟨l, e, h, ?_⟩
  unfold utf8 at hu
  simp at hu
  rw [← bytes_encs, ← e]
  show s.toList = (runesBytes (runes s)).toList
  rw [hu.1]

end Go.Proofs.YtpkdoinofenahaaDoor.Giv
