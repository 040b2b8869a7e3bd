/- Walks of xstrings.writePadString, LeftJustify, RightJustify, Center and Len: what they answer. -/
import Derived.Test.YtpkdoinofenahaaDoorTabs
import Derived.Test.YtpkdoinofenahaaDoorBldK
namespace Go.Proofs.YtpkdoinofenahaaDoor.Giv
open Go.RowKit Go.Proofs.YtpkdoinofenahaaDoorW.PrintWords Go.Proofs.YtpkdoinofenahaaDoor.Txt
set_option linter.unusedVariables false
set_option maxRecDepth 20000

/-- A text so many times. -/
def repL (pad : ByteArray) (n : Nat) : List UInt8 := (List.replicate n pad.toList).flatten
theorem repL_succ (pad : ByteArray) (n : Nat) : repL pad (n + 1) = repL pad n ++ pad.toList := by
  unfold repL; rw [List.replicate_succ', List.flatten_append]; simp
theorem repL_len (pad : ByteArray) (n : Nat) : (repL pad n).length = n * pad.size := by
  have := len_eq pad
  unfold repL; simp [this]
theorem adv_step {s : ByteArray} {n p P : Nat} (h : adv s (n + 1) p = (0, P)) : p < s.size ∧ adv s n (p + wid s p) = (0, P) := by
  rw [adv] at h
  split at h
  · rename_i hp; exact ⟨hp, h⟩
  · cases h
theorem adv_none {s : ByteArray} {p P : Nat} (h : adv s 0 p = (0, P)) : P = p := by
  rw [adv] at h; cases h; rfl
theorem cut_front (s : ByteArray) (p d : Nat) (h : p + d ≤ s.size) : ((s.extract p s.size).extract 0 d).toList = (s.toList.drop p).take d := by
  rw [extract_upto, extract_self]
theorem cut_rest (s : ByteArray) (p d : Nat) (h : p + d ≤ s.size) : (s.extract p s.size).extract d (s.size - p) = s.extract (p + d) s.size := by
  apply ext_eq
  have hl := len_eq s
  rw [tl_extract, extract_self, extract_self, List.drop_drop, List.take_of_length_le]
  rw [List.length_drop]; omega
theorem take_more (l : List UInt8) (p d : Nat) : l.take (p + d) = l.take p ++ (l.drop p).take d := by
  rw [List.take_add]

set_option maxHeartbeats 8000000 in
theorem writePad_walk (pad : ByteArray) (B b : Nat) (acc : List UInt8) (pl rem P : Nat) (w0 w : World) (hp : pad.size ≤ 1000) (ha : acc.length ≤ 2000000) (hpl : 1 ≤ pl) (hrem : rem ≤ 1000) (hpl2 : pl ≤ 1000) (hadv : adv pad (rem % pl) 0 = (0, P))
    (T : Tabs w0) (hw0 : Below w0.heap.size w0 w) (hB0 : w0.heap.size ≤ B) (hI : Lib.IsBuilder 56 5 B b (Lib.byteCells acc) w) (hB : B ≤ w.heap.size) :
    Calls Tryd.prog 72 #[.pointer (some ⟨b, 0, none⟩), .string pad, .int .i64 (pl : Int), .int .i64 (rem : Int)] w fun e w' => e = .returned (.tuple #[]) ∧ Lib.IsBuilder 56 5 B b (Lib.byteCells (acc ++ (repL pad (rem / pl) ++ pad.toList.take P))) w' ∧ Below B w w' := by
  have HT := Lib.hid T
  have HW0 := Lib.hid hw0
  have HI0 := Lib.hid hI
  have HA0 := Lib.hid hadv
  obtain ⟨q, hq⟩ : ∃ q, q = rem / pl := ⟨_, rfl⟩
  obtain ⟨r, hr⟩ : ∃ r, r = rem % pl := ⟨_, rfl⟩
  have hqi : (rem : Int) / (pl : Int) = (q : Int) := by rw [hq]; rfl
  have hri : (rem : Int) % (pl : Int) = (r : Int) := by rw [hr]; rfl
  have hq2 : q ≤ 1000 := by have := Nat.div_le_self rem pl; omega
  have hpl' : ¬ (pl : Int) = 0 := by omega
  have HQ := Lib.hid hq
  have HR := Lib.hid hr
  clear hq hr
  clear T hw0 hI hadv
  go_enter Tryd.func72, Tryd.ntmps72
  go_wp2_with fail
  go_loopg [10] q (fun kq v10 wr => ∃ i : Nat, v10 = .int .i64 (i : Int) ∧ Hid (i + kq = q) ∧ Hid (Lib.IsBuilder 56 5 B b (Lib.byteCells (acc ++ repL pad i)) wr) ∧ Hid (Below B w wr))
  case atStart => exact ⟨0, rfl, Lib.hid (by omega), Lib.hid (by simpa [repL] using HI0.out), Lib.hid (Below.refl _ _)⟩
  case round =>
    obtain ⟨i, rfl, H1, HI, HB⟩ := hrel
    cases gk with
    | succ m =>
      have hi : i < q := by have := H1.out; omega
      go_wp2_with fail
      refine (WriteString B b (Lib.byteCells (acc ++ repL pad i)) pad _ HI.out (by rw [bytes_len, List.length_append, repL_len]; have : i * pad.size ≤ 1000 * 1000 := Nat.mul_le_mul (by omega) hp; omega) (Nat.le_trans hB HB.out.size)).mono ?_
      rintro e w2 ⟨rfl, hb2, hB2⟩
      have Hb2 := Lib.hid (HB.out.trans hB2)
      rw [strCells_tl, bytes_app, List.append_assoc, ← repL_succ] at hb2
      have HI2 := Lib.hid hb2
      clear hb2 hB2
      go_wp2_with fail
      go_roundg m
      case measure => exact Nat.lt_succ_self m
      case rel => exact ⟨i + 1, by simp, Lib.hid (by have := H1.out; omega), Lib.hid (.inr HI2.out), Hb2⟩
    | zero =>
      obtain rfl : i = q := by have := H1.out; omega
      have hnq : ¬ ((i : Int) < (i : Int)) := by omega
      by_cases hr0 : r = 0
      · have FIN : Lib.IsBuilder 56 5 B b (Lib.byteCells (acc ++ (repL pad (rem / pl) ++ pad.toList.take P))) wr := by
          have h0 := HA0.out
          rw [← HR.out, hr0] at h0
          have := adv_none h0
          subst this
          have h := HI.out
          rw [HQ.out] at h
          simpa using h
        have FI2 := Lib.hid FIN
        clear FIN
        subst hr0
        go_wp2_with fail
        go_end0
        exact ⟨rfl, FI2.out, HB.out⟩
      · have hr1 : 1 ≤ r := by omega
        have hr2 : r ≤ 1000 := by rw [HR.out]; have := Nat.mod_le rem pl; omega
        have hri0 : ¬ (r : Int) = 0 := by omega
        clear hr0
        go_wp2_with fail
        go_loopg [1, 8, 11] r (fun kr v1 v8 v11 wq => ∃ (j p : Nat) (x8 : Value), v1 = .string (pad.extract p pad.size) ∧ v8 = x8 ∧ v11 = .int .i64 (j : Int) ∧ Hid (j + kr = r) ∧ Hid (p ≤ pad.size) ∧ Hid (adv pad kr p = (0, P)) ∧ Hid (Lib.IsBuilder 56 5 B b (Lib.byteCells (acc ++ (repL pad i ++ pad.toList.take p))) wq) ∧ Hid (Below B w wq))
        case atStart => exact ⟨0, 0, _, by rw [extract_zero_size], rfl, rfl, Lib.hid (by omega), Lib.hid (Nat.zero_le _), Lib.hid (by rw [HR.out]; exact HA0.out), Lib.hid (by simpa using HI.out), HB⟩
        case round =>
          obtain ⟨j, p, x8, rfl, rfl, rfl, K1, K2, K3, KI, KB⟩ := hrel
          cases gk with
          | zero =>
            obtain rfl : j = r := by have := K1.out; omega
            go_wp2_with fail
            go_end0
            have h := KI.out
            have h0 := adv_none K3.out
            rw [HQ.out, ← h0] at h
            exact ⟨rfl, h, KB.out⟩
          | succ m =>
            have hj : j < r := by have := K1.out; omega
            have ⟨hpp, hadv2⟩ := adv_step K3.out
            have hw3 := width_pos pad p hpp
            have hw2 := wid_le pad p hpp
            have hd := decode_tail pad p wr (HT.out.below (HW0.out.trans (KB.out.mono hB0))) hpp
            have hw1 : 1 ≤ wid pad p := hw3
            have hsz : (pad.extract p pad.size).size = pad.size - p := size_extract _ _ _ (by omega) (Nat.le_refl _)
            clear hw3
            obtain ⟨d, hd0⟩ : ∃ d, d = wid pad p := ⟨_, rfl⟩
            rw [← hd0] at hd hw2 hw1 hadv2
            obtain ⟨c, hc0⟩ : ∃ c, c = (Utf8.decode pad p).1 := ⟨_, rfl⟩
            rw [← hc0] at hd
            have Hd := Lib.hid hd
            have CF := Lib.hid (cut_front pad p d hw2)
            have CR := Lib.hid (cut_rest pad p d hw2)
            have TM := Lib.hid (take_more pad.toList p d)
            have HA2 := Lib.hid hadv2
            have hcs : ((pad.extract p pad.size).extract 0 d).size ≤ 1000 := by rw [len_eq, CF.out, List.length_take, List.length_drop]; have := len_eq pad; omega
            have hcl : (acc ++ (repL pad i ++ pad.toList.take p)).length ≤ 4000000 := by
              rw [List.length_append, List.length_append, repL_len, List.length_take]; have : i * pad.size ≤ 1000 * 1000 := Nat.mul_le_mul (by omega) hp; have := len_eq pad; omega
            clear hd hd0 hc0 hadv2
            go_wp2_with fail
            refine (Hd.out).mono ?_
            rintro e w3 ⟨rfl, hb3⟩
            have KB3 := Lib.hid (KB.out.trans (hb3.mono (Nat.le_trans hB KB.out.size)))
            have KI3 := Lib.hid (isBelow KI.out hb3)
            clear hb3
            go_wp2_with fail
            refine (WriteString B b (Lib.byteCells (acc ++ (repL pad i ++ pad.toList.take p))) ((pad.extract p pad.size).extract 0 d) _ KI3.out (by rw [bytes_len]; omega) (Nat.le_trans hB KB3.out.size)).mono ?_
            rintro e w4 ⟨rfl, hb4, hB4⟩
            have KB4 := Lib.hid (KB3.out.trans hB4)
            rw [strCells_tl, bytes_app, CF.out, List.append_assoc, List.append_assoc, ← TM.out] at hb4
            have KI4 := Lib.hid hb4
            clear hb4 hB4
            go_wp2_with fail
            go_roundg m
            case measure => exact Nat.lt_succ_self m
            case rel => exact ⟨j + 1, p + d, _, by rw [CR.out], rfl, by simp, Lib.hid (by have := K1.out; omega), Lib.hid hw2, HA2, Lib.hid (.inr KI4.out), KB4⟩

theorem len_walk (s : ByteArray) (w : World) (hs : s.size ≤ 10000000) :
    Calls Tryd.prog 49 #[.string s] w fun e w' => e = .returned (.int .i64 (Lib.runeCount s)) ∧ Below w.heap.size w w' := by
  have H := Lib.hid (Tryd.utf8_RuneCountInString s w (by omega))
  go_enter Tryd.func49, Tryd.ntmps49
  go_wp2_with fail
  refine (H.out).mono ?_
  rintro e w1 ⟨rfl, pos, rfl⟩
  go_wp2_with fail
  go_ret
  exact ⟨rfl, (Below.refl _ _).alloc (Nat.le_refl _) _⟩
theorem count_pos (s : ByteArray) (h : 1 ≤ s.size) : 1 ≤ Lib.runeCount s := by
  unfold Lib.runeCount
  obtain ⟨f, hf⟩ : ∃ f, s.size = f + 1 := ⟨s.size - 1, by omega⟩
  rw [hf, Lib.runeCountFrom, if_pos (by omega)]; omega
theorem count_le (s : ByteArray) : Lib.runeCount s ≤ s.size := Lib.runeCountFrom_le s s.size 0
theorem adv_count (s : ByteArray) : ∀ n f pos, s.size ≤ pos + f → (adv s n pos).1 = n - Lib.runeCountFrom s f pos := by
  intro n
  induction n with
  | zero => intro f pos h; rw [adv]; omega
  | succ n ih =>
    intro f pos h
    rw [adv]
    split
    · rename_i hp
      obtain ⟨f, rfl⟩ : ∃ g, f = g + 1 := ⟨f - 1, by omega⟩
      have w1 := width_pos s pos hp
      rw [ih f _ (by unfold wid; omega), Lib.runeCountFrom, if_pos hp]
      show n - Lib.runeCountFrom s f (pos + (Utf8.decode s pos).2) = _
      omega
    · rename_i hp
      rw [Lib.runeCountFrom_end s f pos hp]; rfl
theorem adv_some (s : ByteArray) (n : Nat) (h : n ≤ Lib.runeCount s) : adv s n 0 = (0, (adv s n 0).2) := by
  have := adv_count s n s.size 0 (by omega)
  have h2 : (adv s n 0).1 = 0 := by rw [this]; unfold Lib.runeCount at h; omega
  exact Prod.ext h2 rfl
/-- What is put in for so many characters. -/
def padL (pad : ByteArray) (rem : Nat) : List UInt8 := repL pad (rem / Lib.runeCount pad) ++ pad.toList.take (adv pad (rem % Lib.runeCount pad) 0).2
theorem padL_len (pad : ByteArray) (rem : Nat) (hp : pad.size ≤ 1000) (hr : rem ≤ 300 := by omega) : (padL pad rem).length ≤ 301000 := by
  unfold padL
  rw [List.length_append, repL_len, List.length_take]
  have h1 : rem / Lib.runeCount pad * pad.size ≤ 300 * 1000 := Nat.mul_le_mul (Nat.le_trans (Nat.div_le_self _ _) hr) hp
  have := len_eq pad
  omega

set_option maxHeartbeats 8000000 in
theorem left_walk (s pad : ByteArray) (n : Nat) (w : World) (hs : s.size ≤ 1000) (hp : pad.size ≤ 1000) (hp1 : 1 ≤ pad.size) (hn : n ≤ 300) (hl : Lib.runeCount s < n) (T : Tabs w) :
    Calls Tryd.prog 46 #[.string s, .int .i64 (n : Int), .string pad] w fun e w' => ∃ r : ByteArray, e = .returned (.string r) ∧ r.toList = s.toList ++ padL pad (n - Lib.runeCount s) ∧ Below w.heap.size w w' := by
  have hp0 : (pad.toList == ([] : List UInt8)) = false := by
    cases h : pad.toList with
    | nil => have := len_eq pad; rw [h, List.length_nil] at this; omega
    | cons a t => rfl
  have HT := Lib.hid T
  have HLs := Lib.hid (fun w => len_walk s w (by omega))
  have HLp := Lib.hid (fun w => len_walk pad w (by omega))
  obtain ⟨l, hl0⟩ : ∃ l, l = Lib.runeCount s := ⟨_, rfl⟩
  obtain ⟨pl, hpl0⟩ : ∃ pl, pl = Lib.runeCount pad := ⟨_, rfl⟩
  have hpl1 : 1 ≤ pl := by rw [hpl0]; exact count_pos pad hp1
  have hpl2 : pl ≤ 1000 := by rw [hpl0]; exact Nat.le_trans (count_le pad) hp
  obtain ⟨R, hR⟩ : ∃ R, R = s.toList ++ padL pad (n - Lib.runeCount s) := ⟨_, rfl⟩
  rw [← hR]
  have HR := Lib.hid hR
  rw [← hl0] at HLs hl
  rw [← hpl0] at HLp
  have HL0 := Lib.hid hl0
  have HPL0 := Lib.hid hpl0
  clear T hR hl0 hpl0
  obtain ⟨q, hq⟩ : ∃ q, q = (n - l) / pl := ⟨_, rfl⟩
  have hqi : ((n : Int) - (l : Int)) / (pl : Int) = (q : Int) := by rw [hq, show (n : Int) - (l : Int) = ((n - l : Nat) : Int) by omega]; rfl
  have hq2 : q ≤ 300 := by rw [hq]; exact Nat.le_trans (Nat.div_le_self (n - l) pl) (by omega)
  have hpl' : ¬ (pl : Int) = 0 := by omega
  have hM : (q + 1) * pad.size ≤ 301 * 1000 := Nat.mul_le_mul (by omega) hp
  obtain ⟨M, hM0⟩ : ∃ M, M = (q + 1) * pad.size := ⟨_, rfl⟩
  rw [← hM0] at hM
  have hg : wrap64 ((s.size : Int) + wrap64 (((q : Int) + 1) * (pad.size : Int))) = ((s.size + M : Nat) : Int) := by
    have e : ((q : Int) + 1) * (pad.size : Int) = (M : Int) := by rw [hM0]; push_cast; rfl
    rw [e, show wrap64 (M : Int) = (M : Int) from w64 (by omega) (by omega), w64 (by omega) (by omega)]; push_cast; rfl
  have HG := Lib.hid hg
  clear hg hM0
  have hl' : ¬ (n : Int) ≤ (l : Int) := by omega
  have HQ := Lib.hid hq
  clear hq
  go_enter Tryd.func46, Tryd.ntmps46
  go_wp2_with fail
  refine (HLs.out _).mono ?_
  rintro e w1 ⟨rfl, hb1⟩
  have Hb1 := Lib.hid hb1
  clear hb1
  go_wp2_with fail
  refine (HLp.out _).mono ?_
  rintro e w2 ⟨rfl, hb2⟩
  have Hb2 := Lib.hid (Hb1.out.trans (hb2.mono Hb1.out.size))
  clear hb2
  go_wp2_with fail
  rw [HG.out]
  have hws := Hb2.out.size
  refine (Tryd.Builder_Grow_fresh w.heap.size w2.heap.size (s.size + M) _ hws (by show (w2.heap.push _)[w2.heap.size]? = _; simp) (by show _ ≤ (w2.heap.push _).size; rw [Array.size_push]; omega) (by omega)).mono ?_
  rintro e w3 ⟨rfl, hb3, hB3⟩
  have Hb3 := Lib.hid ((Hb2.out.alloc hws _).trans hB3)
  have HI3 := Lib.hid hb3
  clear hb3 hB3
  have hBw : ∀ W, Below w.heap.size w W → w.heap.size ≤ W.heap.size := fun W h => h.size
  go_wp2_with fail
  have HI3' := Lib.hid (show Lib.IsBuilder _ _ _ _ (Lib.byteCells []) _ from .inr HI3.out)
  replace HI3 := HI3'
  clear HI3'
  refine (WriteString w.heap.size w2.heap.size (Lib.byteCells ([])) s _ (HI3.out) (by rw [bytes_len]; show 0 + s.size ≤ _; omega) (hBw _ Hb3.out)).mono ?_
  rintro e w4 ⟨rfl, hb4, hB4⟩
  have Hb4 := Lib.hid (Hb3.out.trans hB4)
  rw [strCells_tl, bytes_app] at hb4
  have HI4 := Lib.hid (show Lib.IsBuilder _ _ _ _ _ _ from .inr hb4)
  clear hb4 hB4
  go_wp2_with fail
  have hrn5 : ((n : Int) - (l : Int)) = (((n - l) : Nat) : Int) := by omega
  rw [hrn5]
  have had : adv pad ((n - l) % pl) 0 = (0, (adv pad ((n - l) % pl) 0).2) := adv_some pad _ (by rw [← HPL0.out]; exact Nat.le_of_lt (Nat.mod_lt _ hpl1))
  refine (writePad_walk pad w.heap.size w2.heap.size ([] ++ s.toList) pl (n - l) _ w w4 hp (by rw [List.nil_append, ← len_eq]; omega) hpl1 (by omega) hpl2 had HT.out Hb4.out (Nat.le_refl _) HI4.out (hBw _ Hb4.out)).mono ?_
  rintro e w5 ⟨rfl, hb5, hB5⟩
  have Hb5 := Lib.hid (Hb4.out.trans hB5)
  have eR : repL pad ((n - l) / pl) ++ pad.toList.take (adv pad ((n - l) % pl) 0).2 = padL pad (n - l) := by unfold padL; rw [← HPL0.out]
  rw [eR] at hb5
  have HI5 := Lib.hid hb5
  clear hb5 hB5 eR had hrn5
  go_wp2_with fail
  refine (Tryd.Builder_String_any w.heap.size w2.heap.size ([] ++ s.toList ++ padL pad (n - l)) w5 HI5.out (hBw _ Hb5.out)).mono ?_
  rintro e w9 ⟨rfl, hB9⟩
  have Hb9 := Lib.hid (Hb5.out.trans hB9)
  clear hB9
  go_wp2_with fail
  go_ret
  refine ⟨_, rfl, ?_, Hb9.out⟩
  rw [tl_mk, HR.out, ← HL0.out]; try simp

set_option maxHeartbeats 8000000 in
theorem right_walk (s pad : ByteArray) (n : Nat) (w : World) (hs : s.size ≤ 1000) (hp : pad.size ≤ 1000) (hp1 : 1 ≤ pad.size) (hn : n ≤ 300) (hl : Lib.runeCount s < n) (T : Tabs w) :
    Calls Tryd.prog 47 #[.string s, .int .i64 (n : Int), .string pad] w fun e w' => ∃ r : ByteArray, e = .returned (.string r) ∧ r.toList = padL pad (n - Lib.runeCount s) ++ s.toList ∧ Below w.heap.size w w' := by
  have hp0 : (pad.toList == ([] : List UInt8)) = false := by
    cases h : pad.toList with
    | nil => have := len_eq pad; rw [h, List.length_nil] at this; omega
    | cons a t => rfl
  have HT := Lib.hid T
  have HLs := Lib.hid (fun w => len_walk s w (by omega))
  have HLp := Lib.hid (fun w => len_walk pad w (by omega))
  obtain ⟨l, hl0⟩ : ∃ l, l = Lib.runeCount s := ⟨_, rfl⟩
  obtain ⟨pl, hpl0⟩ : ∃ pl, pl = Lib.runeCount pad := ⟨_, rfl⟩
  have hpl1 : 1 ≤ pl := by rw [hpl0]; exact count_pos pad hp1
  have hpl2 : pl ≤ 1000 := by rw [hpl0]; exact Nat.le_trans (count_le pad) hp
  obtain ⟨R, hR⟩ : ∃ R, R = padL pad (n - Lib.runeCount s) ++ s.toList := ⟨_, rfl⟩
  rw [← hR]
  have HR := Lib.hid hR
  rw [← hl0] at HLs hl
  rw [← hpl0] at HLp
  have HL0 := Lib.hid hl0
  have HPL0 := Lib.hid hpl0
  clear T hR hl0 hpl0
  obtain ⟨q, hq⟩ : ∃ q, q = (n - l) / pl := ⟨_, rfl⟩
  have hqi : ((n : Int) - (l : Int)) / (pl : Int) = (q : Int) := by rw [hq, show (n : Int) - (l : Int) = ((n - l : Nat) : Int) by omega]; rfl
  have hq2 : q ≤ 300 := by rw [hq]; exact Nat.le_trans (Nat.div_le_self (n - l) pl) (by omega)
  have hpl' : ¬ (pl : Int) = 0 := by omega
  have hM : (q + 1) * pad.size ≤ 301 * 1000 := Nat.mul_le_mul (by omega) hp
  obtain ⟨M, hM0⟩ : ∃ M, M = (q + 1) * pad.size := ⟨_, rfl⟩
  rw [← hM0] at hM
  have hg : wrap64 ((s.size : Int) + wrap64 (((q : Int) + 1) * (pad.size : Int))) = ((s.size + M : Nat) : Int) := by
    have e : ((q : Int) + 1) * (pad.size : Int) = (M : Int) := by rw [hM0]; push_cast; rfl
    rw [e, show wrap64 (M : Int) = (M : Int) from w64 (by omega) (by omega), w64 (by omega) (by omega)]; push_cast; rfl
  have HG := Lib.hid hg
  clear hg hM0
  have hl' : ¬ (n : Int) ≤ (l : Int) := by omega
  have HQ := Lib.hid hq
  clear hq
  go_enter Tryd.func47, Tryd.ntmps47
  go_wp2_with fail
  refine (HLs.out _).mono ?_
  rintro e w1 ⟨rfl, hb1⟩
  have Hb1 := Lib.hid hb1
  clear hb1
  go_wp2_with fail
  refine (HLp.out _).mono ?_
  rintro e w2 ⟨rfl, hb2⟩
  have Hb2 := Lib.hid (Hb1.out.trans (hb2.mono Hb1.out.size))
  clear hb2
  go_wp2_with fail
  rw [HG.out]
  have hws := Hb2.out.size
  refine (Tryd.Builder_Grow_fresh w.heap.size w2.heap.size (s.size + M) _ hws (by show (w2.heap.push _)[w2.heap.size]? = _; simp) (by show _ ≤ (w2.heap.push _).size; rw [Array.size_push]; omega) (by omega)).mono ?_
  rintro e w3 ⟨rfl, hb3, hB3⟩
  have Hb3 := Lib.hid ((Hb2.out.alloc hws _).trans hB3)
  have HI3 := Lib.hid hb3
  clear hb3 hB3
  have hBw : ∀ W, Below w.heap.size w W → w.heap.size ≤ W.heap.size := fun W h => h.size
  go_wp2_with fail
  have HI3' := Lib.hid (show Lib.IsBuilder _ _ _ _ (Lib.byteCells []) _ from .inr HI3.out)
  replace HI3 := HI3'
  clear HI3'
  have hrn4 : ((n : Int) - (l : Int)) = (((n - l) : Nat) : Int) := by omega
  rw [hrn4]
  have had : adv pad ((n - l) % pl) 0 = (0, (adv pad ((n - l) % pl) 0).2) := adv_some pad _ (by rw [← HPL0.out]; exact Nat.le_of_lt (Nat.mod_lt _ hpl1))
  refine (writePad_walk pad w.heap.size w2.heap.size ([]) pl (n - l) _ w w3 hp (by show 0 ≤ _; omega) hpl1 (by omega) hpl2 had HT.out Hb3.out (Nat.le_refl _) HI3.out (hBw _ Hb3.out)).mono ?_
  rintro e w4 ⟨rfl, hb4, hB4⟩
  have Hb4 := Lib.hid (Hb3.out.trans hB4)
  have eR : repL pad ((n - l) / pl) ++ pad.toList.take (adv pad ((n - l) % pl) 0).2 = padL pad (n - l) := by unfold padL; rw [← HPL0.out]
  rw [eR] at hb4
  have HI4 := Lib.hid hb4
  clear hb4 hB4 eR had hrn4
  go_wp2_with fail
  refine (WriteString w.heap.size w2.heap.size (Lib.byteCells ([] ++ padL pad (n - l))) s _ (HI4.out) (by rw [bytes_len]; have := padL_len pad (n - l) hp; rw [List.length_append]; show 0 + _ + s.size ≤ _; omega) (hBw _ Hb4.out)).mono ?_
  rintro e w5 ⟨rfl, hb5, hB5⟩
  have Hb5 := Lib.hid (Hb4.out.trans hB5)
  rw [strCells_tl, bytes_app] at hb5
  have HI5 := Lib.hid (show Lib.IsBuilder _ _ _ _ _ _ from .inr hb5)
  clear hb5 hB5
  go_wp2_with fail
  refine (Tryd.Builder_String_any w.heap.size w2.heap.size ([] ++ padL pad (n - l) ++ s.toList) w5 HI5.out (hBw _ Hb5.out)).mono ?_
  rintro e w9 ⟨rfl, hB9⟩
  have Hb9 := Lib.hid (Hb5.out.trans hB9)
  clear hB9
  go_wp2_with fail
  go_ret
  refine ⟨_, rfl, ?_, Hb9.out⟩
  rw [tl_mk, HR.out, ← HL0.out]; try simp

set_option maxHeartbeats 8000000 in
theorem center_walk (s pad : ByteArray) (n : Nat) (w : World) (hs : s.size ≤ 1000) (hp : pad.size ≤ 1000) (hp1 : 1 ≤ pad.size) (hn : n ≤ 300) (hl : Lib.runeCount s < n) (T : Tabs w) :
    Calls Tryd.prog 48 #[.string s, .int .i64 (n : Int), .string pad] w fun e w' => ∃ r : ByteArray, e = .returned (.string r) ∧ r.toList = padL pad ((n - Lib.runeCount s) / 2) ++ (s.toList ++ padL pad ((n - Lib.runeCount s + 1) / 2)) ∧ Below w.heap.size w w' := by
  have hp0 : (pad.toList == ([] : List UInt8)) = false := by
    cases h : pad.toList with
    | nil => have := len_eq pad; rw [h, List.length_nil] at this; omega
    | cons a t => rfl
  have HT := Lib.hid T
  have HLs := Lib.hid (fun w => len_walk s w (by omega))
  have HLp := Lib.hid (fun w => len_walk pad w (by omega))
  obtain ⟨l, hl0⟩ : ∃ l, l = Lib.runeCount s := ⟨_, rfl⟩
  obtain ⟨pl, hpl0⟩ : ∃ pl, pl = Lib.runeCount pad := ⟨_, rfl⟩
  have hpl1 : 1 ≤ pl := by rw [hpl0]; exact count_pos pad hp1
  have hpl2 : pl ≤ 1000 := by rw [hpl0]; exact Nat.le_trans (count_le pad) hp
  obtain ⟨R, hR⟩ : ∃ R, R = padL pad ((n - Lib.runeCount s) / 2) ++ (s.toList ++ padL pad ((n - Lib.runeCount s + 1) / 2)) := ⟨_, rfl⟩
  rw [← hR]
  have HR := Lib.hid hR
  rw [← hl0] at HLs hl
  rw [← hpl0] at HLp
  have HL0 := Lib.hid hl0
  have HPL0 := Lib.hid hpl0
  clear T hR hl0 hpl0
  obtain ⟨q, hq⟩ : ∃ q, q = (n - l) / pl := ⟨_, rfl⟩
  have hqi : ((n : Int) - (l : Int)) / (pl : Int) = (q : Int) := by rw [hq, show (n : Int) - (l : Int) = ((n - l : Nat) : Int) by omega]; rfl
  have hq2 : q ≤ 300 := by rw [hq]; exact Nat.le_trans (Nat.div_le_self (n - l) pl) (by omega)
  have hpl' : ¬ (pl : Int) = 0 := by omega
  have hM : (q + 1) * pad.size ≤ 301 * 1000 := Nat.mul_le_mul (by omega) hp
  obtain ⟨M, hM0⟩ : ∃ M, M = (q + 1) * pad.size := ⟨_, rfl⟩
  rw [← hM0] at hM
  have hg : wrap64 ((s.size : Int) + wrap64 (((q : Int) + 1) * (pad.size : Int))) = ((s.size + M : Nat) : Int) := by
    have e : ((q : Int) + 1) * (pad.size : Int) = (M : Int) := by rw [hM0]; push_cast; rfl
    rw [e, show wrap64 (M : Int) = (M : Int) from w64 (by omega) (by omega), w64 (by omega) (by omega)]; push_cast; rfl
  have HG := Lib.hid hg
  clear hg hM0
  have hl' : ¬ (n : Int) ≤ (l : Int) := by omega
  have HQ := Lib.hid hq
  clear hq
  go_enter Tryd.func48, Tryd.ntmps48
  go_wp2_with fail
  refine (HLs.out _).mono ?_
  rintro e w1 ⟨rfl, hb1⟩
  have Hb1 := Lib.hid hb1
  clear hb1
  go_wp2_with fail
  refine (HLp.out _).mono ?_
  rintro e w2 ⟨rfl, hb2⟩
  have Hb2 := Lib.hid (Hb1.out.trans (hb2.mono Hb1.out.size))
  clear hb2
  go_wp2_with fail
  rw [HG.out]
  have hws := Hb2.out.size
  refine (Tryd.Builder_Grow_fresh w.heap.size w2.heap.size (s.size + M) _ hws (by show (w2.heap.push _)[w2.heap.size]? = _; simp) (by show _ ≤ (w2.heap.push _).size; rw [Array.size_push]; omega) (by omega)).mono ?_
  rintro e w3 ⟨rfl, hb3, hB3⟩
  have Hb3 := Lib.hid ((Hb2.out.alloc hws _).trans hB3)
  have HI3 := Lib.hid hb3
  clear hb3 hB3
  have hBw : ∀ W, Below w.heap.size w W → w.heap.size ≤ W.heap.size := fun W h => h.size
  go_wp2_with fail
  have HI3' := Lib.hid (show Lib.IsBuilder _ _ _ _ (Lib.byteCells []) _ from .inr HI3.out)
  replace HI3 := HI3'
  clear HI3'
  have hrn4 : ((n : Int) - (l : Int)) / 2 = ((((n - l) / 2) : Nat) : Int) := by omega
  rw [hrn4]
  have had : adv pad (((n - l) / 2) % pl) 0 = (0, (adv pad (((n - l) / 2) % pl) 0).2) := adv_some pad _ (by rw [← HPL0.out]; exact Nat.le_of_lt (Nat.mod_lt _ hpl1))
  refine (writePad_walk pad w.heap.size w2.heap.size ([]) pl ((n - l) / 2) _ w w3 hp (by show 0 ≤ _; omega) hpl1 (by omega) hpl2 had HT.out Hb3.out (Nat.le_refl _) HI3.out (hBw _ Hb3.out)).mono ?_
  rintro e w4 ⟨rfl, hb4, hB4⟩
  have Hb4 := Lib.hid (Hb3.out.trans hB4)
  have eR : repL pad (((n - l) / 2) / pl) ++ pad.toList.take (adv pad (((n - l) / 2) % pl) 0).2 = padL pad ((n - l) / 2) := by unfold padL; rw [← HPL0.out]
  rw [eR] at hb4
  have HI4 := Lib.hid hb4
  clear hb4 hB4 eR had hrn4
  go_wp2_with fail
  refine (WriteString w.heap.size w2.heap.size (Lib.byteCells ([] ++ padL pad ((n - l) / 2))) s _ (HI4.out) (by rw [bytes_len]; have := padL_len pad ((n - l) / 2) hp; rw [List.length_append]; show 0 + _ + s.size ≤ _; omega) (hBw _ Hb4.out)).mono ?_
  rintro e w5 ⟨rfl, hb5, hB5⟩
  have Hb5 := Lib.hid (Hb4.out.trans hB5)
  rw [strCells_tl, bytes_app] at hb5
  have HI5 := Lib.hid (show Lib.IsBuilder _ _ _ _ _ _ from .inr hb5)
  clear hb5 hB5
  go_wp2_with fail
  have hrn6 : (((n : Int) - (l : Int)) + 1) / 2 = ((((n - l + 1) / 2) : Nat) : Int) := by omega
  rw [hrn6]
  have had : adv pad (((n - l + 1) / 2) % pl) 0 = (0, (adv pad (((n - l + 1) / 2) % pl) 0).2) := adv_some pad _ (by rw [← HPL0.out]; exact Nat.le_of_lt (Nat.mod_lt _ hpl1))
  refine (writePad_walk pad w.heap.size w2.heap.size ([] ++ padL pad ((n - l) / 2) ++ s.toList) pl ((n - l + 1) / 2) _ w w5 hp (by rw [List.length_append, List.nil_append, ← len_eq]; have := padL_len pad ((n - l) / 2) hp; omega) hpl1 (by omega) hpl2 had HT.out Hb5.out (Nat.le_refl _) HI5.out (hBw _ Hb5.out)).mono ?_
  rintro e w6 ⟨rfl, hb6, hB6⟩
  have Hb6 := Lib.hid (Hb5.out.trans hB6)
  have eR : repL pad (((n - l + 1) / 2) / pl) ++ pad.toList.take (adv pad (((n - l + 1) / 2) % pl) 0).2 = padL pad ((n - l + 1) / 2) := by unfold padL; rw [← HPL0.out]
  rw [eR] at hb6
  have HI6 := Lib.hid hb6
  clear hb6 hB6 eR had hrn6
  go_wp2_with fail
  refine (Tryd.Builder_String_any w.heap.size w2.heap.size ([] ++ padL pad ((n - l) / 2) ++ s.toList ++ padL pad ((n - l + 1) / 2)) w6 HI6.out (hBw _ Hb6.out)).mono ?_
  rintro e w9 ⟨rfl, hB9⟩
  have Hb9 := Lib.hid (Hb6.out.trans hB9)
  clear hB9
  go_wp2_with fail
  go_ret
  refine ⟨_, rfl, ?_, Hb9.out⟩
  rw [tl_mk, HR.out, ← HL0.out]; try simp

set_option maxHeartbeats 4000000 in
theorem left_same (s pad : ByteArray) (n : Nat) (w : World) (hs : s.size ≤ 1000) (hl : n ≤ Lib.runeCount s) (hn : n ≤ 300) :
    Calls Tryd.prog 46 #[.string s, .int .i64 (n : Int), .string pad] w fun e w' => e = .returned (.string s) ∧ Below w.heap.size w w' := by
  have HLs := Lib.hid (fun w => len_walk s w (by omega))
  obtain ⟨l, hl0⟩ : ∃ l, l = Lib.runeCount s := ⟨_, rfl⟩
  rw [← hl0] at HLs hl
  have hl' : (n : Int) ≤ (l : Int) := by omega
  clear hl0
  go_enter Tryd.func46, Tryd.ntmps46
  go_wp2_with fail
  refine (HLs.out _).mono ?_
  rintro e w1 ⟨rfl, hb1⟩
  have Hb1 := Lib.hid hb1
  clear hb1
  go_wp2_with fail
  go_ret
  exact ⟨rfl, Hb1.out⟩
def leftS (s : ByteArray) (n : Int) (pad : ByteArray) : ByteArray := if Lib.runeCount s < n.toNat then ⟨(s.toList ++ padL pad (n.toNat - Lib.runeCount s)).toArray⟩ else s
def xstrings_LeftJustify.f (a0 : ByteArray) (a1 : Int) (a2 : ByteArray) : Option (ByteArray) := if a0.size ≤ 1000 ∧ a2.size ≤ 1000 ∧ 1 ≤ a2.size ∧ 0 ≤ a1 ∧ a1 ≤ 300 then some (leftS a0 a1 a2) else none
theorem xstrings_LeftJustify.calls (a0 : ByteArray) (a1 : Int) (a2 : ByteArray) (r : ByteArray) (w : World) (T : Tabs w) (h : xstrings_LeftJustify.f a0 a1 a2 = some r) :
    Calls Tryd.prog 46 #[.string a0, .int .i64 a1, .string a2] w fun e w' => e = .returned (.string r) ∧ Below w.heap.size w w' := by
  unfold xstrings_LeftJustify.f at h
  split at h
  case isFalse => exact absurd h (by simp)
  rename_i hb
  obtain rfl := Option.some.inj h
  obtain ⟨n, rfl⟩ : ∃ n : Nat, a1 = (n : Int) := ⟨a1.toNat, by omega⟩
  unfold leftS
  split
  · rename_i hl
    rw [Int.toNat_natCast] at hl ⊢
    refine (left_walk a0 a2 n w hb.1 hb.2.1 hb.2.2.1 (by omega) hl T).mono ?_
    rintro e w' ⟨r, rfl, hr, hB⟩
    have e : r = _ := ext_eq (hr.trans (tl_mk _).symm)
    rw [e]
    exact ⟨rfl, hB⟩
  · rename_i hl
    exact left_same a0 a2 n w hb.1 (by omega) (by omega)

set_option maxHeartbeats 4000000 in
theorem right_same (s pad : ByteArray) (n : Nat) (w : World) (hs : s.size ≤ 1000) (hl : n ≤ Lib.runeCount s) (hn : n ≤ 300) :
    Calls Tryd.prog 47 #[.string s, .int .i64 (n : Int), .string pad] w fun e w' => e = .returned (.string s) ∧ Below w.heap.size w w' := by
  have HLs := Lib.hid (fun w => len_walk s w (by omega))
  obtain ⟨l, hl0⟩ : ∃ l, l = Lib.runeCount s := ⟨_, rfl⟩
  rw [← hl0] at HLs hl
  have hl' : (n : Int) ≤ (l : Int) := by omega
  clear hl0
  go_enter Tryd.func47, Tryd.ntmps47
  go_wp2_with fail
  refine (HLs.out _).mono ?_
  rintro e w1 ⟨rfl, hb1⟩
  have Hb1 := Lib.hid hb1
  clear hb1
  go_wp2_with fail
  go_ret
  exact ⟨rfl, Hb1.out⟩
def rightS (s : ByteArray) (n : Int) (pad : ByteArray) : ByteArray := if Lib.runeCount s < n.toNat then ⟨(padL pad (n.toNat - Lib.runeCount s) ++ s.toList).toArray⟩ else s
def xstrings_RightJustify.f (a0 : ByteArray) (a1 : Int) (a2 : ByteArray) : Option (ByteArray) := if a0.size ≤ 1000 ∧ a2.size ≤ 1000 ∧ 1 ≤ a2.size ∧ 0 ≤ a1 ∧ a1 ≤ 300 then some (rightS a0 a1 a2) else none
theorem xstrings_RightJustify.calls (a0 : ByteArray) (a1 : Int) (a2 : ByteArray) (r : ByteArray) (w : World) (T : Tabs w) (h : xstrings_RightJustify.f a0 a1 a2 = some r) :
    Calls Tryd.prog 47 #[.string a0, .int .i64 a1, .string a2] w fun e w' => e = .returned (.string r) ∧ Below w.heap.size w w' := by
  unfold xstrings_RightJustify.f at h
  split at h
  case isFalse => exact absurd h (by simp)
  rename_i hb
  obtain rfl := Option.some.inj h
  obtain ⟨n, rfl⟩ : ∃ n : Nat, a1 = (n : Int) := ⟨a1.toNat, by omega⟩
  unfold rightS
  split
  · rename_i hl
    rw [Int.toNat_natCast] at hl ⊢
    refine (right_walk a0 a2 n w hb.1 hb.2.1 hb.2.2.1 (by omega) hl T).mono ?_
    rintro e w' ⟨r, rfl, hr, hB⟩
    have e : r = _ := ext_eq (hr.trans (tl_mk _).symm)
    rw [e]
    exact ⟨rfl, hB⟩
  · rename_i hl
    exact right_same a0 a2 n w hb.1 (by omega) (by omega)

set_option maxHeartbeats 4000000 in
theorem center_same (s pad : ByteArray) (n : Nat) (w : World) (hs : s.size ≤ 1000) (hl : n ≤ Lib.runeCount s) (hn : n ≤ 300) :
    Calls Tryd.prog 48 #[.string s, .int .i64 (n : Int), .string pad] w fun e w' => e = .returned (.string s) ∧ Below w.heap.size w w' := by
  have HLs := Lib.hid (fun w => len_walk s w (by omega))
  obtain ⟨l, hl0⟩ : ∃ l, l = Lib.runeCount s := ⟨_, rfl⟩
  rw [← hl0] at HLs hl
  have hl' : (n : Int) ≤ (l : Int) := by omega
  clear hl0
  go_enter Tryd.func48, Tryd.ntmps48
  go_wp2_with fail
  refine (HLs.out _).mono ?_
  rintro e w1 ⟨rfl, hb1⟩
  have Hb1 := Lib.hid hb1
  clear hb1
  go_wp2_with fail
  go_ret
  exact ⟨rfl, Hb1.out⟩
def centerS (s : ByteArray) (n : Int) (pad : ByteArray) : ByteArray := if Lib.runeCount s < n.toNat then ⟨(padL pad ((n.toNat - Lib.runeCount s) / 2) ++ (s.toList ++ padL pad ((n.toNat - Lib.runeCount s + 1) / 2))).toArray⟩ else s
def xstrings_Center.f (a0 : ByteArray) (a1 : Int) (a2 : ByteArray) : Option (ByteArray) := if a0.size ≤ 1000 ∧ a2.size ≤ 1000 ∧ 1 ≤ a2.size ∧ 0 ≤ a1 ∧ a1 ≤ 300 then some (centerS a0 a1 a2) else none
theorem xstrings_Center.calls (a0 : ByteArray) (a1 : Int) (a2 : ByteArray) (r : ByteArray) (w : World) (T : Tabs w) (h : xstrings_Center.f a0 a1 a2 = some r) :
    Calls Tryd.prog 48 #[.string a0, .int .i64 a1, .string a2] w fun e w' => e = .returned (.string r) ∧ Below w.heap.size w w' := by
  unfold xstrings_Center.f at h
  split at h
  case isFalse => exact absurd h (by simp)
  rename_i hb
  obtain rfl := Option.some.inj h
  obtain ⟨n, rfl⟩ : ∃ n : Nat, a1 = (n : Int) := ⟨a1.toNat, by omega⟩
  unfold centerS
  split
  · rename_i hl
    rw [Int.toNat_natCast] at hl ⊢
    refine (center_walk a0 a2 n w hb.1 hb.2.1 hb.2.2.1 (by omega) hl T).mono ?_
    rintro e w' ⟨r, rfl, hr, hB⟩
    have e : r = _ := ext_eq (hr.trans (tl_mk _).symm)
    rw [e]
    exact ⟨rfl, hB⟩
  · rename_i hl
    exact center_same a0 a2 n w hb.1 (by omega) (by omega)

def xstrings_Len.f (a0 : ByteArray) : Option (Int) := if a0.size ≤ 10000000 then some (Lib.runeCount a0 : Int) else none
theorem xstrings_Len.calls (a0 : ByteArray) (r : Int) (w : World) (h : xstrings_Len.f a0 = some r) :
    Calls Tryd.prog 49 #[.string a0] w fun e w' => e = .returned (.int .i64 r) ∧ Below w.heap.size w w' := by
  unfold xstrings_Len.f at h
  split at h
  · obtain rfl := Option.some.inj h
    exact len_walk a0 w (by assumption)
  · exact absurd h (by simp)

end Go.Proofs.YtpkdoinofenahaaDoor.Giv
