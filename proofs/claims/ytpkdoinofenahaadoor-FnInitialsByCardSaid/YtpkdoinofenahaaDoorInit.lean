/- Walks of goutils.isDelimiter and Initials and of impl.InitialsBy, over ASCII: what they answer. -/
import Derived.Test.YtpkdoinofenahaaDoorIsIn
import Derived.Test.YtpkdoinofenahaaDoorShelf
import Derived.Test.YtpkdoinofenahaaDoorShelfB
import Derived.Test.YtpkdoinofenahaaDoorFirst
import Derived.Test.YtpkdoinofenahaaDoorBldK
import Derived.Lib.BufferMore
namespace Go.Proofs.YtpkdoinofenahaaDoor.Giv
open Go.RowKit Go.Proofs.YtpkdoinofenahaaDoorW.PrintWords Go.Proofs.YtpkdoinofenahaaDoor.Txt
set_option linter.unusedVariables false
set_option maxRecDepth 20000

theorem delim_nil (x : Nat) (hx : x < 128) (w : World) :
    Calls Tryd.prog 83 #[.int .i32 (x : Int), .slice none 0 0] w fun e w' => e = .returned (.bool (Lib.isSpaceL (x : Int))) ∧ w' = w := by
  have hs := Lib.hid (Tryd.unicode_IsSpace (x : Int) w (by omega) (by omega))
  obtain ⟨r, hr⟩ : ∃ r, r = Lib.isSpaceL (x : Int) := ⟨_, rfl⟩
  rw [← hr] at hs ⊢
  clear hr
  go_enter Tryd.func83, Tryd.ntmps83
  go_wp2_with fail
  rw [Lib.run_eql_slice_nil_nil w 0 0 Tryd.underlying42]
  simp only [Result.andThen]
  rw [Oper.upon_value]
  go_wp2_with fail
  refine (hs.out).mono ?_
  rintro e w1 ⟨rfl, rfl⟩
  go_wp2_with fail
  go_ret
  exact ⟨rfl, rfl⟩
/-- The runes of a row. -/
def RowI (W : World) (g : Nat) (xs : List Int) : Prop := ∀ j (h : j < xs.length), W.cell? ⟨g, j, none⟩ = some (.int .i32 xs[j])
set_option maxHeartbeats 2000000 in
theorem delim_row (x : Int) (xs : List Int) (g n cap : Nat) (w : World) (hn : n = xs.length) (hn2 : n ≤ 10000) (hrow : RowI w g xs) :
    Calls Tryd.prog 83 #[.int .i32 x, .slice (some ⟨g, 0, none⟩) n cap] w fun e w' => e = .returned (.bool (decide (x ∈ xs))) ∧ w' = w := by
  obtain ⟨R, hR⟩ : ∃ R, R = decide (x ∈ xs) := ⟨_, rfl⟩
  rw [← hR]
  have HR := Lib.hid hR
  have HN := Lib.hid hn
  have HW := Lib.hid hrow
  clear hR hn hrow
  go_enter Tryd.func83, Tryd.ntmps83
  go_wp2_with fail
  rw [Lib.run_eql_slice_some_nil w ⟨g, 0, none⟩ n cap Tryd.underlying42]
  simp only [Result.andThen]
  rw [Oper.upon_value]
  go_wp2_with fail
  go_loopg [6, 13] n (fun kq v6 v13 wr => ∃ (i : Nat) (x6 : Value), v6 = x6 ∧ v13 = .int .i64 (i : Int) ∧ i + kq = n ∧ wr = w ∧ Hid (decide (x ∈ xs.drop i) = R))
  case atStart => exact ⟨0, _, rfl, rfl, by omega, rfl, Lib.hid (by rw [HR.out]; rfl)⟩
  case round =>
    obtain ⟨i, x6, rfl, rfl, hik, rfl, HA⟩ := hrel
    cases gk with
    | zero =>
      obtain rfl : i = n := by omega
      have hfin : R = false := by rw [← HA.out, HN.out, List.drop_length]; rfl
      have HF := Lib.hid hfin
      clear hfin hik
      go_wp2_with fail
      go_ret
      exact ⟨by rw [HF.out]; rfl, rfl⟩
    | succ m =>
      have hi : i < xs.length := by have := HN.out; omega
      have hin : i < n := by omega
      have HIK := Lib.hid hik
      clear hik
      have hc := HW.out i hi
      have hd : xs.drop i = xs[i] :: xs.drop (i + 1) := List.drop_eq_getElem_cons hi
      obtain ⟨y, hy⟩ : ∃ y, y = xs[i] := ⟨_, rfl⟩
      rw [← hy] at hc hd
      have HD := Lib.hid hd
      clear hd hy hi
      by_cases hxy : x = y
      · subst hxy
        have hfin : R = true := by rw [← HA.out, HD.out]; simp
        have HF := Lib.hid hfin
        clear hfin
        go_wp2_with fail
        go_ret
        exact ⟨by rw [HF.out]; rfl, rfl⟩
      · have hstep : decide (x ∈ xs.drop (i + 1)) = R := by rw [← HA.out, HD.out]; simp [hxy]
        have HS := Lib.hid hstep
        clear hstep
        go_wp2_with fail
        go_roundg m
        case measure => exact Nat.lt_succ_self m
        case rel => exact ⟨i + 1, _, rfl, by simp, by (have := HIK.out; omega), rfl, HS⟩

/-- First letters behind gaps. -/
def initL (isD : UInt8 → Bool) : Bool → List UInt8 → List UInt8
  | _, [] => []
  | gap, c :: t => if isD c then initL isD true t else if gap then c :: initL isD false t else initL isD false t
theorem index_byte (s : ByteArray) (i : Nat) (h : i < s.toList.length) (hs : i < s.size) : (s[i]'hs) = s.toList[i] := by
  have : s.toList = s.data.toList := Lib.toList_data s
  simp only [this, Array.getElem_toList]
  rfl
theorem bufferBelow {w w' : World} {B b : Nat} {T e : TypeId} {bs : List Value} (h : Lib.IsBuffer T e B b bs w) (hb : Below w.heap.size w w') : Lib.IsBuffer T e B b bs w' := by
  have hlt := h.lt
  obtain ⟨hB, v, lr, hbk, hown, hne⟩ := h
  exact ⟨hB, v, lr, (hb.block b hlt).trans hbk, ownsBelow hown hb, hne⟩
set_option maxHeartbeats 8000000 in
theorem init_nil (s : ByteArray) (isD : UInt8 → Bool) (w : World) (hs : s.size ≤ 1000) (h1 : 1 ≤ s.size) (ha : asciiB s) 
    (hdel : ∀ (c : UInt8) (W : World), c.toNat < 128 → Below w.heap.size w W → Calls Tryd.prog 83 #[.int .i32 (c.toNat : Int), .slice none 0 0] W fun e w' => e = .returned (.bool (isD c)) ∧ w' = W) :
    Calls Tryd.prog 59 #[.string s, .slice none 0 0] w fun e w' => e = .returned (.string ⟨(initL isD true s.toList).toArray⟩) ∧ Below w.heap.size w w' := by
  have hs0 : (s.toList == ([] : List UInt8)) = false := by
    cases h : s.toList with
    | nil => have := len_eq s; rw [h, List.length_nil] at this; omega
    | cons a t => rfl
  have HA := Lib.hid ha
  have HD := Lib.hid hdel
  have hl := Lib.hid (len_eq s)
  obtain ⟨R, hR⟩ : ∃ R, R = initL isD true s.toList := ⟨_, rfl⟩
  rw [← hR]
  have HR := Lib.hid hR
  clear hR ha hdel
  go_enter Tryd.func59, Tryd.ntmps59
  go_wp2_with fail
  have HB0 := Lib.hid (Lib.fresh_isBuffer 69 5 w)
  go_loopg [7, 8, 9] s.size (fun kq v7 v8 v9 wr => ∃ (i : Nat) (gap : Bool) (acc : List UInt8) (x9 : Value), v7 = .bool gap ∧ v8 = .int .i64 (i : Int) ∧ v9 = x9 ∧ Hid (i + kq = s.size) ∧ Hid (Lib.IsBuffer 69 5 w.heap.size w.heap.size (Lib.byteCells acc) wr) ∧ Hid (Below w.heap.size w wr) ∧ Hid (acc ++ initL isD gap (s.toList.drop i) = R) ∧ Hid (acc.length ≤ i))
  case atStart => exact ⟨0, true, [], _, rfl, rfl, rfl, Lib.hid (by omega), HB0, Lib.hid ((Below.refl _ _).alloc (Nat.le_refl _) _), Lib.hid (by rw [HR.out]; rfl), Lib.hid (Nat.zero_le _)⟩
  case round =>
    obtain ⟨i, gap, acc, x9, rfl, rfl, rfl, H0, HI, HB, HC, HL⟩ := hrel
    cases gk with
    | zero =>
      have hie : i = s.size := by have := H0.out; omega
      have hnil : s.toList.drop i = [] := List.drop_eq_nil_of_le (by have := hl.out; omega)
      have hfin : acc = R := by rw [← HC.out, hnil]; simp [initL]
      have hbuf := HI.out
      rw [hfin] at hbuf
      have HI2 := Lib.hid hbuf
      clear hnil hfin hbuf
      subst hie
      go_wp2_with fail
      refine (Tryd.Buffer_String w.heap.size w.heap.size R wr HI2.out).mono ?_
      rintro e w2 ⟨rfl, nn, rfl⟩
      have HB2 := Lib.hid (pw_below_drewN HB.out nn)
      go_wp2_with fail
      go_ret
      exact ⟨rfl, HB2.out⟩
    | succ m =>
      have hp : i < s.size := by have := H0.out; omega
      have hlt : i < s.toList.length := by have := hl.out; omega
      obtain ⟨c, hc⟩ : ∃ c, c = s.toList[i] := ⟨_, rfl⟩
      have hdr : s.toList.drop i = c :: s.toList.drop (i + 1) := by rw [hc]; exact List.drop_eq_getElem_cons hlt
      have hc7 : c.toNat < 128 := HA.out c (by rw [hc]; exact List.getElem_mem hlt)
      have hix : s[i]'hp = c := by rw [hc]; exact index_byte s i hlt hp
      have HK := Lib.hid (HD.out c wr hc7 HB.out)
      have HDR := Lib.hid hdr
      clear hc hdr hlt
      cases hD : isD c with
      | true =>
        rw [hD] at HK
        have HIC := Lib.hid hD
        clear hD
        go_wp2_with fail
        refine (HK.out).mono ?_
        rintro e w1 ⟨rfl, rfl⟩
        go_wp2_with fail
        go_roundg m
        case measure => exact Nat.lt_succ_self m
        case rel => exact ⟨i + 1, true, acc, _, rfl, by simp, rfl, Lib.hid (by have := H0.out; omega), HI, HB, Lib.hid (by rw [← HC.out, HDR.out, initL, if_pos HIC.out]), Lib.hid (by have := HL.out; omega)⟩
      | false =>
        rw [hD] at HK
        have HIC := Lib.hid (show ¬ isD c = true by rw [hD]; decide)
        clear hD
        cases gap with
        | false =>
          go_wp2_with fail
          refine (HK.out).mono ?_
          rintro e w1 ⟨rfl, rfl⟩
          go_wp2_with fail
          go_roundg m
          case measure => exact Nat.lt_succ_self m
          case rel => exact ⟨i + 1, false, acc, _, rfl, by simp, rfl, Lib.hid (by have := H0.out; omega), HI, HB, Lib.hid (by rw [← HC.out, HDR.out, initL, if_neg HIC.out, if_neg (by decide)]), Lib.hid (by have := HL.out; omega)⟩
        | true =>
          go_wp2_with fail
          refine (HK.out).mono ?_
          rintro e w1 ⟨rfl, rfl⟩
          go_wp2_with fail
          refine (Tryd.Buffer_WriteRune_ascii w.heap.size w.heap.size (Lib.byteCells acc) (c.toNat : Int) (by omega) (by omega) _ HI.out HB.out.size (by intro v hv; obtain ⟨z, _, rfl⟩ := List.mem_map.1 hv; rfl) (by rw [bytes_len]; have := HL.out; omega)).mono ?_
          rintro e w2 ⟨rfl, hI2, hB2, -⟩
          have HI2 : Hid (Lib.IsBuffer 69 5 w.heap.size w.heap.size (Lib.byteCells (acc ++ [c])) w2) := Lib.hid (by unfold Lib.byteCells at hI2 ⊢; rw [List.map_append]; exact hI2)
          have HB2 := Lib.hid (HB.out.trans hB2)
          clear hI2 hB2
          go_wp2_with fail
          go_roundg m
          case measure => exact Nat.lt_succ_self m
          case rel => exact ⟨i + 1, false, acc ++ [c], _, rfl, by simp, rfl, Lib.hid (by have := H0.out; omega), HI2, HB2, Lib.hid (by rw [← HC.out, HDR.out, initL, if_neg HIC.out, if_pos rfl, List.append_assoc]; rfl), Lib.hid (by rw [List.length_append]; have := HL.out; simp; omega)⟩

set_option maxHeartbeats 8000000 in
theorem init_row (s : ByteArray) (isD : UInt8 → Bool) (g n cap : Nat) (w : World) (hs : s.size ≤ 1000) (h1 : 1 ≤ s.size) (ha : asciiB s) (hn : 1 ≤ n) 
    (hdel : ∀ (c : UInt8) (W : World), c.toNat < 128 → Below w.heap.size w W → Calls Tryd.prog 83 #[.int .i32 (c.toNat : Int), .slice (some ⟨g, 0, none⟩) n cap] W fun e w' => e = .returned (.bool (isD c)) ∧ w' = W) :
    Calls Tryd.prog 59 #[.string s, .slice (some ⟨g, 0, none⟩) n cap] w fun e w' => e = .returned (.string ⟨(initL isD true s.toList).toArray⟩) ∧ Below w.heap.size w w' := by
  have hs0 : (s.toList == ([] : List UInt8)) = false := by
    cases h : s.toList with
    | nil => have := len_eq s; rw [h, List.length_nil] at this; omega
    | cons a t => rfl
  have HA := Lib.hid ha
  have HD := Lib.hid hdel
  have hl := Lib.hid (len_eq s)
  obtain ⟨R, hR⟩ : ∃ R, R = initL isD true s.toList := ⟨_, rfl⟩
  rw [← hR]
  have HR := Lib.hid hR
  clear hR ha hdel
  have hnb : ((n : Int) == 0) = false := beq_eq_false_iff_ne.2 (by omega)
  go_enter Tryd.func59, Tryd.ntmps59
  go_wp2_with fail
  have HB0 := Lib.hid (Lib.fresh_isBuffer 69 5 w)
  go_loopg [7, 8, 9] s.size (fun kq v7 v8 v9 wr => ∃ (i : Nat) (gap : Bool) (acc : List UInt8) (x9 : Value), v7 = .bool gap ∧ v8 = .int .i64 (i : Int) ∧ v9 = x9 ∧ Hid (i + kq = s.size) ∧ Hid (Lib.IsBuffer 69 5 w.heap.size w.heap.size (Lib.byteCells acc) wr) ∧ Hid (Below w.heap.size w wr) ∧ Hid (acc ++ initL isD gap (s.toList.drop i) = R) ∧ Hid (acc.length ≤ i))
  case atStart => exact ⟨0, true, [], _, rfl, rfl, rfl, Lib.hid (by omega), HB0, Lib.hid ((Below.refl _ _).alloc (Nat.le_refl _) _), Lib.hid (by rw [HR.out]; rfl), Lib.hid (Nat.zero_le _)⟩
  case round =>
    obtain ⟨i, gap, acc, x9, rfl, rfl, rfl, H0, HI, HB, HC, HL⟩ := hrel
    cases gk with
    | zero =>
      have hie : i = s.size := by have := H0.out; omega
      have hnil : s.toList.drop i = [] := List.drop_eq_nil_of_le (by have := hl.out; omega)
      have hfin : acc = R := by rw [← HC.out, hnil]; simp [initL]
      have hbuf := HI.out
      rw [hfin] at hbuf
      have HI2 := Lib.hid hbuf
      clear hnil hfin hbuf
      subst hie
      go_wp2_with fail
      refine (Tryd.Buffer_String w.heap.size w.heap.size R wr HI2.out).mono ?_
      rintro e w2 ⟨rfl, nn, rfl⟩
      have HB2 := Lib.hid (pw_below_drewN HB.out nn)
      go_wp2_with fail
      go_ret
      exact ⟨rfl, HB2.out⟩
    | succ m =>
      have hp : i < s.size := by have := H0.out; omega
      have hlt : i < s.toList.length := by have := hl.out; omega
      obtain ⟨c, hc⟩ : ∃ c, c = s.toList[i] := ⟨_, rfl⟩
      have hdr : s.toList.drop i = c :: s.toList.drop (i + 1) := by rw [hc]; exact List.drop_eq_getElem_cons hlt
      have hc7 : c.toNat < 128 := HA.out c (by rw [hc]; exact List.getElem_mem hlt)
      have hix : s[i]'hp = c := by rw [hc]; exact index_byte s i hlt hp
      have HK := Lib.hid (HD.out c wr hc7 HB.out)
      have HDR := Lib.hid hdr
      clear hc hdr hlt
      cases hD : isD c with
      | true =>
        rw [hD] at HK
        have HIC := Lib.hid hD
        clear hD
        go_wp2_with fail
        refine (HK.out).mono ?_
        rintro e w1 ⟨rfl, rfl⟩
        go_wp2_with fail
        go_roundg m
        case measure => exact Nat.lt_succ_self m
        case rel => exact ⟨i + 1, true, acc, _, rfl, by simp, rfl, Lib.hid (by have := H0.out; omega), HI, HB, Lib.hid (by rw [← HC.out, HDR.out, initL, if_pos HIC.out]), Lib.hid (by have := HL.out; omega)⟩
      | false =>
        rw [hD] at HK
        have HIC := Lib.hid (show ¬ isD c = true by rw [hD]; decide)
        clear hD
        cases gap with
        | false =>
          go_wp2_with fail
          refine (HK.out).mono ?_
          rintro e w1 ⟨rfl, rfl⟩
          go_wp2_with fail
          go_roundg m
          case measure => exact Nat.lt_succ_self m
          case rel => exact ⟨i + 1, false, acc, _, rfl, by simp, rfl, Lib.hid (by have := H0.out; omega), HI, HB, Lib.hid (by rw [← HC.out, HDR.out, initL, if_neg HIC.out, if_neg (by decide)]), Lib.hid (by have := HL.out; omega)⟩
        | true =>
          go_wp2_with fail
          refine (HK.out).mono ?_
          rintro e w1 ⟨rfl, rfl⟩
          go_wp2_with fail
          refine (Tryd.Buffer_WriteRune_ascii w.heap.size w.heap.size (Lib.byteCells acc) (c.toNat : Int) (by omega) (by omega) _ HI.out HB.out.size (by intro v hv; obtain ⟨z, _, rfl⟩ := List.mem_map.1 hv; rfl) (by rw [bytes_len]; have := HL.out; omega)).mono ?_
          rintro e w2 ⟨rfl, hI2, hB2, -⟩
          have HI2 : Hid (Lib.IsBuffer 69 5 w.heap.size w.heap.size (Lib.byteCells (acc ++ [c])) w2) := Lib.hid (by unfold Lib.byteCells at hI2 ⊢; rw [List.map_append]; exact hI2)
          have HB2 := Lib.hid (HB.out.trans hB2)
          clear hI2 hB2
          go_wp2_with fail
          go_roundg m
          case measure => exact Nat.lt_succ_self m
          case rel => exact ⟨i + 1, false, acc ++ [c], _, rfl, by simp, rfl, Lib.hid (by have := H0.out; omega), HI2, HB2, Lib.hid (by rw [← HC.out, HDR.out, initL, if_neg HIC.out, if_pos rfl, List.append_assoc]; rfl), Lib.hid (by rw [List.length_append]; have := HL.out; simp; omega)⟩

set_option maxHeartbeats 2000000 in
theorem init_nil_empty (s : ByteArray) (w : World) (hs : s.toList = []) :
    Calls Tryd.prog 59 #[.string s, .slice none 0 0] w fun e w' => e = .returned (.string s) ∧ Below w.heap.size w w' := by
  have hs0 : (s.toList == ([] : List UInt8)) = true := by rw [hs]; rfl
  clear hs
  go_enter Tryd.func59, Tryd.ntmps59
  go_wp2_with fail
  go_ret
  exact ⟨rfl, Below.refl _ _⟩
set_option maxHeartbeats 2000000 in
theorem init_row_empty (s : ByteArray) (g n cap : Nat) (w : World) (hs : s.toList = []) :
    Calls Tryd.prog 59 #[.string s, .slice (some ⟨g, 0, none⟩) n cap] w fun e w' => e = .returned (.string s) ∧ Below w.heap.size w w' := by
  have hs0 : (s.toList == ([] : List UInt8)) = true := by rw [hs]; rfl
  clear hs
  go_enter Tryd.func59, Tryd.ntmps59
  go_wp2_with fail
  go_ret
  exact ⟨rfl, Below.refl _ _⟩

/-- Is a character one between words? -/
def delimF (signs : ByteArray) (c : UInt8) : Bool := if signs.size = 0 then Lib.isSpaceL (c.toNat : Int) else decide ((c.toNat : Int) ∈ runes signs)
def initS (s signs : ByteArray) : ByteArray := ⟨(initL (delimF signs) true s.toList).toArray⟩
theorem runes_pos (s : ByteArray) (h : 1 ≤ s.size) : 1 ≤ (runes s).length := by
  unfold runes
  obtain ⟨f, hf⟩ : ∃ f, s.size = f + 1 := ⟨s.size - 1, by omega⟩
  rw [hf, runesFrom, if_pos (by omega)]; simp
set_option maxHeartbeats 2000000 in
theorem initialsBy_walk (s signs : ByteArray) (w : World) (hs : s.size ≤ 1000) (hg : signs.size ≤ 1000) (ha : asciiB s) :
    Calls Tryd.prog 34 #[.string s, .string signs] w fun e w' => e = .returned (.string (initS s signs)) ∧ Below w.heap.size w w' := by
  by_cases h0 : signs.size = 0
  · have hs0 : (signs.toList == ([] : List UInt8)) = true := by
      have := len_eq signs
      cases h : signs.toList with
      | nil => rfl
      | cons a t => rw [h, List.length_cons] at this; omega
    have HM : Calls Tryd.prog 59 #[.string s, .slice none 0 0] w fun e w' => e = .returned (.string (initS s signs)) ∧ Below w.heap.size w w' := by
      by_cases he : s.toList = []
      · have e : initS s signs = s := ext_eq (by unfold initS; rw [tl_mk, he]; rfl)
        rw [e]; exact init_nil_empty s w he
      · have h1 : 1 ≤ s.size := by
          have := len_eq s
          cases h : s.toList with
          | nil => exact absurd h he
          | cons a t => rw [h, List.length_cons] at this; omega
        have e : (fun c : UInt8 => Lib.isSpaceL (c.toNat : Int)) = delimF signs := by funext c; unfold delimF; rw [if_pos h0]
        have h := init_nil s (fun c => Lib.isSpaceL (c.toNat : Int)) w hs h1 ha (fun c W hc _ => delim_nil c.toNat hc W)
        rw [e] at h
        exact h
    have HH := Lib.hid HM
    obtain ⟨R, hR⟩ : ∃ R, R = initS s signs := ⟨_, rfl⟩
    rw [← hR] at HH ⊢
    clear HM hR h0
    go_enter Tryd.func34, Tryd.ntmps34
    go_wp2_with fail
    refine (HH.out).mono ?_
    rintro e w1 ⟨rfl, hb⟩
    have HB := Lib.hid hb
    clear hb
    go_wp2_with fail
    go_ret
    exact ⟨rfl, HB.out⟩
  · have hs0 : (signs.toList == ([] : List UInt8)) = false := by
      have := len_eq signs
      cases h : signs.toList with
      | nil => rw [h, List.length_nil] at this; omega
      | cons a t => rfl
    obtain ⟨cap, W1, hcv, hown, hb⟩ := made_runes (P := Tryd.prog) w 9 42 21 signs Tryd.underlying9 Tryd.underlying42 Tryd.underlying21 (by omega)
    have hrow : RowI W1 w.heap.size (runes signs) := by
      intro j hj
      have hc := hown.cells (g := w.heap.size) rfl j (.int .i32 ((runes signs)[j])) (by simp [nums, List.getElem?_eq_getElem hj])
      have e2 : (⟨w.heap.size, 0, none⟩ : Addr).add j = ⟨w.heap.size, j, none⟩ := by
        simp only [Addr.add]
        split <;> simp <;> omega
      rw [← e2]; exact hc
    have hr1 := runes_pos signs (by omega)
    have hr2 := runes_length signs
    have HM : Calls Tryd.prog 59 #[.string s, .slice (some ⟨w.heap.size, 0, none⟩) (runes signs).length cap] W1 fun e w' => e = .returned (.string (initS s signs)) ∧ Below W1.heap.size W1 w' := by
      by_cases he : s.toList = []
      · have e : initS s signs = s := ext_eq (by unfold initS; rw [tl_mk, he]; rfl)
        rw [e]; exact init_row_empty s _ _ _ W1 he
      · have h1 : 1 ≤ s.size := by
          have := len_eq s
          cases h : s.toList with
          | nil => exact absurd h he
          | cons a t => rw [h, List.length_cons] at this; omega
        have e : (fun c : UInt8 => decide ((c.toNat : Int) ∈ runes signs)) = delimF signs := by funext c; unfold delimF; rw [if_neg h0]
        have hlt : w.heap.size < W1.heap.size := by
          have := World.block_lt_of_cell? W1 _ (hrow 0 (by omega))
          exact this
        have h := init_row s (fun c => decide ((c.toNat : Int) ∈ runes signs)) w.heap.size (runes signs).length cap W1 hs h1 ha hr1 (fun c W hc hB => delim_row (c.toNat : Int) (runes signs) w.heap.size _ cap W rfl (by omega) (fun j hj => by rw [World.cell?_of_block (w := W1) (hB.block _ hlt)]; exact hrow j hj))
        rw [e] at h
        exact h
    have HH := Lib.hid HM
    have HB1 := Lib.hid hb
    obtain ⟨R, hR⟩ : ∃ R, R = initS s signs := ⟨_, rfl⟩
    rw [← hR] at HH ⊢
    obtain ⟨n, hn⟩ : ∃ n, n = (runes signs).length := ⟨_, rfl⟩
    rw [← hn] at hcv HH
    clear HM hR h0 hown hb hrow hr1 hr2 hn
    go_enter Tryd.func34, Tryd.ntmps34
    go_wp2_with fail
    refine (HH.out).mono ?_
    rintro e w1 ⟨rfl, hb⟩
    have HB := Lib.hid (HB1.out.trans (hb.mono HB1.out.size))
    clear hb
    go_wp2_with fail
    go_ret
    exact ⟨rfl, HB.out⟩
def impl_InitialsBy.f (a0 : ByteArray) (a1 : ByteArray) : Option (ByteArray) := if a0.size ≤ 1000 ∧ a1.size ≤ 1000 ∧ asciiB a0 then some (initS a0 a1) else none
theorem impl_InitialsBy.calls (a0 : ByteArray) (a1 : ByteArray) (r : ByteArray) (w : World) (h : impl_InitialsBy.f a0 a1 = some r) :
    Calls Tryd.prog 34 #[.string a0, .string a1] w fun e w' => e = .returned (.string r) ∧ Below w.heap.size w w' := by
  unfold impl_InitialsBy.f at h
  split at h
  · obtain rfl := Option.some.inj h
    rename_i hb
    exact initialsBy_walk a0 a1 w hb.1 hb.2.1 hb.2.2
  · exact absurd h (by simp)

end Go.Proofs.YtpkdoinofenahaaDoor.Giv
