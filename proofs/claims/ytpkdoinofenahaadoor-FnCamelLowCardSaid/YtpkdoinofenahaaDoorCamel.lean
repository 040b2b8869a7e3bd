/- Walks of xstrings.isConnector, toCamelCase and ToCamelCase, over small letters and connectors: what they answer. -/
import Derived.Test.YtpkdoinofenahaaDoorSwap
import Derived.Test.YtpkdoinofenahaaDoorBldK
namespace Go.Proofs.YtpkdoinofenahaaDoor.Giv
open Go.RowKit Go.Proofs.YtpkdoinofenahaaDoorW.PrintWords Go.Proofs.YtpkdoinofenahaaDoor.Txt
set_option linter.unusedVariables false
set_option maxRecDepth 20000

def connB (b : UInt8) : Bool := b.toNat == 45 || b.toNat == 95 || Lib.isSpaceL (b.toNat : Int)
set_option maxHeartbeats 1000000 in
theorem conn_walk (b : UInt8) (hb : b.toNat < 128) (w : World) :
    Calls Tryd.prog 105 #[.int .i32 (b.toNat : Int)] w fun e w' => e = .returned (.bool (connB b)) ∧ w' = w := by
  obtain ⟨r, hr⟩ : ∃ r, r = connB b := ⟨_, rfl⟩
  rw [← hr]
  unfold connB at hr
  obtain ⟨x, hx⟩ : ∃ x, x = b.toNat := ⟨_, rfl⟩
  rw [← hx] at hr hb ⊢
  clear hx
  by_cases h1 : x = 45
  · subst h1
    obtain rfl : r = true := by rw [hr]; rfl
    clear hr
    go_enter Tryd.func105, Tryd.ntmps105
    go_wp2_with fail
    go_ret
    exact ⟨rfl, rfl⟩
  by_cases h2 : x = 95
  · subst h2
    obtain rfl : r = true := by rw [hr]; rfl
    clear hr
    go_enter Tryd.func105, Tryd.ntmps105
    go_wp2_with fail
    go_ret
    exact ⟨rfl, rfl⟩
  · have hs := Lib.hid (Tryd.unicode_IsSpace (x : Int) w (by omega) (by omega))
    have hr2 : Lib.isSpaceL (x : Int) = r := by
      rw [hr, beq_eq_false_iff_ne.2 h1, beq_eq_false_iff_ne.2 h2]; rfl
    rw [hr2] at hs
    have h1' : ¬ (x : Int) = 45 := by omega
    have h2' : ¬ (x : Int) = 95 := by omega
    clear hr hr2
    go_enter Tryd.func105, Tryd.ntmps105
    go_wp2_with fail
    refine (hs.out).mono ?_
    rintro e w1 ⟨rfl, rfl⟩
    go_wp2_with fail
    go_ret
    have e : ((x : Int) == 45 || (x : Int) == 95 || r) = r := by rw [beq_eq_false_iff_ne.2 h1', beq_eq_false_iff_ne.2 h2']; rfl
    exact ⟨by show Ending.returned (.bool _) = _; rw [e], rfl⟩

/-- What comes out behind a character: two connectors: the first one; behind a connector a capital letter. -/
def camL : UInt8 → List UInt8 → List UInt8
  | r, [] => [r]
  | r, c :: t => if connB r then (if connB c then r :: camL c t else camL (highB c) t) else r :: camL c t
/-- Small letters and connectors. -/
def camIn (c : UInt8) : Bool := (decide (97 ≤ c.toNat) && decide (c.toNat ≤ 122)) || c.toNat == 45 || c.toNat == 95 || c.toNat == 32
theorem camIn_facts (c : UInt8) (h : camIn c = true) : c.toNat < 128 ∧ Lib.isUpperL c.toNat = false ∧ (connB c = false → 97 ≤ c.toNat ∧ c.toNat ≤ 122) := by
  have : ∀ n : Fin 256, camIn (UInt8.ofNat n.val) = true → n.val < 128 ∧ Lib.isUpperL n.val = false ∧ (connB (UInt8.ofNat n.val) = false → 97 ≤ n.val ∧ n.val ≤ 122) := by decide +kernel
  have h2 := this ⟨c.toNat, c.toNat_lt⟩
  simpa [h] using h2
theorem small_facts (c : UInt8) (h0 : 97 ≤ c.toNat) (h1 : c.toNat ≤ 122) : connB c = false ∧ Lib.toLowerR (c.toNat : Int) = (c.toNat : Int) ∧ Lib.isUpperL c.toNat = false ∧ Lib.toUpperR (c.toNat : Int) = ((highB c).toNat : Int) ∧ (highB c).toNat < 128 := by
  have : ∀ n : Fin 256, 97 ≤ n.val → n.val ≤ 122 → connB (UInt8.ofNat n.val) = false ∧ Lib.toLowerR (n.val : Int) = (n.val : Int) ∧ Lib.isUpperL n.val = false ∧ Lib.toUpperR (n.val : Int) = ((highB (UInt8.ofNat n.val)).toNat : Int) ∧ (highB (UInt8.ofNat n.val)).toNat < 128 := by decide +kernel
  have h2 := this ⟨c.toNat, c.toNat_lt⟩
  simpa using h2 h0 h1
theorem snoc_cell (acc : List UInt8) (b : UInt8) : Lib.byteCells acc ++ [Value.int .u8 (b.toNat : Int)] = Lib.byteCells (acc ++ [b]) := by
  unfold Lib.byteCells; rw [List.map_append]; rfl

set_option maxHeartbeats 8000000 in
theorem camel_walk (s : ByteArray) (a : UInt8) (w : World) (hs : s.size ≤ 1000) (hs2 : 2 ≤ s.size) (ha : s.toList[0]? = some a) (ha0 : 97 ≤ a.toNat) (ha1 : a.toNat ≤ 122) (hin : ∀ c ∈ s.toList, camIn c = true) (T : Props w) :
    Calls Tryd.prog 89 #[.string s, .bool false] w fun e w' => ∃ r : ByteArray, e = .returned (.string r) ∧ r.toList = camL a (s.toList.drop 1) ∧ Below w.heap.size w w' := by
  have HT := Lib.hid T
  have HIN := Lib.hid hin
  have hl := Lib.hid (len_eq s)
  obtain ⟨R, hR⟩ : ∃ R, R = camL a (s.toList.drop 1) := ⟨_, rfl⟩
  rw [← hR]
  have HR := Lib.hid hR
  have FA := small_facts a ha0 ha1
  have hd0 := Lib.hid (fun w => Tryd.utf8_DecodeRuneInString_ascii s a w (by rw [← Lib.toList_data]; exact ha) (by omega))
  have hc0 := Lib.hid (fun w => conn_walk a (by omega) w)
  have hu0 := Lib.hid (fun w h => Tryd.unicode_IsUpper a.toNat w (by omega) h)
  have hl0 := Lib.hid (fun w => Tryd.unicode_ToLower (a.toNat : Int) w (by omega))
  rw [FA.1] at hc0
  rw [FA.2.1] at hl0
  rw [FA.2.2.1] at hu0
  have ha7 : a.toNat < 128 := by omega
  obtain ⟨x, hx⟩ : ∃ x, x = a.toNat := ⟨_, rfl⟩
  rw [← hx] at hd0 hc0 hu0 hl0 ha0 ha1
  have HX := Lib.hid hx
  clear hR T hin ha FA hx
  go_enter Tryd.func89, Tryd.ntmps89
  go_wp2_with fail
  have hI : Lib.IsBuilder 56 5 w.heap.size w.heap.size (Lib.byteCells []) (w.alloc (.cells #[.pointer none, .slice none 0 0] 56)) :=
    .inl ⟨Nat.le_refl _, .slice none 0 0, by show (w.heap.push _)[w.heap.size]? = _; simp, ⟨rfl, .inl ⟨rfl, rfl⟩⟩, by simp [Value.ownBlock]⟩
  have HI := Lib.hid hI
  have HB0 : Hid (Below w.heap.size w (w.alloc (.cells #[.pointer none, .slice none 0 0] 56))) := Lib.hid ((Below.refl _ _).alloc (Nat.le_refl _) _)
  clear hI
  obtain ⟨w9, hw9⟩ : ∃ w9, w9 = w.alloc (.cells #[.pointer none, .slice none 0 0] 56) := ⟨_, rfl⟩
  rw [← hw9] at HI HB0 ⊢
  clear hw9
  go_loopg [0, 6, 7, 9] 1 (fun kq v0 v6 v7 v9 wr => v0 = .string s ∧ v6 = .bool false ∧ v7 = .int .i32 0 ∧ v9 = .int .i64 0 ∧ wr = w9)
  case atStart => exact ⟨rfl, rfl, rfl, rfl, rfl⟩
  case round =>
    obtain ⟨rfl, rfl, rfl, rfl, rfl⟩ := hrel
    go_wp2_with fail
    refine (hd0.out _).mono ?_
    rintro e w1 ⟨rfl, rfl⟩
    go_wp2_with fail
    refine (hc0.out _).mono ?_
    rintro e w1 ⟨rfl, rfl⟩
    go_wp2_with fail
    refine (hu0.out _ (HT.out.below HB0.out)).mono ?_
    rintro e w1 ⟨rfl, rfl⟩
    go_wp2_with fail
    refine (hl0.out _).mono ?_
    rintro e w1 ⟨rfl, rfl⟩
    have hsz1 : (s.extract 1 s.size).size = s.size - 1 := size_extract _ _ _ (by omega) (Nat.le_refl _)
    have hne : (((s.size - 1 : Nat) : Int) == 0) = false := beq_eq_false_iff_ne.2 (by omega)
    go_wp2_with fail
    go_loopg [0, 6, 7, 8, 9] s.size (fun kq v0 v6 v7 v8 v9 wr => ∃ (pos : Nat) (b : UInt8) (acc : List UInt8) (x8 x9 : Value), v0 = .string (s.extract pos s.size) ∧ v6 = .bool false ∧ v7 = .int .i32 (b.toNat : Int) ∧ v8 = x8 ∧ v9 = x9 ∧ Hid (pos + kq = s.size + 1) ∧ Hid (pos ≤ s.size) ∧ Hid (Lib.IsBuilder 56 5 w.heap.size w.heap.size (Lib.byteCells acc) wr) ∧ Hid (Below w.heap.size w wr) ∧ Hid (acc ++ camL b (s.toList.drop pos) = R) ∧ Hid (b.toNat < 128) ∧ Hid (acc.length ≤ pos))
    case atStart => exact ⟨1, a, [], _, _, rfl, rfl, by rw [HX.out], rfl, rfl, Lib.hid (by omega), Lib.hid (by omega), HI, HB0, Lib.hid (by rw [HR.out]; rfl), Lib.hid ha7, Lib.hid (by show 0 ≤ 1; omega)⟩
    case round =>
      obtain ⟨pos, b, acc, x8, x9, rfl, rfl, rfl, rfl, rfl, H0, H1, HI, HB, HA, HB7, HL⟩ := hrel
      have hsz : (s.extract pos s.size).size = s.size - pos := size_extract _ _ _ H1.out (Nat.le_refl _)
      by_cases hp : pos < s.size
      · cases gk with
        | zero => exact absurd H0.out (by omega)
        | succ m =>
          have hlt : pos < s.toList.length := by have := hl.out; omega
          obtain ⟨c, hc⟩ : ∃ c, c = s.toList[pos] := ⟨_, rfl⟩
          have hdr : s.toList.drop pos = c :: s.toList.drop (pos + 1) := by rw [hc]; exact List.drop_eq_getElem_cons hlt
          have hci := HIN.out c (by rw [hc]; exact List.getElem_mem hlt)
          obtain ⟨hc7, hcu, hcs⟩ := camIn_facts c hci
          have hd := Lib.hid (fun w => Tryd.utf8_DecodeRuneInString_ascii (s.extract pos s.size) c w (by rw [← Lib.toList_data, extract_self, hdr]; rfl) hc7)
          have hk := Lib.hid (fun w => conn_walk c hc7 w)
          have hkb := Lib.hid (fun w => conn_walk b HB7.out w)
          have HT1 := Lib.hid (tail_one s pos (by omega))
          have HDR := Lib.hid hdr
          have HCU := Lib.hid hcu
          have HCS := Lib.hid hcs
          clear hc hdr hci hcu hcs hlt
          cases hkc : connB c with
          | true =>
            rw [hkc] at hk
            cases hkb' : connB b with
            | true =>
              rw [hkb'] at hkb
              have HK1 := Lib.hid hkc
              have HK2 := Lib.hid hkb'
              clear hkc hkb'
              go_wp2_with fail
              refine (hd.out _).mono ?_
              rintro e w1 ⟨rfl, rfl⟩
              go_wp2_with fail
              refine (hk.out _).mono ?_
              rintro e w1 ⟨rfl, rfl⟩
              go_wp2_with fail
              refine (hkb.out _).mono ?_
              rintro e w1 ⟨rfl, rfl⟩
              go_wp2_with fail
              refine (WriteRune _ _ (Lib.byteCells acc) (b.toNat : Int) (by omega) (by have := HB7.out; omega) _ HI.out (by rw [bytes_len]; have := HL.out; have := H1.out; omega) HB.out.size).mono ?_
              rintro e w2 ⟨rfl, hb2, hB2⟩
              rw [snoc_cell] at hb2
              have HI2 := Lib.hid hb2
              have HB2 := Lib.hid (HB.out.trans hB2)
              clear hb2 hB2
              go_wp2_with fail
              go_roundg m
              case measure => exact Nat.lt_succ_self m
              case rel =>
                refine ⟨pos + 1, c, acc ++ [b], _, _, by rw [HT1.out], rfl, by rfl, rfl, rfl, Lib.hid (by have := H0.out; omega), Lib.hid (by omega), Lib.hid (.inr HI2.out), HB2, Lib.hid ?_, Lib.hid hc7, Lib.hid (by rw [List.length_append]; have := HL.out; simp; omega)⟩
                rw [← HA.out, HDR.out, camL, if_pos HK2.out, if_pos HK1.out]
                try simp
            | false =>
              rw [hkb'] at hkb
              have HK1 := Lib.hid hkc
              have HK2 := Lib.hid hkb'
              clear hkc hkb'
              go_wp2_with fail
              refine (hd.out _).mono ?_
              rintro e w1 ⟨rfl, rfl⟩
              go_wp2_with fail
              refine (hk.out _).mono ?_
              rintro e w1 ⟨rfl, rfl⟩
              go_wp2_with fail
              refine (hkb.out _).mono ?_
              rintro e w1 ⟨rfl, rfl⟩
              go_wp2_with fail
              refine (hkb.out _).mono ?_
              rintro e w1 ⟨rfl, rfl⟩
              go_wp2_with fail
              refine (WriteRune _ _ (Lib.byteCells acc) (b.toNat : Int) (by omega) (by have := HB7.out; omega) _ HI.out (by rw [bytes_len]; have := HL.out; have := H1.out; omega) HB.out.size).mono ?_
              rintro e w2 ⟨rfl, hb2, hB2⟩
              rw [snoc_cell] at hb2
              have HI2 := Lib.hid hb2
              have HB2 := Lib.hid (HB.out.trans hB2)
              clear hb2 hB2
              go_wp2_with fail
              go_roundg m
              case measure => exact Nat.lt_succ_self m
              case rel =>
                refine ⟨pos + 1, c, acc ++ [b], _, _, by rw [HT1.out], rfl, by rfl, rfl, rfl, Lib.hid (by have := H0.out; omega), Lib.hid (by omega), Lib.hid (.inr HI2.out), HB2, Lib.hid ?_, Lib.hid hc7, Lib.hid (by rw [List.length_append]; have := HL.out; simp; omega)⟩
                rw [← HA.out, HDR.out, camL, if_neg (by rw [HK2.out]; decide)]
                try simp
          | false =>
            rw [hkc] at hk
            cases hkb' : connB b with
            | true =>
              rw [hkb'] at hkb
              have HK1 := Lib.hid hkc
              have HK2 := Lib.hid hkb'
              clear hkc hkb'
              obtain ⟨q0, q1⟩ := HCS.out HK1.out
              obtain ⟨-, -, -, hu, hu7⟩ := small_facts c q0 q1
              have hup := Lib.hid (fun w h => Tryd.unicode_IsUpper c.toNat w (by omega) h)
              rw [HCU.out] at hup
              have htu := Lib.hid (fun w => Tryd.unicode_ToUpper (c.toNat : Int) w (by omega))
              have HU := Lib.hid hu
              clear hu
              go_wp2_with fail
              refine (hd.out _).mono ?_
              rintro e w1 ⟨rfl, rfl⟩
              go_wp2_with fail
              refine (hk.out _).mono ?_
              rintro e w1 ⟨rfl, rfl⟩
              go_wp2_with fail
              refine (hkb.out _).mono ?_
              rintro e w1 ⟨rfl, rfl⟩
              go_wp2_with fail
              refine (hup.out _ (HT.out.below HB.out)).mono ?_
              rintro e w1 ⟨rfl, rfl⟩
              go_wp2_with fail
              refine (htu.out _).mono ?_
              rintro e w1 ⟨rfl, rfl⟩
              go_wp2_with fail
              go_roundg m
              case measure => exact Nat.lt_succ_self m
              case rel =>
                refine ⟨pos + 1, highB c, acc, _, _, by rw [HT1.out], rfl, by rw [HU.out], rfl, rfl, Lib.hid (by have := H0.out; omega), Lib.hid (by omega), Lib.hid HI.out, HB, Lib.hid ?_, Lib.hid hu7, Lib.hid (by have := HL.out; omega)⟩
                rw [← HA.out, HDR.out, camL, if_pos HK2.out, if_neg (by rw [HK1.out]; decide)]
                try simp
            | false =>
              rw [hkb'] at hkb
              have HK1 := Lib.hid hkc
              have HK2 := Lib.hid hkb'
              clear hkc hkb'
              go_wp2_with fail
              refine (hd.out _).mono ?_
              rintro e w1 ⟨rfl, rfl⟩
              go_wp2_with fail
              refine (hk.out _).mono ?_
              rintro e w1 ⟨rfl, rfl⟩
              go_wp2_with fail
              refine (hkb.out _).mono ?_
              rintro e w1 ⟨rfl, rfl⟩
              go_wp2_with fail
              refine (WriteRune _ _ (Lib.byteCells acc) (b.toNat : Int) (by omega) (by have := HB7.out; omega) _ HI.out (by rw [bytes_len]; have := HL.out; have := H1.out; omega) HB.out.size).mono ?_
              rintro e w2 ⟨rfl, hb2, hB2⟩
              rw [snoc_cell] at hb2
              have HI2 := Lib.hid hb2
              have HB2 := Lib.hid (HB.out.trans hB2)
              clear hb2 hB2
              go_wp2_with fail
              go_roundg m
              case measure => exact Nat.lt_succ_self m
              case rel =>
                refine ⟨pos + 1, c, acc ++ [b], _, _, by rw [HT1.out], rfl, by rfl, rfl, rfl, Lib.hid (by have := H0.out; omega), Lib.hid (by omega), Lib.hid (.inr HI2.out), HB2, Lib.hid ?_, Lib.hid hc7, Lib.hid (by rw [List.length_append]; have := HL.out; simp; omega)⟩
                rw [← HA.out, HDR.out, camL, if_neg (by rw [HK2.out]; decide)]
                try simp
      · have hpe : s.size - pos = 0 := by omega
        have hnil : s.toList.drop pos = [] := List.drop_eq_nil_of_le (by have := hl.out; omega)
        have hfin : acc ++ [b] = R := by rw [← HA.out, hnil]; rfl
        have HFIN := Lib.hid hfin
        clear hnil hfin
        go_wp2_with fail
        refine (WriteRune _ _ (Lib.byteCells acc) (b.toNat : Int) (by omega) (by have := HB7.out; omega) _ HI.out (by rw [bytes_len]; have := HL.out; have := H1.out; omega) HB.out.size).mono ?_
        rintro e w2 ⟨rfl, hb2, hB2⟩
        rw [snoc_cell] at hb2
        have HI2 := Lib.hid hb2
        have HB2 := Lib.hid (HB.out.trans hB2)
        clear hb2 hB2
        go_wp2_with fail
        rw [HFIN.out] at HI2
        refine (Tryd.Builder_String_any w.heap.size w.heap.size R w2 (.inr HI2.out) HB2.out.size).mono ?_
        rintro e w3 ⟨rfl, hB3⟩
        have HB3 := Lib.hid (HB2.out.trans hB3)
        clear hB3
        go_wp2_with fail
        go_ret
        exact ⟨_, rfl, tl_mk _, HB3.out⟩

/-! ### in the print's form -/
def camOk (s : ByteArray) : Bool := match s.toList with
  | [] => false
  | a :: t => decide (97 ≤ a.toNat) && decide (a.toNat ≤ 122) && (a :: t).all camIn
def camS (s : ByteArray) : ByteArray := match s.toList with
  | [] => s
  | a :: t => ⟨(camL a t).toArray⟩
def xstrings_ToCamelCase.f (a0 : ByteArray) : Option (ByteArray) := if a0.size ≤ 1000 ∧ 2 ≤ a0.size ∧ camOk a0 = true then some (camS a0) else none
theorem xstrings_ToCamelCase.calls (a0 : ByteArray) (r : ByteArray) (w : World) (T : Props w) (h : xstrings_ToCamelCase.f a0 = some r) :
    Calls Tryd.prog 63 #[.string a0] w fun e w' => e = .returned (.string r) ∧ Below w.heap.size w w' := by
  unfold xstrings_ToCamelCase.f at h
  split at h
  case isFalse => exact absurd h (by simp)
  rename_i hb
  obtain rfl := Option.some.inj h
  obtain ⟨h1, h2, h3⟩ := hb
  have H : Calls Tryd.prog 89 #[.string a0, .bool false] w fun e w' => e = .returned (.string (camS a0)) ∧ Below w.heap.size w w' := by
    unfold camOk at h3
    unfold camS
    cases hl : a0.toList with
    | nil => rw [hl] at h3; cases h3
    | cons a t =>
      rw [hl] at h3
      simp only [Bool.and_eq_true, decide_eq_true_eq] at h3
      refine (camel_walk a0 a w h1 h2 (by rw [hl]; rfl) h3.1.1 h3.1.2 (by rw [hl]; exact List.all_eq_true.1 h3.2) T).mono ?_
      rintro e w' ⟨r, rfl, hr, hB⟩
      rw [hl] at hr
      have e : r = ⟨(camL a t).toArray⟩ := ext_eq (hr.trans (tl_mk _).symm)
      rw [e]
      exact ⟨rfl, hB⟩
  have HH := Lib.hid H
  clear H
  obtain ⟨R, hR⟩ : ∃ R, R = camS a0 := ⟨_, rfl⟩
  rw [← hR] at HH ⊢
  clear hR h3
  go_enter Tryd.func63, Tryd.ntmps63
  go_wp2_with fail
  refine HH.out.mono ?_
  rintro e w1 ⟨rfl, hb1⟩
  have HB := Lib.hid hb1
  clear hb1
  go_wp2_with fail
  go_ret
  exact ⟨rfl, HB.out⟩

end Go.Proofs.YtpkdoinofenahaaDoor.Giv
