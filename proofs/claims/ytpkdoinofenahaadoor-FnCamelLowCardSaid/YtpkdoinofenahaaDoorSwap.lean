/- A walk of xstrings.SwapCase over ASCII: what it answers. -/
import Derived.Test.YtpkdoinofenahaaDoorFirst
import Derived.Lib.LaidTab
namespace Go.Proofs.YtpkdoinofenahaaDoor.Giv
open Go.RowKit Go.Proofs.YtpkdoinofenahaaDoorW.PrintWords Go.Proofs.YtpkdoinofenahaaDoor.Txt
set_option linter.unusedVariables false
set_option maxRecDepth 20000

/-- The table that unicode.IsUpper and IsLower read within Latin-1. -/
def Props (w : World) : Prop := Lib.TabIs Tryd.prog w "unicode.properties" .u8 Lib.propertiesTab
theorem Props.below {w w' : World} (h : Props w) (hb : Below w.heap.size w w') : Props w' := by
  have hg : Tryd.prog.globalNamed "unicode.properties" = some 0 := by kernel_rfl
  unfold Props Lib.TabIs World.var? at h ⊢
  rw [hg] at h ⊢
  simp only [Option.bind_some] at h ⊢
  have hlt : 0 < w.heap.size := by
    rcases Nat.lt_or_ge 0 w.heap.size with h' | h'
    · exact h'
    · rw [Array.getElem?_eq_none h'] at h; cases h
  rw [hb.block _ hlt]
  exact h
def swapB (c : UInt8) : UInt8 := if 65 ≤ c.toNat ∧ c.toNat ≤ 90 then lowB c else highB c
theorem swap_byte (c : UInt8) (h : c.toNat < 128) :
    (Lib.isUpperL c.toNat = true → swapB c = lowB c) ∧ (Lib.isUpperL c.toNat = false → Lib.isLowerL c.toNat = true → swapB c = highB c) ∧ (Lib.isUpperL c.toNat = false → Lib.isLowerL c.toNat = false → swapB c = c) := by
  have : ∀ n : Fin 128, (Lib.isUpperL n.val = true → swapB (UInt8.ofNat n.val) = lowB (UInt8.ofNat n.val)) ∧ (Lib.isUpperL n.val = false → Lib.isLowerL n.val = true → swapB (UInt8.ofNat n.val) = highB (UInt8.ofNat n.val)) ∧ (Lib.isUpperL n.val = false → Lib.isLowerL n.val = false → swapB (UInt8.ofNat n.val) = UInt8.ofNat n.val) := by decide +kernel
  have h2 := this ⟨c.toNat, h⟩
  simpa using h2
theorem tail_one (s : ByteArray) (pos : Nat) (h : pos + 1 ≤ s.size) : (s.extract pos s.size).extract 1 (s.size - pos) = s.extract (pos + 1) s.size := by
  apply ext_eq
  have hl := len_eq s
  rw [tl_extract, extract_self, extract_self, List.drop_drop, List.take_of_length_le]
  rw [List.length_drop]; omega
theorem cells_snoc (f : UInt8 → UInt8) (l : List UInt8) (pos : Nat) (h : pos < l.length) (y : Int) (hy : y = ((f l[pos]).toNat : Int)) : Lib.byteCells ((l.take pos).map f) ++ [Value.int .u8 y] = Lib.byteCells ((l.take (pos + 1)).map f) := by
  unfold Lib.byteCells
  rw [List.take_succ_eq_append_getElem h, List.map_append, List.map_append, hy]; rfl
theorem uint8_back (y : Int) (h0 : 0 ≤ y) (h1 : y ≤ 127) (c : UInt8) (h : y.toNat.toUInt8 = c) : y = (c.toNat : Int) := by
  rw [← h, UInt8.toNat_ofNat_of_lt' (by show y.toNat < 256; omega)]; omega

set_option maxHeartbeats 4000000 in
theorem swapAll_walk (s : ByteArray) (w : World) (hs : s.size ≤ 1000) (ha : asciiB s) (T : Props w) :
    Calls Tryd.prog 61 #[.string s] w fun e w' => e = .returned (.string ⟨(s.toList.map swapB).toArray⟩) ∧ Below w.heap.size w w' := by
  have HT := Lib.hid T
  have HA := Lib.hid ha
  have hl := Lib.hid (len_eq s)
  obtain ⟨R, hR⟩ : ∃ R : ByteArray, R = ⟨(s.toList.map swapB).toArray⟩ := ⟨_, rfl⟩
  rw [← hR]
  have HR := Lib.hid hR
  clear hR T ha
  go_enter Tryd.func61, Tryd.ntmps61
  go_wp2_with fail
  have hI : Lib.IsBuilder 56 5 w.heap.size w.heap.size [] (w.alloc (.cells #[.pointer none, .slice none 0 0] 56)) :=
    .inl ⟨Nat.le_refl _, .slice none 0 0, by show (w.heap.push _)[w.heap.size]? = _; simp, ⟨rfl, .inl ⟨rfl, rfl⟩⟩, by simp [Value.ownBlock]⟩
  have HI := Lib.hid hI
  clear hI
  go_loopg [0, 3, 4] s.size (fun kq v0 v3 v4 wr => ∃ (pos : Nat), v0 = .string (s.extract pos s.size) ∧ Hid (pos + kq = s.size) ∧ Hid (Lib.IsBuilder 56 5 w.heap.size w.heap.size (Lib.byteCells ((s.toList.take pos).map swapB)) wr) ∧ Hid (Below w.heap.size w wr))
  case atStart => exact ⟨0, by rw [extract_zero_size], Lib.hid (by omega), Lib.hid HI.out, Lib.hid ((Below.refl _ _).alloc (Nat.le_refl _) _)⟩
  case round =>
    obtain ⟨pos, rfl, H0, H1, HB⟩ := hrel
    have hsz : (s.extract pos s.size).size = s.size - pos := size_extract _ _ _ (by have := H0.out; omega) (Nat.le_refl _)
    cases gk with
    | zero =>
      have hp : pos = s.size := by have := H0.out; omega
      have h1 := H1.out
      have e0 : s.toList.take pos = s.toList := by rw [hp, hl.out, List.take_length]
      rw [e0] at h1
      have hp0 : s.size - pos = 0 := by omega
      have Hs := Lib.hid (Tryd.Builder_String_any w.heap.size w.heap.size (s.toList.map swapB) wr h1 HB.out.size)
      rw [← HR.out] at Hs
      clear h1 e0 hp
      go_wp2_with fail
      refine Hs.out.mono ?_
      rintro e w2 ⟨rfl, hb2⟩
      have HB2 := Lib.hid hb2
      clear hb2
      go_wp2_with fail
      go_ret
      exact ⟨rfl, HB.out.trans HB2.out⟩
    | succ m =>
      have hp : pos < s.size := by have := H0.out; omega
      have hlt : pos < s.toList.length := by have := hl.out; omega
      obtain ⟨c, hc⟩ : ∃ c, c = s.toList[pos] := ⟨_, rfl⟩
      have hc7 : c.toNat < 128 := HA.out c (by rw [hc]; exact List.getElem_mem hlt)
      have hd := Lib.hid (fun w => Tryd.utf8_DecodeRuneInString_ascii (s.extract pos s.size) c w (by rw [← Lib.toList_data, extract_self, List.getElem?_drop, Nat.add_zero, List.getElem?_eq_getElem hlt, hc]) hc7)
      have hT := HT.out.below HB.out
      have hup := Lib.hid (Tryd.unicode_IsUpper c.toNat wr (by omega) hT)
      have hlo := Lib.hid (Tryd.unicode_IsLower c.toNat wr (by omega) hT)
      have htl := Lib.hid (Tryd.unicode_ToLower (c.toNat : Int) wr (by omega))
      have htu := Lib.hid (Tryd.unicode_ToUpper (c.toNat : Int) wr (by omega))
      obtain ⟨sw1, sw2, sw3⟩ := swap_byte c hc7
      obtain ⟨⟨l0, l1⟩, l2⟩ := lower_byte c hc7
      obtain ⟨⟨u0, u1⟩, u2⟩ := upper_byte c hc7
      have hlen : (Lib.byteCells ((s.toList.take pos).map swapB)).length + 4 ≤ 140737488355328 := by
        unfold Lib.byteCells
        rw [List.length_map, List.length_map, List.length_take]; omega
      have HLEN := Lib.hid hlen
      have HT1 := Lib.hid (tail_one s pos hp)
      have hwr : ∀ y : Int, 0 ≤ y → y ≤ 127 → Calls Tryd.prog 75 #[.pointer (some ⟨w.heap.size, 0, none⟩), .int .i32 y] wr fun e w' => e = .returned (.tuple #[.int .i64 1, .nilIface]) ∧ (Lib.BuilderAt 56 5 w.heap.size w.heap.size (.pointer (some ⟨w.heap.size, 0, none⟩)) (Lib.byteCells ((s.toList.take pos).map swapB) ++ [.int .u8 y]) w' ∧ Below w.heap.size wr w') := fun y h0 h1 => WriteRune _ _ _ y h0 h1 wr H1.out hlen HB.out.size
      have HW := Lib.hid hwr
      have HSN : Hid (∀ y : Int, y = ((swapB c).toNat : Int) → Lib.byteCells ((s.toList.take pos).map swapB) ++ [Value.int .u8 y] = Lib.byteCells ((s.toList.take (pos + 1)).map swapB)) := Lib.hid (fun y hy => cells_snoc swapB s.toList pos hlt y (by rw [hy, hc]))
      clear hT hwr hlen hc hlt
      obtain ⟨x, hx⟩ : ∃ x, x = (c.toNat : Int) := ⟨_, rfl⟩
      rw [← hx] at hd hup hlo htl htu l0 l1 l2 u0 u1 u2 sw1 sw2 sw3
      have HX := Lib.hid hx
      have hx7 : 0 ≤ x ∧ x ≤ 127 := by omega
      clear hx
      cases hU : Lib.isUpperL x with
      | true =>
        rw [hU] at hup
        have HY := Lib.hid (uint8_back _ l0 l1 (swapB c) (by rw [l2, sw1 hU]))
        have HWy := Lib.hid (HW.out _ l0 l1)
        obtain ⟨y, hy⟩ : ∃ y, y = Lib.toLowerR x := ⟨_, rfl⟩
        rw [← hy] at htl HY HWy
        clear hy sw1 sw2 sw3 l0 l1 l2 u0 u1 u2 hU htu hlo hx7
        go_wp2_with fail
        refine (hd.out _).mono ?_
        rintro e w2 ⟨rfl, rfl⟩
        go_wp2_with fail
        refine hup.out.mono ?_
        rintro e w2 ⟨rfl, rfl⟩
        go_wp2_with fail
        refine htl.out.mono ?_
        rintro e w2 ⟨rfl, rfl⟩
        go_wp2_with fail
        refine HWy.out.mono ?_
        rintro e w3 ⟨rfl, hb3, hB3⟩
        have e3 := HSN.out _ HY.out
        rw [e3] at hb3
        have H3 := Lib.hid hb3
        have HB3 := Lib.hid hB3
        clear hb3 hB3 e3
        go_wp2_with fail
        go_roundg m
        case measure => exact Nat.lt_succ_self m
        case rel => exact ⟨pos + 1, by rw [HT1.out], Lib.hid (by have := H0.out; omega), Lib.hid (.inr H3.out), Lib.hid (HB.out.trans HB3.out)⟩
      | false =>
        rw [hU] at hup
        cases hL : Lib.isLowerL x with
        | true =>
          rw [hL] at hlo
          have HY := Lib.hid (uint8_back _ u0 u1 (swapB c) (by rw [u2, sw2 hU hL]))
          have HWy := Lib.hid (HW.out _ u0 u1)
          obtain ⟨y, hy⟩ : ∃ y, y = Lib.toUpperR x := ⟨_, rfl⟩
          rw [← hy] at htu HY HWy
          clear hy sw1 sw2 sw3 l0 l1 l2 u0 u1 u2 hU hL htl hx7
          go_wp2_with fail
          refine (hd.out _).mono ?_
          rintro e w2 ⟨rfl, rfl⟩
          go_wp2_with fail
          refine hup.out.mono ?_
          rintro e w2 ⟨rfl, rfl⟩
          go_wp2_with fail
          refine hlo.out.mono ?_
          rintro e w2 ⟨rfl, rfl⟩
          go_wp2_with fail
          refine htu.out.mono ?_
          rintro e w2 ⟨rfl, rfl⟩
          go_wp2_with fail
          refine HWy.out.mono ?_
          rintro e w3 ⟨rfl, hb3, hB3⟩
          have e3 := HSN.out _ HY.out
          rw [e3] at hb3
          have H3 := Lib.hid hb3
          have HB3 := Lib.hid hB3
          clear hb3 hB3 e3
          go_wp2_with fail
          go_roundg m
          case measure => exact Nat.lt_succ_self m
          case rel => exact ⟨pos + 1, by rw [HT1.out], Lib.hid (by have := H0.out; omega), Lib.hid (.inr H3.out), Lib.hid (HB.out.trans HB3.out)⟩
        | false =>
          rw [hL] at hlo
          have HY : Hid (x = ((swapB c).toNat : Int)) := Lib.hid (by rw [sw3 hU hL]; exact HX.out)
          have HWy := Lib.hid (HW.out _ hx7.1 hx7.2)
          clear sw1 sw2 sw3 l0 l1 l2 u0 u1 u2 hU hL htl htu hx7
          go_wp2_with fail
          refine (hd.out _).mono ?_
          rintro e w2 ⟨rfl, rfl⟩
          go_wp2_with fail
          refine hup.out.mono ?_
          rintro e w2 ⟨rfl, rfl⟩
          go_wp2_with fail
          refine hlo.out.mono ?_
          rintro e w2 ⟨rfl, rfl⟩
          go_wp2_with fail
          refine HWy.out.mono ?_
          rintro e w3 ⟨rfl, hb3, hB3⟩
          have e3 := HSN.out _ HY.out
          rw [e3] at hb3
          have H3 := Lib.hid hb3
          have HB3 := Lib.hid hB3
          clear hb3 hB3 e3
          go_wp2_with fail
          go_roundg m
          case measure => exact Nat.lt_succ_self m
          case rel => exact ⟨pos + 1, by rw [HT1.out], Lib.hid (by have := H0.out; omega), Lib.hid (.inr H3.out), Lib.hid (HB.out.trans HB3.out)⟩

def xstrings_SwapCase.f (a0 : ByteArray) : Option (ByteArray) := if a0.size ≤ 1000 ∧ asciiB a0 then some ⟨(a0.toList.map swapB).toArray⟩ else none
theorem xstrings_SwapCase.calls (a0 : ByteArray) (r : ByteArray) (w : World) (T : Props w) (h : xstrings_SwapCase.f a0 = some r) :
    Calls Tryd.prog 61 #[.string a0] w fun e w' => e = .returned (.string r) ∧ Below w.heap.size w w' := by
  unfold xstrings_SwapCase.f at h
  split at h
  case isFalse => exact absurd h (by simp)
  rename_i hb
  obtain rfl := Option.some.inj h
  exact swapAll_walk a0 w hb.1 hb.2 T

end Go.Proofs.YtpkdoinofenahaaDoor.Giv
