/- Walks of xstrings.FirstRuneToLower and FirstRuneToUpper over ASCII: what they answer. -/
import Derived.Test.YtpkdoinofenahaaDoorShelf
import Derived.Test.YtpkdoinofenahaaDoorBld
import Derived.Test.YtpkdoinofenahaaDoorCase
namespace Go.Proofs.YtpkdoinofenahaaDoor.Giv
open Go.RowKit Go.Proofs.YtpkdoinofenahaaDoorW.PrintWords Go.Proofs.YtpkdoinofenahaaDoor.Txt
set_option linter.unusedVariables false
set_option maxRecDepth 20000

/-- The cells of a text's bytes. -/
theorem strCells_eq (s : ByteArray) : Lib.strCells s = Lib.byteCells s.toList := by
  rw [Lib.toList_data]
  rfl
/-- The first byte turned. -/
def firstS (f : Int → Int) (s : ByteArray) : ByteArray := match s.toList with
  | [] => s
  | c :: t => ⟨((f (c.toNat : Int)).toNat.toUInt8 :: t).toArray⟩

set_option maxHeartbeats 2000000 in
theorem firstLow_walk (s : ByteArray) (c : UInt8) (t : List UInt8) (w : World) (hs : s.size ≤ 1000) (hl : s.toList = c :: t) (hc : c.toNat < 128) (hr : 0 ≤ Lib.toLowerR (c.toNat : Int) ∧ Lib.toLowerR (c.toNat : Int) ≤ 127) :
    Calls Tryd.prog 52 #[.string s] w fun e w' => ∃ r : ByteArray, e = .returned (.string r) ∧ r.toList = (Lib.toLowerR (c.toNat : Int)).toNat.toUInt8 :: t ∧ Below w.heap.size w w' := by
  have hz : 1 ≤ s.size := by rw [len_eq, hl]; simp
  have hd := Lib.hid (fun w => Tryd.utf8_DecodeRuneInString_ascii s c w (by rw [← Lib.toList_data, hl]; rfl) hc)
  have hu := Lib.hid (fun w => Tryd.unicode_ToLower (c.toNat : Int) w (by omega))
  have hs0 : (s.toList == ([] : List UInt8)) = false := by rw [hl]; rfl
  obtain ⟨x, hx⟩ : ∃ x, x = (c.toNat : Int) := ⟨_, rfl⟩
  rw [← hx] at hd hu hr ⊢
  obtain ⟨y, hy⟩ : ∃ y, y = Lib.toLowerR x := ⟨_, rfl⟩
  rw [← hy] at hu hr ⊢
  have HX := Lib.hid hx
  have HL := Lib.hid hl
  clear hy hl hx
  by_cases hxy : y = x
  · subst hxy
    go_enter Tryd.func52, Tryd.ntmps52
    go_wp2_with fail
    refine (hd.out _).mono ?_
    rintro e w1 ⟨rfl, rfl⟩
    go_wp2_with fail
    refine (hu.out _).mono ?_
    rintro e w2 ⟨rfl, rfl⟩
    go_wp2_with fail
    go_ret
    refine ⟨s, rfl, ?_, Below.refl _ _⟩
    rw [HL.out, HX.out]; simp
  · go_enter Tryd.func52, Tryd.ntmps52
    go_wp2_with fail
    refine (hd.out _).mono ?_
    rintro e w1 ⟨rfl, rfl⟩
    go_wp2_with fail
    refine (hu.out _).mono ?_
    rintro e w2 ⟨rfl, rfl⟩
    go_wp2_with fail
    have hI : Lib.IsBuilder 56 5 w2.heap.size w2.heap.size [] (w2.alloc (.cells #[.pointer none, .slice none 0 0] 56)) :=
      .inl ⟨Nat.le_refl _, .slice none 0 0, by show (w2.heap.push _)[w2.heap.size]? = _; simp, ⟨rfl, .inl ⟨rfl, rfl⟩⟩, by simp [Value.ownBlock]⟩
    refine (WriteRune w2.heap.size w2.heap.size [] y hr.1 hr.2 _ hI (by simp) (by simp)).mono ?_
    rintro e w3 ⟨rfl, hb3, hB3⟩
    have hsz3 := hB3.size
    have hext : (s.extract 1 s.size).size ≤ s.size := by rw [size_extract _ _ _ (by omega) (Nat.le_refl _)]; omega
    have H3 := Lib.hid hb3
    have HB3 := Lib.hid hB3
    clear hb3 hB3 hI
    go_wp2_with fail
    have hl1 : ([] ++ [Value.int .u8 y]).length + (s.extract 1 s.size).size ≤ 140737488355328 := by show 1 + (s.extract 1 s.size).size ≤ 140737488355328; omega
    have hl2 : w2.heap.size ≤ w3.heap.size := by simp at hsz3; omega
    refine (WriteString w2.heap.size w2.heap.size ([] ++ [.int .u8 y]) (s.extract 1 s.size) w3 (.inr H3.out) hl1 hl2).mono ?_
    rintro e w4 ⟨rfl, hb4, hB4⟩
    have hsz4 := hB4.size
    have HB4 := Lib.hid hB4
    have hcells : [] ++ [Value.int .u8 y] ++ Lib.strCells (s.extract 1 s.size) = Lib.byteCells (y.toNat.toUInt8 :: t) := by
      rw [strCells_eq, extract_self, HL.out]
      have e8 : ((y.toNat.toUInt8).toNat : Int) = y := by
        rw [UInt8.toNat_ofNat_of_lt' (by show y.toNat < 256; omega)]; omega
      show [Value.int .u8 y] ++ Lib.byteCells t = _
      unfold Lib.byteCells
      rw [List.map_cons, e8]; rfl
    rw [hcells] at hb4
    have H4 := Lib.hid hb4
    clear hb4 hB4 hcells
    go_wp2_with fail
    refine (Tryd.Builder_String_any w2.heap.size w2.heap.size (y.toNat.toUInt8 :: t) w4 (.inr H4.out) (Nat.le_trans hl2 hsz4)).mono ?_
    rintro e w5 ⟨rfl, hB5⟩
    have HB5 := Lib.hid hB5
    clear hB5
    go_wp2_with fail
    go_ret
    refine ⟨_, rfl, tl_mk _, ((((Below.refl _ _).alloc (Nat.le_refl _) _).trans HB3.out).trans HB4.out).trans HB5.out⟩

set_option maxHeartbeats 2000000 in
theorem firstHigh_walk (s : ByteArray) (c : UInt8) (t : List UInt8) (w : World) (hs : s.size ≤ 1000) (hl : s.toList = c :: t) (hc : c.toNat < 128) (hr : 0 ≤ Lib.toUpperR (c.toNat : Int) ∧ Lib.toUpperR (c.toNat : Int) ≤ 127) :
    Calls Tryd.prog 53 #[.string s] w fun e w' => ∃ r : ByteArray, e = .returned (.string r) ∧ r.toList = (Lib.toUpperR (c.toNat : Int)).toNat.toUInt8 :: t ∧ Below w.heap.size w w' := by
  have hz : 1 ≤ s.size := by rw [len_eq, hl]; simp
  have hd := Lib.hid (fun w => Tryd.utf8_DecodeRuneInString_ascii s c w (by rw [← Lib.toList_data, hl]; rfl) hc)
  have hu := Lib.hid (fun w => Tryd.unicode_ToUpper (c.toNat : Int) w (by omega))
  have hs0 : (s.toList == ([] : List UInt8)) = false := by rw [hl]; rfl
  obtain ⟨x, hx⟩ : ∃ x, x = (c.toNat : Int) := ⟨_, rfl⟩
  rw [← hx] at hd hu hr ⊢
  obtain ⟨y, hy⟩ : ∃ y, y = Lib.toUpperR x := ⟨_, rfl⟩
  rw [← hy] at hu hr ⊢
  have HX := Lib.hid hx
  have HL := Lib.hid hl
  clear hy hl hx
  by_cases hxy : y = x
  · subst hxy
    go_enter Tryd.func53, Tryd.ntmps53
    go_wp2_with fail
    refine (hd.out _).mono ?_
    rintro e w1 ⟨rfl, rfl⟩
    go_wp2_with fail
    refine (hu.out _).mono ?_
    rintro e w2 ⟨rfl, rfl⟩
    go_wp2_with fail
    go_ret
    refine ⟨s, rfl, ?_, Below.refl _ _⟩
    rw [HL.out, HX.out]; simp
  · go_enter Tryd.func53, Tryd.ntmps53
    go_wp2_with fail
    refine (hd.out _).mono ?_
    rintro e w1 ⟨rfl, rfl⟩
    go_wp2_with fail
    refine (hu.out _).mono ?_
    rintro e w2 ⟨rfl, rfl⟩
    go_wp2_with fail
    have hI : Lib.IsBuilder 56 5 w2.heap.size w2.heap.size [] (w2.alloc (.cells #[.pointer none, .slice none 0 0] 56)) :=
      .inl ⟨Nat.le_refl _, .slice none 0 0, by show (w2.heap.push _)[w2.heap.size]? = _; simp, ⟨rfl, .inl ⟨rfl, rfl⟩⟩, by simp [Value.ownBlock]⟩
    refine (WriteRune w2.heap.size w2.heap.size [] y hr.1 hr.2 _ hI (by simp) (by simp)).mono ?_
    rintro e w3 ⟨rfl, hb3, hB3⟩
    have hsz3 := hB3.size
    have hext : (s.extract 1 s.size).size ≤ s.size := by rw [size_extract _ _ _ (by omega) (Nat.le_refl _)]; omega
    have H3 := Lib.hid hb3
    have HB3 := Lib.hid hB3
    clear hb3 hB3 hI
    go_wp2_with fail
    have hl1 : ([] ++ [Value.int .u8 y]).length + (s.extract 1 s.size).size ≤ 140737488355328 := by show 1 + (s.extract 1 s.size).size ≤ 140737488355328; omega
    have hl2 : w2.heap.size ≤ w3.heap.size := by simp at hsz3; omega
    refine (WriteString w2.heap.size w2.heap.size ([] ++ [.int .u8 y]) (s.extract 1 s.size) w3 (.inr H3.out) hl1 hl2).mono ?_
    rintro e w4 ⟨rfl, hb4, hB4⟩
    have hsz4 := hB4.size
    have HB4 := Lib.hid hB4
    have hcells : [] ++ [Value.int .u8 y] ++ Lib.strCells (s.extract 1 s.size) = Lib.byteCells (y.toNat.toUInt8 :: t) := by
      rw [strCells_eq, extract_self, HL.out]
      have e8 : ((y.toNat.toUInt8).toNat : Int) = y := by
        rw [UInt8.toNat_ofNat_of_lt' (by show y.toNat < 256; omega)]; omega
      show [Value.int .u8 y] ++ Lib.byteCells t = _
      unfold Lib.byteCells
      rw [List.map_cons, e8]; rfl
    rw [hcells] at hb4
    have H4 := Lib.hid hb4
    clear hb4 hB4 hcells
    go_wp2_with fail
    refine (Tryd.Builder_String_any w2.heap.size w2.heap.size (y.toNat.toUInt8 :: t) w4 (.inr H4.out) (Nat.le_trans hl2 hsz4)).mono ?_
    rintro e w5 ⟨rfl, hB5⟩
    have HB5 := Lib.hid hB5
    clear hB5
    go_wp2_with fail
    go_ret
    refine ⟨_, rfl, tl_mk _, ((((Below.refl _ _).alloc (Nat.le_refl _) _).trans HB3.out).trans HB4.out).trans HB5.out⟩

/-- Bytes of ASCII. -/
def asciiB (s : ByteArray) : Prop := ∀ c ∈ s.toList, c.toNat < 128
instance (s : ByteArray) : Decidable (asciiB s) := by unfold asciiB; infer_instance
theorem lower_byte (c : UInt8) (h : c.toNat < 128) : (0 ≤ Lib.toLowerR (c.toNat : Int) ∧ Lib.toLowerR (c.toNat : Int) ≤ 127) ∧ (Lib.toLowerR (c.toNat : Int)).toNat.toUInt8 = lowB c := by
  have : ∀ n : Fin 128, (0 ≤ Lib.toLowerR (n.val : Int) ∧ Lib.toLowerR (n.val : Int) ≤ 127) ∧ (Lib.toLowerR (n.val : Int)).toNat.toUInt8 = lowB (UInt8.ofNat n.val) := by decide +kernel
  have h2 := this ⟨c.toNat, h⟩
  simpa using h2
theorem upper_byte (c : UInt8) (h : c.toNat < 128) : (0 ≤ Lib.toUpperR (c.toNat : Int) ∧ Lib.toUpperR (c.toNat : Int) ≤ 127) ∧ (Lib.toUpperR (c.toNat : Int)).toNat.toUInt8 = highB c := by
  have : ∀ n : Fin 128, (0 ≤ Lib.toUpperR (n.val : Int) ∧ Lib.toUpperR (n.val : Int) ≤ 127) ∧ (Lib.toUpperR (n.val : Int)).toNat.toUInt8 = highB (UInt8.ofNat n.val) := by decide +kernel
  have h2 := this ⟨c.toNat, h⟩
  simpa using h2
def firstB (f : UInt8 → UInt8) (s : ByteArray) : ByteArray := ⟨(match s.toList with | [] => [] | c :: t => f c :: t).toArray⟩

theorem firstLow_empty (s : ByteArray) (w : World) (hs : s.toList = []) :
    Calls Tryd.prog 52 #[.string s] w fun e w' => e = .returned (.string s) ∧ Below w.heap.size w w' := by
  have hs0 : (s.toList == ([] : List UInt8)) = true := by rw [hs]; rfl
  clear hs
  go_enter Tryd.func52, Tryd.ntmps52
  go_wp2_with fail
  go_ret
  exact ⟨rfl, Below.refl _ _⟩
def xstrings_FirstRuneToLower.f (a0 : ByteArray) : Option (ByteArray) := if a0.size ≤ 1000 ∧ asciiB a0 then some (firstB lowB a0) else none
theorem xstrings_FirstRuneToLower.calls (a0 : ByteArray) (r : ByteArray) (w : World) (h : xstrings_FirstRuneToLower.f a0 = some r) :
    Calls Tryd.prog 52 #[.string a0] w fun e w' => e = .returned (.string r) ∧ Below w.heap.size w w' := by
  unfold xstrings_FirstRuneToLower.f at h
  split at h
  case isFalse => exact absurd h (by simp)
  rename_i hb
  obtain rfl := Option.some.inj h
  cases hl : a0.toList with
  | nil =>
    have e : firstB lowB a0 = a0 := ext_eq (by unfold firstB; rw [tl_mk, hl])
    rw [e]
    exact firstLow_empty a0 w hl
  | cons c t =>
    have hc := hb.2 c (by rw [hl]; exact List.mem_cons_self ..)
    obtain ⟨h1, h2⟩ := lower_byte c hc
    refine (firstLow_walk a0 c t w hb.1 hl hc h1).mono ?_
    rintro e w' ⟨r, rfl, hr, hB⟩
    have e : r = firstB lowB a0 := ext_eq (by rw [hr, h2]; unfold firstB; rw [hl, tl_mk])
    rw [e]
    exact ⟨rfl, hB⟩

theorem firstHigh_empty (s : ByteArray) (w : World) (hs : s.toList = []) :
    Calls Tryd.prog 53 #[.string s] w fun e w' => e = .returned (.string s) ∧ Below w.heap.size w w' := by
  have hs0 : (s.toList == ([] : List UInt8)) = true := by rw [hs]; rfl
  clear hs
  go_enter Tryd.func53, Tryd.ntmps53
  go_wp2_with fail
  go_ret
  exact ⟨rfl, Below.refl _ _⟩
def xstrings_FirstRuneToUpper.f (a0 : ByteArray) : Option (ByteArray) := if a0.size ≤ 1000 ∧ asciiB a0 then some (firstB highB a0) else none
theorem xstrings_FirstRuneToUpper.calls (a0 : ByteArray) (r : ByteArray) (w : World) (h : xstrings_FirstRuneToUpper.f a0 = some r) :
    Calls Tryd.prog 53 #[.string a0] w fun e w' => e = .returned (.string r) ∧ Below w.heap.size w w' := by
  unfold xstrings_FirstRuneToUpper.f at h
  split at h
  case isFalse => exact absurd h (by simp)
  rename_i hb
  obtain rfl := Option.some.inj h
  cases hl : a0.toList with
  | nil =>
    have e : firstB highB a0 = a0 := ext_eq (by unfold firstB; rw [tl_mk, hl])
    rw [e]
    exact firstHigh_empty a0 w hl
  | cons c t =>
    have hc := hb.2 c (by rw [hl]; exact List.mem_cons_self ..)
    obtain ⟨h1, h2⟩ := upper_byte c hc
    refine (firstHigh_walk a0 c t w hb.1 hl hc h1).mono ?_
    rintro e w' ⟨r, rfl, hr, hB⟩
    have e : r = firstB highB a0 := ext_eq (by rw [hr, h2]; unfold firstB; rw [hl, tl_mk])
    rw [e]
    exact ⟨rfl, hB⟩

end Go.Proofs.YtpkdoinofenahaaDoor.Giv
