/- base64: DecodeString, and sprig's b64dec. -/
import Derived.Test.YtoaalpkeepjhmaaB6Dec
namespace Go.Proofs.Ytoaalpkeepjhmaa.B6
open Go.RowKit Go.Sort Go.Proofs.YtoaalpkeepjhmaaW.PrintWords Go.Proofs.Ytoaalpkeepjhmaa.Txt Go.Proofs.Ytoaalpkeepjhmaa.PFnBase64
set_option linter.unusedVariables false
set_option linter.unusedSimpArgs false
set_option maxRecDepth 100000
theorem row_text2 (W : World) (b n c : Nat) (D Z : List Nat) (h : RowU W b (D ++ Z)) (hD : ∀ y ∈ D, y < 256) (hn : D.length = n) : (convert 36 9 (.slice (some ⟨b, 0, none⟩) n c)).run Try.prog W = .ok (.string (tx D)) W := by
  have hl : (D.map UInt8.ofNat).length = n := by rw [List.length_map, hn]
  have := run_convert_bytes_back (P := Try.prog) W 36 9 5 ⟨b, 0, none⟩ c (D.map UInt8.ofNat) Try.underlying36 Try.underlying5 Try.underlying9 (fun j hj => by
    have hj' : j < D.length := by rw [List.length_map] at hj; exact hj
    have e1 : (⟨b, 0, none⟩ : Addr).add j = ⟨b, j, none⟩ := by rw [Addr.add_mid, Nat.zero_add]
    have e2 : ((UInt8.ofNat D[j]).toNat : Int) = (D[j] : Int) := by
      have := hD _ (List.getElem_mem hj')
      rw [UInt8.toNat_ofNat']; omega
    rw [e1, h.cell j D[j] (by rw [List.getElem?_append_left hj']; exact List.getElem?_eq_getElem hj'), List.getElem_map, e2])
  rw [hl] at this
  exact this
theorem nums_tx (D : List Nat) (hD : ∀ y ∈ D, y < 256) : nums (tx D) = D := by
  unfold nums tx
  show ((D.map UInt8.ofNat).toArray.toList).map UInt8.toNat = D
  rw [List.toList_toArray, List.map_map]
  conv => rhs; rw [← List.map_id D]
  apply List.map_congr_left
  intro y hy
  have := hD y hy
  show (UInt8.ofNat y).toNat = y
  rw [UInt8.toNat_ofNat']; omega
theorem src_bytes (W : World) (s : ByteArray) : Src (Lib.bytesWorld W 5 s) W.heap.size (nums s) := fun j k h => by
  unfold nums at h
  rw [List.getElem?_map] at h
  obtain ⟨c, hc, rfl⟩ := Option.map_eq_some_iff.1 h
  have hj : j < s.size := (List.getElem?_eq_some_iff.1 hc).1
  rw [Lib.bytesWorld_cell W _ s j hj, List.getD_eq_getElem?_getD, hc]; rfl
theorem declen_f (n : Nat) (hn : n ≤ 100000) : base64_decodedLen.f (n : Int) 61 = some ((n / 4 * 3 : Nat) : Int) := by
  unfold base64_decodedLen.f
  rw [if_neg (by decide), Int.tdiv_eq_ediv_of_nonneg (by omega)]
  have e1 : wrap64 ((n : Int) / 4) = (n : Int) / 4 := w64 (by omega) (by omega)
  rw [e1, w64 (by omega) (by omega)]
  exact congrArg some (by omega)
theorem decodedLen_walk (b n : Nat) (hn : n ≤ 100000) (w : World) (hE : EncOf w b (mAt 64)) :
    Calls Try.prog 33 #[.pointer (some ⟨b, 0, none⟩), .int .i64 (n : Int)] w fun e w' => e = .returned (.int .i64 ((n / 4 * 3 : Nat) : Int)) ∧ Below w.heap.size w w' := by
  have k0 := hE.pad
  have HC := Lib.hid (fun W => base64_decodedLen.calls (n : Int) 61 _ W (declen_f n hn))
  clear hE
  obtain ⟨r, hr⟩ : ∃ r, r = n / 4 * 3 := ⟨_, rfl⟩
  rw [← hr] at HC ⊢
  clear hr
  go_enter Try.func33, Try.ntmps33
  go_wp2_with fail
  refine (HC.out _).mono ?_
  rintro e w1 ⟨rfl, hd⟩
  have HD := Lib.hid hd.below
  clear hd
  go_wp2_with fail
  go_ret
  exact ⟨rfl, HD.out⟩
set_option maxHeartbeats 4000000 in
theorem decodeString_walk (eb : Nat) (L : List Nat) (hL : L.length ≤ 1000) (hb : ∀ x ∈ L, x < 256) (w : World) (hE : EncOf w eb (mAt 64)) :
    Calls Try.prog 26 #[.pointer (some ⟨eb, 0, none⟩), .string (tx (enc64 L))] w fun e w' => ∃ db c Z, e = .returned (.tuple #[.slice (some ⟨db, 0, none⟩) L.length c, .nilIface]) ∧ RowU w' db (L ++ Z) ∧ Below w.heap.size w w' := by
  obtain ⟨g, hg⟩ : ∃ g, g = (L.length + 2) / 3 := ⟨_, rfl⟩
  obtain ⟨s, hs⟩ : ∃ s, s = tx (enc64 L) := ⟨_, rfl⟩
  have hsz : s.size = g * 4 := by
    have h1 : (nums s).length = s.size := nums_len s
    rw [← h1, hs, nums_tx _ (enc_small L hb), enc_len, hg]
  have hnum : nums s = enc64 L := by rw [hs, nums_tx _ (enc_small L hb)]
  have HDL := Lib.hid (decodedLen_walk eb (g * 4) (by omega) w hE)
  rw [show g * 4 / 4 * 3 = g * 3 by omega] at HDL
  have hmk := fun W => run_make_row' (P := Try.prog) 36 5 (.int .u8 0) 1 Try.underlying36 infoU8 rfl .i64 .i64 (g * 3) (by omega) (by omega) W
  have hcv := fun W => Lib.run_convert_string_bytes (P := Try.prog) W 9 36 5 s Try.underlying9 Try.underlying36 Try.underlying5
  have HDC : Hid (∀ W : World, EncOf W eb (mAt 64) → Calls Try.prog 34 #[.pointer (some ⟨eb, 0, none⟩), .slice (some ⟨W.heap.size, 0, none⟩) (g * 3) (g * 3), .slice (some ⟨W.heap.size + 1, 0, none⟩) (g * 4) (grownCap (W.alloc (.cells (madeCells #[.int .u8 0] (g * 3)) 5)) (g * 4) 0 5)] (Lib.bytesWorld (W.alloc (.cells (madeCells #[.int .u8 0] (g * 3)) 5)) 5 s) fun e w' => e = .returned (.tuple #[.int .i64 (L.length : Int), .nilIface]) ∧ (∃ Z, RowU w' W.heap.size (L ++ Z) ∧ L.length + Z.length = g * 3) ∧ Below W.heap.size W w') := Lib.hid fun W hEW => by
    obtain ⟨W1, hW1⟩ : ∃ W1, W1 = W.alloc (.cells (madeCells #[.int .u8 0] (g * 3)) 5) := ⟨_, rfl⟩
    have hR : RowU W1 W.heap.size (List.replicate (g * 3) 0) := by
      rw [hW1]
      unfold RowU
      rw [heap_alloc_new]
      refine congrArg some (congrArg (fun a => Obj.cells a 5 (0, 0)) ?_)
      apply Array.ext
      · simp [size_madeCells]
      · intro j h1 h2
        simp [madeCells, Nat.mod_one]
    have hB1 : Below W.heap.size W W1 := by rw [hW1]; exact (Below.refl _ _).alloc (Nat.le_refl _) _
    have hsz1 : W1.heap.size = W.heap.size + 1 := by rw [hW1, World.size_alloc]
    have hbw := Lib.bytesWorld_below W1 5 s
    rw [← hW1, ← hsz1]
    have hlt : eb < W.heap.size := hEW.lt
    have hsrc := src_bytes W1 s
    rw [hnum] at hsrc
    refine (decode_walk eb W1.heap.size W.heap.size g L hL hb hg _ (grownCap_ge _ _ _ _) _ ((hEW.below hB1 hlt).below hbw (by omega)) (hR.below hbw (by omega)) hlt (by rw [Lib.bytesWorld_size]; omega) (by omega) hsrc).mono ?_
    rintro e w' ⟨he, hz, hbl⟩
    exact ⟨he, hz, hB1.trans ((hbw.mono (by omega)).trans hbl)⟩
  have HEE := Lib.hid hE
  have HLg : Hid (L.length ≤ g * 3) := Lib.hid (by omega)
  rw [← hs]
  rw [hsz] at hcv
  obtain ⟨n, hn⟩ : ∃ n, n = L.length := ⟨_, rfl⟩
  rw [← hn] at HDC HLg ⊢
  obtain ⟨D, hD⟩ : ∃ D, D = g * 3 := ⟨_, rfl⟩
  rw [← hD] at HDC HDL hmk HLg
  have z1 : n ≤ D := HLg.out
  have z2 : (n : Int) ≤ (D : Int) := by omega
  have z3 : n ≤ 1000 := by omega
  clear hn hD hb hL hE hg hs hnum
  go_enter Try.func26, Try.ntmps26
  have hlen : (s.size : Int) = ((g * 4 : Nat) : Int) := by rw [hsz]
  go_wp2_with fail
  refine HDL.out.mono ?_
  rintro e w1 ⟨rfl, hb1⟩
  have HB1 := Lib.hid hb1
  have H2 := Lib.hid (HDC.out w1 (HEE.out.below hb1 HEE.out.lt))
  clear hb1
  go_wp2_with fail
  refine H2.out.mono ?_
  rintro e w2 ⟨rfl, ⟨Z, hz, _⟩, hb2⟩
  have HZ := Lib.hid hz
  have HB2 := Lib.hid (HB1.out.trans (hb2.mono HB1.out.size))
  clear hz hb2
  go_wp2_with fail
  go_ret2
  exact ⟨_, _, Z, rfl, HZ.out, HB2.out⟩
theorem base64decode_walk (L : List Nat) (hL : L.length ≤ 1000) (hb : ∀ x ∈ L, x < 256) (w : World) :
    Calls Try.prog 20 #[.string (tx (enc64 L))] w fun e w' => e = .returned (.string (tx L)) ∧ Below w.heap.size w w' := by
  have HZ := Lib.hid (zz_walk w)
  have HE := Lib.hid (fun (W : World) b (h : EncOf W b (mAt 64)) => decodeString_walk b L hL hb W h)
  have HBY := Lib.hid hb
  obtain ⟨s, hs⟩ : ∃ s, s = tx (enc64 L) := ⟨_, rfl⟩
  obtain ⟨n, hn⟩ : ∃ n, n = L.length := ⟨_, rfl⟩
  have HN := Lib.hid hn
  rw [← hs] at HE ⊢
  rw [← hn] at HE
  clear hL hb hs hn
  go_enter Try.func20, Try.ntmps20
  go_wp2_with fail
  refine HZ.out.mono ?_
  rintro e w1 ⟨b, rfl, hb, hE, hB⟩
  have H2 := Lib.hid (HE.out w1 b hE)
  have HB := Lib.hid hB
  clear hb hE hB
  go_wp2_with fail
  refine H2.out.mono ?_
  rintro e w2 ⟨db, c, Z, rfl, hz, hb2⟩
  have HB2 := Lib.hid (HB.out.trans (hb2.mono HB.out.size))
  have hcv := row_text2 w2 db n c L Z hz HBY.out HN.out.symm
  clear hb2 hz
  go_wp2_with fail
  go_ret
  exact ⟨rfl, HB2.out⟩
theorem b64dec_walk (L : List Nat) (hL : L.length ≤ 1000) (hb : ∀ x ∈ L, x < 256) (w : World) :
    Calls Try.prog 7 #[.string (tx (enc64 L))] w fun e w' => e = .returned (.string (tx L)) ∧ Below w.heap.size w w' := by
  have HI : Hid (∀ W, Calls Try.prog 15 #[.string (tx (enc64 L))] W fun e w' => e = .returned (.string (tx L)) ∧ Below W.heap.size W w') := Lib.hid fun W => by
    have HB := Lib.hid (base64decode_walk L hL hb W)
    obtain ⟨s, hs⟩ : ∃ s, s = tx (enc64 L) := ⟨_, rfl⟩
    rw [← hs] at HB ⊢
    clear hL hb hs
    go_enter Try.func15, Try.ntmps15
    go_wp2_with fail
    refine HB.out.mono ?_
    rintro e w1 ⟨rfl, hb⟩
    go_wp2_with fail
    go_ret
    exact ⟨rfl, hb⟩
  obtain ⟨s, hs⟩ : ∃ s, s = tx (enc64 L) := ⟨_, rfl⟩
  rw [← hs] at HI ⊢
  clear hL hb hs
  go_enter Try.func7, Try.ntmps7
  go_wp2_with fail
  refine (HI.out _).mono ?_
  rintro e w1 ⟨rfl, hb⟩
  go_wp2_with fail
  go_ret
  exact ⟨rfl, hb⟩
end Go.Proofs.Ytoaalpkeepjhmaa.B6
