/- base64: EncodeToString, and sprig's b64enc. -/
import Derived.Test.YtoaalpkeepjhmaaB6Enc
import Derived.Lib.AtoiErrMem
import Derived.Sort.Row
namespace Go.Proofs.Ytoaalpkeepjhmaa.B6
open Go.RowKit Go.Sort Go.Proofs.YtoaalpkeepjhmaaW.PrintWords Go.Proofs.Ytoaalpkeepjhmaa.Txt
set_option linter.unusedVariables false
set_option linter.unusedSimpArgs false
set_option maxRecDepth 100000
/-- Numbers below 256 as a text. -/
def tx (l : List Nat) : ByteArray := ⟨(l.map UInt8.ofNat).toArray⟩
theorem infoU8 : (Try.prog.info? 5).map (fun i => (i.zero, i.size, i.bytes)) = some (some (.int .u8 0), 1, 1) := by kernel_rfl
theorem enc_small : ∀ (L : List Nat), (∀ x ∈ L, x < 256) → ∀ y ∈ enc64 L, y < 256 := by
  have hs : ∀ i, sgn i < 256 := fun i => by unfold sgn; exact UInt8.toNat_lt _
  intro L
  induction L using enc64.induct with
  | case1 b0 b1 b2 t ih =>
    intro h y hy
    rw [enc64] at hy
    rcases List.mem_append.1 hy with hy | hy
    · unfold grp at hy
      simp only [List.mem_cons, List.not_mem_nil, or_false] at hy
      rcases hy with rfl | rfl | rfl | rfl <;> exact hs _
    · exact ih (fun x hx => h x (by simp [hx])) y hy
  | case2 b0 b1 =>
    intro h y hy
    unfold enc64 at hy
    simp only [List.mem_cons, List.not_mem_nil, or_false] at hy
    rcases hy with rfl | rfl | rfl | rfl
    · exact hs _
    · exact hs _
    · exact hs _
    · decide
  | case3 b0 =>
    intro h y hy
    unfold enc64 at hy
    simp only [List.mem_cons, List.not_mem_nil, or_false] at hy
    rcases hy with rfl | rfl | rfl | rfl
    · exact hs _
    · exact hs _
    · decide
    · decide
  | case4 => intro h y hy; unfold enc64 at hy; cases hy
theorem enc_len (L : List Nat) : (enc64 L).length = (L.length + 2) / 3 * 4 := by
  induction L using enc64.induct with
  | case1 b0 b1 b2 t ih => rw [enc64, List.length_append, ih]; simp [grp]; omega
  | case2 b0 b1 => simp [enc64]
  | case3 b0 => simp [enc64]
  | case4 => simp [enc64]
theorem row_text (W : World) (b n : Nat) (D : List Nat) (h : RowU W b D) (hD : ∀ y ∈ D, y < 256) (hn : D.length = n) : (convert 36 9 (.slice (some ⟨b, 0, none⟩) n n)).run Try.prog W = .ok (.string (tx D)) W := by
  have hl : (D.map UInt8.ofNat).length = n := by rw [List.length_map, hn]
  have := run_convert_bytes_back (P := Try.prog) W 36 9 5 ⟨b, 0, none⟩ n (D.map UInt8.ofNat) Try.underlying36 Try.underlying5 Try.underlying9 (fun j hj => by
    have hj' : j < D.length := by rw [List.length_map] at hj; exact hj
    have e1 : (⟨b, 0, none⟩ : Addr).add j = ⟨b, j, none⟩ := by rw [Addr.add_mid, Nat.zero_add]
    have e2 : ((UInt8.ofNat D[j]).toNat : Int) = (D[j] : Int) := by
      have := hD _ (List.getElem_mem hj')
      rw [UInt8.toNat_ofNat']; omega
    rw [e1, h.cell j D[j] (List.getElem?_eq_getElem hj'), List.getElem_map, e2])
  rw [hl] at this
  exact this
set_option maxHeartbeats 2000000 in
theorem encodeToString_walk (eb sb : Nat) (L : List Nat) (hL : L.length ≤ 1000) (hb : ∀ x ∈ L, x < 256) (cp : Nat) (hcp : L.length ≤ cp) (w : World) (hE : EncOf w eb (mAt 64)) (hs : sb < w.heap.size)
    (hS : ∀ j k : Nat, L[j]? = some k → w.cell? ⟨sb, j, none⟩ = some (.int .u8 (k : Int))) :
    Calls Try.prog 25 #[.pointer (some ⟨eb, 0, none⟩), .slice (some ⟨sb, 0, none⟩) L.length cp] w fun e w' => e = .returned (.string (tx (enc64 L))) ∧ Below w.heap.size w w' := by
  have HL := Lib.hid (encodedLen_walk eb L.length (by omega) w hE)
  have hmk := fun W => run_make_row' (P := Try.prog) 36 5 (.int .u8 0) 1 Try.underlying36 infoU8 rfl .i64 .i64 ((L.length + 2) / 3 * 4) (by omega) (by omega) W
  have hR : RowU (w.alloc (.cells (madeCells #[.int .u8 0] ((L.length + 2) / 3 * 4)) 5)) w.heap.size (List.replicate ((L.length + 2) / 3 * 4) 0) := by
    unfold RowU
    rw [heap_alloc_new]
    refine congrArg some (congrArg (fun a => Obj.cells a 5 (0, 0)) ?_)
    apply Array.ext
    · simp [size_madeCells]
    · intro j h1 h2
      simp [madeCells, Nat.mod_one]
  have hEn := encode_walk eb sb w.heap.size L hL hb cp hcp (w.alloc (.cells (madeCells #[.int .u8 0] ((L.length + 2) / 3 * 4)) 5)) (hE.below ((Below.refl _ _).alloc (Nat.le_refl _) _) hE.lt) hR hE.lt hs (fun j k h => by
    rw [((Below.refl w.heap.size w).alloc (Nat.le_refl _) (.cells (madeCells #[.int .u8 0] ((L.length + 2) / 3 * 4)) 5)).cell (p := ⟨sb, j, none⟩) hs]; exact hS j k h)
  have HEN := Lib.hid hEn
  have HSM := Lib.hid (And.intro (enc_small L hb) (enc_len L))
  obtain ⟨n, hn⟩ : ∃ n, n = L.length := ⟨_, rfl⟩
  obtain ⟨dl, hdl⟩ : ∃ dl, dl = (n + 2) / 3 * 4 := ⟨_, rfl⟩
  rw [← hn] at HL hmk HEN HSM ⊢
  rw [← hdl] at HL hmk HEN HSM
  clear hEn hR hS hE hb hL hcp hn hdl
  go_enter Try.func25, Try.ntmps25
  go_wp2_with fail
  refine HL.out.mono ?_
  rintro e w1 ⟨rfl, rfl⟩
  go_wp2_with fail
  refine HEN.out.mono ?_
  rintro e w2 ⟨rfl, hr2, hb2⟩
  have hcv := row_text w2 _ dl _ hr2 HSM.out.1 HSM.out.2
  have HB2 := Lib.hid hb2
  clear hr2 hb2
  go_wp2_with fail
  go_ret
  exact ⟨rfl, ((Below.refl _ _).alloc (Nat.le_refl _) _).trans HB2.out⟩
theorem zz_walk (w : World) : Calls Try.prog 24 #[] w fun e w' => ∃ b, e = .returned (.pointer (some ⟨b, 0, none⟩)) ∧ w.heap.size ≤ b ∧ EncOf w' b (mAt 64) ∧ Below w.heap.size w w' := by
  have HN := Lib.hid (new_walk w)
  unfold alpha at HN
  go_enter Try.func24, Try.ntmps24
  go_wp2_with fail
  refine HN.out.mono ?_
  rintro e w1 ⟨b, rfl, hb, hE, hB⟩
  have HE := Lib.hid (And.intro hb (And.intro hE hB))
  clear hb hE hB
  go_wp2_with fail
  go_ret
  exact ⟨b, rfl, HE.out⟩
/-- A text's bytes as numbers. -/
def nums (s : ByteArray) : List Nat := s.data.toList.map UInt8.toNat
theorem nums_len (s : ByteArray) : (nums s).length = s.size := by unfold nums; rw [List.length_map]; rfl
theorem nums_small (s : ByteArray) : ∀ x ∈ nums s, x < 256 := fun x hx => by
  unfold nums at hx
  obtain ⟨c, _, rfl⟩ := List.mem_map.1 hx
  exact UInt8.toNat_lt _
theorem tx_nums (s : ByteArray) : tx (nums s) = s := by
  apply ext_eq
  rw [Lib.toList_data, Lib.toList_data]
  show (nums s).map UInt8.ofNat = s.data.toList
  unfold nums
  rw [List.map_map]
  conv => rhs; rw [← List.map_id s.data.toList]
  apply List.map_congr_left
  intro c _
  exact UInt8.ofNat_toNat
set_option maxHeartbeats 2000000 in
theorem base64encode_walk (s : ByteArray) (hs : s.size ≤ 1000) (w : World) :
    Calls Try.prog 19 #[.string s] w fun e w' => e = .returned (.string (tx (enc64 (nums s)))) ∧ Below w.heap.size w w' := by
  have HZ := Lib.hid (zz_walk w)
  have hcv := fun W => Lib.run_convert_string_bytes (P := Try.prog) W 9 36 5 s Try.underlying9 Try.underlying36 Try.underlying5
  obtain ⟨n, hn⟩ : ∃ n, n = s.size := ⟨_, rfl⟩
  have hnl : (nums s).length = n := by rw [nums_len, hn]
  have HE : Hid (∀ W b, EncOf W b (mAt 64) → Calls Try.prog 25 #[.pointer (some ⟨b, 0, none⟩), .slice (some ⟨W.heap.size, 0, none⟩) n (grownCap W n 0 5)] (Lib.bytesWorld W 5 s) fun e w' => e = .returned (.string (tx (enc64 (nums s)))) ∧ Below (Lib.bytesWorld W 5 s).heap.size (Lib.bytesWorld W 5 s) w') := Lib.hid fun W b hE => by
    have h := encodeToString_walk b W.heap.size (nums s) (by rw [nums_len]; exact hs) (nums_small s) (grownCap W n 0 5) (by rw [hnl]; exact grownCap_ge _ _ _ _) (Lib.bytesWorld W 5 s) (hE.below (Lib.bytesWorld_below W 5 s) hE.lt) (by rw [Lib.bytesWorld_size]; exact Nat.lt_succ_self _) (fun j k h => by
      unfold nums at h
      rw [List.getElem?_map] at h
      obtain ⟨c, hc, rfl⟩ := Option.map_eq_some_iff.1 h
      have hj : j < s.size := (List.getElem?_eq_some_iff.1 hc).1
      rw [Lib.bytesWorld_cell W _ s j hj, List.getD_eq_getElem?_getD, hc]; rfl)
    rw [hnl] at h
    exact h
  rw [← hn] at hcv
  clear hs hn hnl
  go_enter Try.func19, Try.ntmps19
  go_wp2_with fail
  refine HZ.out.mono ?_
  rintro e w1 ⟨b, rfl, hb, hE, hB⟩
  have H2 := Lib.hid (HE.out w1 b hE)
  have HB := Lib.hid hB
  clear hb hE hB
  go_wp2_with fail
  refine H2.out.mono ?_
  rintro e w2 ⟨rfl, hb2⟩
  have HB2 := Lib.hid (HB.out.trans ((Lib.bytesWorld_below w1 5 s).mono HB.out.size |>.trans (hb2.mono (by rw [Lib.bytesWorld_size]; have := HB.out.size; omega))))
  clear hb2
  go_wp2_with fail
  go_ret
  exact ⟨rfl, HB2.out⟩
theorem b64enc_walk (s : ByteArray) (hs : s.size ≤ 1000) (w : World) :
    Calls Try.prog 5 #[.string s] w fun e w' => e = .returned (.string (tx (enc64 (nums s)))) ∧ Below w.heap.size w w' := by
  have HI : Hid (∀ W, Calls Try.prog 13 #[.string s] W fun e w' => e = .returned (.string (tx (enc64 (nums s)))) ∧ Below W.heap.size W w') := Lib.hid fun W => by
    have HB := Lib.hid (base64encode_walk s hs W)
    clear hs
    go_enter Try.func13, Try.ntmps13
    go_wp2_with fail
    refine HB.out.mono ?_
    rintro e w1 ⟨rfl, hb⟩
    go_wp2_with fail
    go_ret
    exact ⟨rfl, hb⟩
  clear hs
  go_enter Try.func5, Try.ntmps5
  go_wp2_with fail
  refine (HI.out _).mono ?_
  rintro e w1 ⟨rfl, hb⟩
  go_wp2_with fail
  go_ret
  exact ⟨rfl, hb⟩
end Go.Proofs.Ytoaalpkeepjhmaa.B6
