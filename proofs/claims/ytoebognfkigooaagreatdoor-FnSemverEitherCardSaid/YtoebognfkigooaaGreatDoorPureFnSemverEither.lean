/- FnSemverEither: a version as one of some tests asks: the law's walk. Printed by gen_eith.py. -/
import Derived.Test.YtoebognfkigooaaGreatDoorSvEx
import Derived.Test.YtoebognfkigooaaGreatDoorStrs
namespace Go.Proofs.YtoebognfkigooaaGreatDoor.Pure
/-- Nothing more is asked. -/
theorem FnSemverEither : True := trivial
end Go.Proofs.YtoebognfkigooaaGreatDoor.Pure
namespace Go.Proofs.YtoebognfkigooaaGreatDoor.PFnSemverEither
open Go.RowKit Go.Proofs.YtoebognfkigooaaGreatDoor.Vals Go.Proofs.YtoebognfkigooaaGreatDoorW.PrintWords Go.Proofs.YtoebognfkigooaaGreatDoor.Txt Go.Proofs.YtoebognfkigooaaGreatDoor Go.Proofs.YtoebognfkigooaaGreatDoor.Sv
set_option linter.unusedVariables false
set_option linter.unusedSimpArgs false
set_option maxRecDepth 20000
theorem vt_size {s : ByteArray} {d1 d2 d3 : List UInt8} (n1 : Num9 d1) (n2 : Num9 d2) (n3 : Num9 d3) (hs : s.toList = d1 ++ (sg 46 d2 ++ sg 46 d3)) : s.size ≤ 29 := by
  rw [len_eq, hs]; have a1 := n1.2.2; have a2 := n2.2.2; have a3 := n3.2.2
  rw [sg_num n2, sg_num n3]; simp; omega
theorem op_size {o : ByteArray} (h : o.toList ∈ nine) : o.size ≤ 2 := by rw [len_eq]; exact nine_len _ h
theorem ba_tl (o : ByteArray) : ba o.toList = o := ext_eq (tl_mk _)
set_option maxHeartbeats 8000000 in
theorem laws_FnSemverEither.walk (_P : True) (a0 : Option Addr) (len0 cap0 : Nat) (l0 : List ByteArray) (a1 : Option Addr) (len1 cap1 : Nat) (l1 : List ByteArray) (a2 : ByteArray) (w : World) (w0 : IsStrs w a0 len0 cap0 l0) (w1 : IsStrs w a1 len1 cap1 l1) (w2 : a2.size ≤ 140737488351232) :
    Calls Tryz.prog 3 #[.slice a0 len0 cap0, .slice a1 len1 cap1, .string a2] w fun e w' => e = .returned (.bool true) ∧ Below w.heap.size w w' := by
  obtain ⟨rfl, c0, R0⟩ := w0
  obtain ⟨rfl, c1, R1⟩ := w1
  obtain ⟨bf0, hF0, HF0'⟩ := fits_call l0
  obtain ⟨bf1, hF1, HF1'⟩ := fits_call l1
  have HR0 := Lib.hid R0
  have HR1 := Lib.hid R1
  have HF0 := Lib.hid (fun W (hW : Below w.heap.size w W) => HF0' a0 cap0 W c0 (R0.below hW))
  have HF1 := Lib.hid (fun W (hW : Below w.heap.size w W) => HF1' a1 cap1 W c1 (R1.below hW))
  have HS1 := Lib.hid hF1
  obtain ⟨n0, hn0⟩ : ∃ n, n = l0.length := ⟨_, rfl⟩
  obtain ⟨n1, hn1⟩ : ∃ n, n = l1.length := ⟨_, rfl⟩
  have m0 := R0.2.1
  have m1 := R1.2.1
  rw [← hn0] at HF0 HR0 m0 c0 ⊢
  rw [← hn1] at HF1 HR1 m1 c1 ⊢
  have HN0 := Lib.hid hn0
  have HN1 := Lib.hid hn1
  clear hF0 hF1 HF0' HF1' R0 R1 hn0 hn1
  by_cases hbig : 2147483647 < a2.size
  · cases bf0 with
    | false =>
      go_enter Tryz.func3, Tryz.ntmps3
      go_wp2_with fail
      refine (HF0.out _ (Below.refl _ _)).mono ?_
      rintro e w3 ⟨rfl, hb3⟩
      have HB3 := Lib.hid hb3
      go_wp2_with fail
      go_ret
      exact ⟨rfl, HB3.out⟩
    | true =>
      cases bf1 <;> (
      go_enter Tryz.func3, Tryz.ntmps3
      go_wp2_with fail
      refine (HF0.out _ (Below.refl _ _)).mono ?_
      rintro e w3 ⟨rfl, hb3⟩
      have HB3 := Lib.hid hb3
      clear hb3
      go_wp2_with fail
      refine (HF1.out _ HB3.out).mono ?_
      rintro e w4 ⟨rfl, hb4⟩
      have HB4 := Lib.hid (HB3.out.trans (hb4.mono HB3.out.size))
      clear hb4
      go_wp2_with fail
      go_ret
      exact ⟨rfl, HB4.out⟩)
  have hnb : decide (2147483647 < (a2.size : Int)) = false := by simp; omega
  have hnb' : decide (2147483647 < a2.size) = false := by simp; omega
  obtain ⟨r1, r2, r3, r4, r5, ok, HPV, hPV⟩ := parse_call a2 (by omega)
  have HPV1 := Lib.hid HPV
  have HPV2 := Lib.hid hPV
  clear HPV hPV hbig w2
  go_enter Tryz.func3, Tryz.ntmps3
  go_wp2_with fail
  refine (HF0.out _ (Below.refl _ _)).mono ?_
  rintro e w3 ⟨rfl, hb3⟩
  have HB3 := Lib.hid hb3
  clear hb3
  cases bf0 with
  | false =>
    go_wp2_with fail
    go_ret
    exact ⟨rfl, HB3.out⟩
  | true =>
  go_wp2_with fail
  refine (HF1.out _ HB3.out).mono ?_
  rintro e w4 ⟨rfl, hb4⟩
  have HB4 := Lib.hid (HB3.out.trans (hb4.mono HB3.out.size))
  clear hb4
  cases bf1 with
  | false =>
    go_wp2_with fail
    go_ret
    exact ⟨rfl, HB4.out⟩
  | true =>
  go_wp2_with fail
  refine (HPV1.out _).mono ?_
  rintro e w5 ⟨rfl, hb5⟩
  have HB5 := Lib.hid (HB4.out.trans (hb5.mono HB4.out.size))
  clear hb5 HPV1 HF0 HF1 HB3 HB4
  have hbv : Below w.heap.size w (w5.alloc (.cells #[.int .u64 r1, .int .u64 r2, .int .u64 r3, .string r4, .string r5] 26)) := HB5.out.alloc HB5.out.size _
  cases ok with
  | false =>
    go_wp2_with fail
    go_ret
    exact ⟨rfl, hbv⟩
  | true =>
  cases E4 : r4.toList.isEmpty with
  | false =>
    go_wp2_with fail
    go_ret
    exact ⟨rfl, hbv⟩
  | true =>
  cases E5 : r5.toList.isEmpty with
  | false =>
    go_wp2_with fail
    go_ret
    exact ⟨rfl, hbv⟩
  | true =>
  by_cases hl : n0 = n1
  case neg =>
    have hl' : ((n0 : Int) == (n1 : Int)) = false := by simp; omega
    go_wp2_with fail
    go_ret
    exact ⟨rfl, hbv⟩
  subst hl
  by_cases hz : n0 = 0
  case pos =>
    subst hz
    go_wp2_with fail
    go_ret
    exact ⟨rfl, hbv⟩
  have hz' : ((n0 : Int) == 0) = false := by simp; omega
  by_cases h5 : 5 < n0
  case pos =>
    have h5a : decide (5 < (n0 : Int)) = true := by simp; omega
    have h5b : decide (5 < n0) = true := by simp; omega
    go_wp2_with fail
    go_ret
    exact ⟨rfl, hbv⟩
  have h5a : decide (5 < (n0 : Int)) = false := by simp; omega
  have h5b : decide (5 < n0) = false := by simp; omega
  have e4 : r4 = ⟨#[]⟩ := ext_eq (by rw [tl_nil]; simpa using E4)
  have e5 : r5 = ⟨#[]⟩ := ext_eq (by rw [tl_nil]; simpa using E5)
  obtain ⟨d1, d2, d3, g1, g2, g3, hv, rfl, rfl, rfl⟩ := HPV2.out rfl e4 e5
  subst e4 e5
  obtain ⟨x, hx⟩ : ∃ x, x = val 0 d1 := ⟨_, rfl⟩
  obtain ⟨y, hy⟩ : ∃ x, x = val 0 d2 := ⟨_, rfl⟩
  obtain ⟨z, hzz⟩ : ∃ x, x = val 0 d3 := ⟨_, rfl⟩
  have hcmp : ∀ T B W, AccE x y z n0 T B → Calls Tryz.prog 9 #[.string T, .string a2] W fun e w' => e = .returned (.tuple #[.bool B, .bool true]) ∧ Below W.heap.size W w' := fun T B W h => by
    rw [hx, hy, hzz] at h
    exact h.ask (by omega) (by omega) g1 g2 g3 hv W
  have htxt : ∀ T B W, AccE x y z n0 T B → Calls Tryz.prog 10 #[.string T] W fun e w' => e = .returned (.tuple #[.string T, .bool true]) ∧ Below W.heap.size W w' := fun T B W h => h.text (by omega) (by omega) W
  rw [← hx, ← hy, ← hzz] at hbv ⊢
  have HCMP := Lib.hid hcmp
  have HTXT := Lib.hid htxt
  clear htxt hcmp hx hy hzz hv g1 g2 g3 HPV2
  go_wp2_with fail
  obtain ⟨wl, hwl⟩ : ∃ wl, wl = w5.alloc (.cells #[.int .u64 (x : Int), .int .u64 (y : Int), .int .u64 (z : Int), .string ⟨#[]⟩, .string ⟨#[]⟩] 26) := ⟨_, rfl⟩
  obtain ⟨b7, hb7⟩ : ∃ b, b = w5.heap.size := ⟨_, rfl⟩
  have hF7 : Five wl b7 x y z := by rw [hwl, hb7]; exact heap_alloc_new w5 _
  rw [← hwl] at hbv
  rw [← hwl, ← hb7]
  have HBL := Lib.hid hbv
  have HF7 := Lib.hid hF7
  clear hbv hwl hb7 hF7 HB5 E4 E5
  go_loopg [9, 10, 11, 12, 13] n0 (fun kq v9 v10 v11 v12 v13 wr => ∃ (i : Nat) (T : ByteArray) (B : Bool) (x12 x13 : Value), v9 = .bool B ∧ v10 = .string T ∧ v11 = .int .i64 (i : Int) ∧ v12 = x12 ∧ v13 = x13 ∧ i + kq = n0 ∧ Hid (AccE x y z i T B) ∧ Hid (Five wr b7 x y z) ∧ Hid (Below w.heap.size w wr))
  case atStart => exact ⟨0, ⟨#[]⟩, false, _, _, rfl, rfl, rfl, rfl, rfl, by omega, Lib.hid (AccE.none x y z), HF7, HBL⟩
  case round =>
    obtain ⟨i, T, B, x12, x13, rfl, rfl, rfl, rfl, rfl, hik, HA, HF, HB⟩ := hrel
    cases gk with
    | zero =>
      have hd : decide ((i : Int) < (n0 : Int)) = false := by simp; omega
      have hd' : decide (i < n0) = false := by simp; omega
      have hin : i = n0 := by omega
      have HA' : Hid (AccE x y z n0 T B) := by rw [← hin]; exact HA
      go_wp2_with fail
      refine (HCMP.out _ _ _ HA'.out).mono ?_
      rintro e w7 ⟨rfl, hb7⟩
      have HB7 := Lib.hid (HB.out.trans (hb7.mono HB.out.size))
      have hbb : (B == B) = true := by cases B <;> rfl
      clear hb7
      go_wp2_with fail
      refine (HTXT.out _ _ _ HA'.out).mono ?_
      rintro e w8 ⟨rfl, hb8⟩
      have HB8 := Lib.hid (HB7.out.trans (hb8.mono HB7.out.size))
      clear hb8
      go_wp2_with fail
      refine (HCMP.out _ _ _ HA'.out).mono ?_
      rintro e w9 ⟨rfl, hb9⟩
      have HB9 := Lib.hid (HB8.out.trans (hb9.mono HB8.out.size))
      clear hb9
      cases B
      all_goals
        go_wp2_with fail
        go_ret
        exact ⟨rfl, HB9.out⟩
    | succ m =>
      have hi : i < n0 := by omega
      have hd : decide ((i : Int) < (n0 : Int)) = true := by simp; omega
      have hd' : decide (i < n0) = true := by simp; omega
      have p0 : (0 ≤ (i : Int)) = True := eq_true (by omega)
      have q0 : ((i : Int) < (n0 : Int)) = True := eq_true (by omega)
      obtain ⟨ad0, ea0, hc0⟩ := HR0.out.2.2 (by omega)
      obtain ⟨ad1, ea1, hc1⟩ := HR1.out.2.2 (by omega)
      have hm1 : l1.getD i ByteArray.empty ∈ l1 := by
        have : i < l1.length := by have := HN1.out; omega
        rw [List.getD_eq_getElem?_getD, List.getElem?_eq_getElem this]; exact List.getElem_mem this
      have hss := HS1.out trivial _ hm1
      have k0 := hc0 i hi
      have k1 := hc1 i hi
      obtain ⟨s, hs⟩ : ∃ s, s = l1.getD i ByteArray.empty := ⟨_, rfl⟩
      obtain ⟨o, ho⟩ : ∃ s, s = l0.getD i ByteArray.empty := ⟨_, rfl⟩
      rw [← hs] at k1 hss
      rw [← ho] at k0
      have HC0 : Hid (∀ W, Below w.heap.size w W → W.cell? (ad0.add i) = some (.string o)) := Lib.hid fun W hW => pw_cell_below hW k0
      have HC1 : Hid (∀ W, Below w.heap.size w W → W.cell? (ad1.add i) = some (.string s)) := Lib.hid fun W hW => pw_cell_below hW k1
      cases ea0
      cases ea1
      obtain ⟨r1, r2, r3, r4, r5, ok, HPV, hPV⟩ := parse_call s hss
      obtain ⟨bA, hbA, hAm⟩ := among_call o
      have HPV1 := Lib.hid HPV
      have HPV2 := Lib.hid hPV
      have HAM := Lib.hid hAm
      have HBA := Lib.hid hbA
      have u1 := HC1.out _ HB.out
      clear hc0 hc1 hm1 k0 k1 hs ho HPV hPV hAm hbA
      go_wp2_with fail
      refine (HPV1.out _).mono ?_
      rintro e w7 ⟨rfl, hb7⟩
      have HB7 := Lib.hid (HB.out.trans (hb7.mono HB.out.size))
      have HF7' := Lib.hid (HF.out.below hb7)
      clear hb7 u1
      have hb8a : Below w.heap.size w (w7.alloc (.cells #[.int .u64 r1, .int .u64 r2, .int .u64 r3, .string r4, .string r5] 26)) := HB7.out.alloc HB7.out.size _
      have hb8 : Below w.heap.size w ((w7.alloc (.cells #[.int .u64 r1, .int .u64 r2, .int .u64 r3, .string r4, .string r5] 26)).alloc (.cells #[.string ⟨#[]⟩, .string ⟨#[61]⟩, .string ⟨#[33, 61]⟩, .string ⟨#[62]⟩, .string ⟨#[60]⟩, .string ⟨#[62, 61]⟩, .string ⟨#[60, 61]⟩, .string ⟨#[126]⟩, .string ⟨#[94]⟩] 9)) := (HB7.out.alloc HB7.out.size _).alloc (by have := HB7.out.size; rw [World.size_alloc]; omega) _
      have u0 := HC0.out _ hb8
      cases ok with
      | false =>
        go_wp2_with fail
        go_ret
        exact ⟨rfl, hb8a⟩
      | true =>
      cases E4 : r4.toList.isEmpty with
      | false =>
        go_wp2_with fail
        go_ret
        exact ⟨rfl, hb8a⟩
      | true =>
      cases E5 : r5.toList.isEmpty with
      | false =>
        go_wp2_with fail
        go_ret
        exact ⟨rfl, hb8a⟩
      | true =>
      have e4 : r4 = ⟨#[]⟩ := ext_eq (by rw [tl_nil]; simpa using E4)
      have e5 : r5 = ⟨#[]⟩ := ext_eq (by rw [tl_nil]; simpa using E5)
      obtain ⟨d1, d2, d3, g1, g2, g3, hv, rfl, rfl, rfl⟩ := HPV2.out rfl e4 e5
      subst e4 e5
      obtain ⟨X, hX⟩ : ∃ x, x = val 0 d1 := ⟨_, rfl⟩
      obtain ⟨Y, hY⟩ : ∃ x, x = val 0 d2 := ⟨_, rfl⟩
      obtain ⟨Z, hZ⟩ : ∃ x, x = val 0 d3 := ⟨_, rfl⟩
      have HNX : Hid (val 0 d1 = X ∧ val 0 d2 = Y ∧ val 0 d3 = Z) := Lib.hid ⟨hX.symm, hY.symm, hZ.symm⟩
      have HNUM : Hid (Num9 d1 ∧ Num9 d2 ∧ Num9 d3 ∧ s.toList = d1 ++ (sg 46 d2 ++ sg 46 d3)) := Lib.hid ⟨g1, g2, g3, hv⟩
      rw [← hX, ← hY, ← hZ] at hb8 u0 ⊢
      clear hX hY hZ g1 g2 g3 hv hb8a E4 E5 HPV1 HPV2
      go_wp2_with fail
      obtain ⟨w8, hw8⟩ : ∃ w8, w8 = ((w7.alloc (.cells #[.int .u64 (X : Int), .int .u64 (Y : Int), .int .u64 (Z : Int), .string ⟨#[]⟩, .string ⟨#[]⟩] 26)).alloc (.cells #[.string ⟨#[]⟩, .string ⟨#[61]⟩, .string ⟨#[33, 61]⟩, .string ⟨#[62]⟩, .string ⟨#[60]⟩, .string ⟨#[62, 61]⟩, .string ⟨#[60, 61]⟩, .string ⟨#[126]⟩, .string ⟨#[94]⟩] 9)) := ⟨_, rfl⟩
      have hNine : w8.heap[w7.heap.size + 1]? = some (.cells nineC 9 (0, 0)) := by
        have := heap_alloc_new (w7.alloc (.cells #[.int .u64 (X : Int), .int .u64 (Y : Int), .int .u64 (Z : Int), .string ⟨#[]⟩, .string ⟨#[]⟩] 26)) (.cells nineC 9)
        rw [World.size_alloc] at this
        rw [hw8]; exact this
      have hFw : Five w8 w7.heap.size X Y Z := by
        rw [hw8]; exact (Below.heap_alloc _ _ _ (by simp)).trans (heap_alloc_new w7 _)
      have h78 : Below w7.heap.size w7 w8 := by rw [hw8]; exact ((Below.refl _ _).alloc (Nat.le_refl _) _).alloc (by simp) _
      rw [← hw8] at hb8 ⊢
      clear u0 hw8
      refine (HAM.out _ _ hNine).mono ?_
      rintro e w9 ⟨rfl, hb9⟩
      have HB9 := Lib.hid (hb8.trans (hb9.mono hb8.size))
      have HF9 := Lib.hid ((HF7'.out.below h78).below hb9)
      have HG9 := Lib.hid (hFw.below hb9)
      obtain ⟨b12, hb12⟩ : ∃ b, b = w7.heap.size := ⟨_, rfl⟩
      rw [← hb12] at HG9 ⊢
      have u0 := HC0.out _ HB9.out
      clear hNine hFw hb9 hb8 HF7' HB7 h78 hb12 HAM
      cases bA with
      | false =>
        go_wp2_with fail
        go_ret
        exact ⟨rfl, HB9.out⟩
      | true =>
      have hnin := HBA.out rfl
      have HNIN := Lib.hid hnin
      clear hnin HBA
      by_cases ho : o = ⟨#[126]⟩
      · subst ho
        obtain ⟨v0, v1, v2, v3, v4⟩ := HG9.out.cells
        have HO : Hid (∀ W, Calls Tryz.prog 7 #[.agg #[.int .u64 (X : Int), .int .u64 (Y : Int), .int .u64 (Z : Int), .string ⟨#[]⟩, .string ⟨#[]⟩], .agg #[.int .u64 0, .int .u64 0, .int .u64 0, .string ⟨#[]⟩, .string ⟨#[]⟩]] W fun e w' => e = .returned (.int .i64 (ord3 X Y Z 0 0 0)) ∧ Below W.heap.size W w') := Lib.hid fun W => order_walk X Y Z 0 0 0 ⟨#[]⟩ ⟨#[]⟩ ⟨#[]⟩ ⟨#[]⟩ W
        obtain ⟨r', hr'⟩ : ∃ r, r = ord3 (X : Int) Y Z 0 0 0 := ⟨_, rfl⟩
        rw [← hr'] at HO
        have HR' := Lib.hid hr'
        clear hr'
        go_wp2_with fail
        refine (HO.out _).mono ?_
        rintro e w10 ⟨rfl, hb10⟩
        have HBn := Lib.hid (HB9.out.trans (hb10.mono HB9.out.size))
        have HFn := Lib.hid (HF9.out.below hb10)
        have HGn := Lib.hid (HG9.out.below hb10)
        clear hb10 u0 v0 v1 v2 v3 v4 HO
        by_cases hr0 : r' = 0
        · subst hr0
          go_wp2_with fail
          go_ret
          exact ⟨rfl, HBn.out⟩
        · have hr1 : (r' == 0) = false := by simp [hr0]
          have HNZ : Hid ((⟨#[126]⟩ : ByteArray).toList = [126] → ¬ (X = 0 ∧ Y = 0 ∧ Z = 0)) := Lib.hid fun _ h => hr0 (by rw [HR'.out, h.1, h.2.1, h.2.2]; rfl)
          have hTs : T.size ≤ 250 := by
            obtain ⟨_, _, _, _, _, _, _, _, _, h⟩ := HA.out
            omega
          have hs29 := vt_size HNUM.out.1 HNUM.out.2.1 HNUM.out.2.2.1 HNUM.out.2.2.2
          have ho2 : (⟨#[126]⟩ : ByteArray).size ≤ 2 := op_size HNIN.out
          have cT : (9223372036854775807 < T.size + 4) = False := eq_false (by omega)
          have cO : (9223372036854775807 < (⟨#[126]⟩ : ByteArray).size + s.size) = False := eq_false (by omega)
          have cA : (9223372036854775807 < T.size + 4 + ((⟨#[126]⟩ : ByteArray).size + s.size)) = False := eq_false (by omega)
          have cB : (9223372036854775807 < T.size + ((⟨#[126]⟩ : ByteArray).size + s.size)) = False := eq_false (by omega)
          have c1 : (9223372036854775807 < 1 + s.size) = False := eq_false (by omega)
          have c2 : (9223372036854775807 < T.size + 4 + (1 + s.size)) = False := eq_false (by omega)
          have c3 : (9223372036854775807 < T.size + (1 + s.size)) = False := eq_false (by omega)
          clear hTs hs29 ho2
          obtain ⟨AB, hAB⟩ : ∃ b, b = askB (⟨#[126]⟩ : ByteArray).toList (ord3 (x : Int) y z X Y Z) x y z X Y Z false false false := ⟨_, rfl⟩
          have HASK : Hid (∀ W, Calls Tryz.prog 8 #[.string (⟨#[126]⟩ : ByteArray), .agg #[.int .u64 (x : Int), .int .u64 (y : Int), .int .u64 (z : Int), .string ⟨#[]⟩, .string ⟨#[]⟩], .agg #[.int .u64 (X : Int), .int .u64 (Y : Int), .int .u64 (Z : Int), .string ⟨#[]⟩, .string ⟨#[]⟩]] W fun e w' => e = .returned (.bool AB) ∧ Below W.heap.size W w') := Lib.hid fun W => by
            have := asked_walk (⟨#[126]⟩ : ByteArray).toList HNIN.out x y z X Y Z HNZ.out W
            rw [ba_tl, ← hAB] at this
            exact this
          have HAB := Lib.hid hAB
          clear hAB
          by_cases hi0 : 0 < i
          · have hi1 : decide ((0 : Int) < (i : Int)) = true := by simp; omega
            have hi2 : decide (0 < i) = true := by simp; omega
            have HACC : Hid (AccE x y z (i + 1) ((T ++ ⟨#[32, 124, 124, 32]⟩) ++ ((⟨#[126]⟩ : ByteArray) ++ s)) (B || AB)) := Lib.hid (by rw [HAB.out, ← HNX.out.1, ← HNX.out.2.1, ← HNX.out.2.2]; exact HA.out.step HNIN.out HNUM.out.1 HNUM.out.2.1 HNUM.out.2.2.1 HNUM.out.2.2.2 (.inr ⟨hi0, rfl⟩))
            clear HA
            go_upto_region 15 with fail
            have k0 : ∀ q : Near w10.heap.size w10, q.W.cell? (ad0.add i) = some (.string (⟨#[126]⟩ : ByteArray)) := fun q => HC0.out _ (HBn.out.trans (q.h.mono HBn.out.size))
            have k1 : ∀ q : Near w10.heap.size w10, q.W.cell? (ad1.add i) = some (.string s) := fun q => HC1.out _ (HBn.out.trans (q.h.mono HBn.out.size))
            skip
            refine wp_region_near w10.heap.size w10 (by kernel_rfl) (by kernel_rfl) (Below.refl _ _) ?_
            repeat (go_big_quiet_step (fail))
            refine wpQuiet_nil ?_
            intro wm hw'
            obtain ⟨q_, hx_⟩ := hw'
            have hb_ : Below w10.heap.size w10 wm := by rw [hx_]; exact q_.h
            have HBm := Lib.hid (HBn.out.trans (hb_.mono HBn.out.size))
            have HFm := Lib.hid (HFn.out.below hb_)
            have HGm := Lib.hid (HGn.out.below hb_)
            clear hx_ hb_ HBn HFn HGn k0 k1
            have k0 : ∀ q : Near wm.heap.size wm, q.W.cell? (ad0.add i) = some (.string (⟨#[126]⟩ : ByteArray)) := fun q => HC0.out _ (HBm.out.trans (q.h.mono HBm.out.size))
            have lt7 := blk_lt HFm.out
            have lt12 := blk_lt HGm.out
            have b7c0 : ∀ q : Near wm.heap.size wm, q.W.cell? ⟨b7, 0, none⟩ = some (.int .u64 (x : Int)) := fun q => q.cell lt7 HFm.out.cells.c0
            have b7c1 : ∀ q : Near wm.heap.size wm, q.W.cell? ⟨b7, 1, none⟩ = some (.int .u64 (y : Int)) := fun q => q.cell lt7 HFm.out.cells.c1
            have b7c2 : ∀ q : Near wm.heap.size wm, q.W.cell? ⟨b7, 2, none⟩ = some (.int .u64 (z : Int)) := fun q => q.cell lt7 HFm.out.cells.c2
            have b7c3 : ∀ q : Near wm.heap.size wm, q.W.cell? ⟨b7, 3, none⟩ = some (.string ⟨#[]⟩) := fun q => q.cell lt7 HFm.out.cells.c3
            have b7c4 : ∀ q : Near wm.heap.size wm, q.W.cell? ⟨b7, 4, none⟩ = some (.string ⟨#[]⟩) := fun q => q.cell lt7 HFm.out.cells.c4
            have b12c0 : ∀ q : Near wm.heap.size wm, q.W.cell? ⟨b12, 0, none⟩ = some (.int .u64 (X : Int)) := fun q => q.cell lt12 HGm.out.cells.c0
            have b12c1 : ∀ q : Near wm.heap.size wm, q.W.cell? ⟨b12, 1, none⟩ = some (.int .u64 (Y : Int)) := fun q => q.cell lt12 HGm.out.cells.c1
            have b12c2 : ∀ q : Near wm.heap.size wm, q.W.cell? ⟨b12, 2, none⟩ = some (.int .u64 (Z : Int)) := fun q => q.cell lt12 HGm.out.cells.c2
            have b12c3 : ∀ q : Near wm.heap.size wm, q.W.cell? ⟨b12, 3, none⟩ = some (.string ⟨#[]⟩) := fun q => q.cell lt12 HGm.out.cells.c3
            have b12c4 : ∀ q : Near wm.heap.size wm, q.W.cell? ⟨b12, 4, none⟩ = some (.string ⟨#[]⟩) := fun q => q.cell lt12 HGm.out.cells.c4
            have NA := Lib.hid (nearC wm HASK.out)
            clear lt7 lt12
            cases B with
            | true =>
              go_upto_region 16 with fail
              refine wp_region_near wm.heap.size wm (by kernel_rfl) (by kernel_rfl) (Below.refl _ _) ?_
              repeat (go_big_quiet_step (fail))
              refine wpQuiet_nil ?_
              intro wk hw'
              obtain ⟨q_, hx_⟩ := hw'
              have hb_ : Below wm.heap.size wm wk := by rw [hx_]; exact q_.h
              have HBk := Lib.hid (HBm.out.trans (hb_.mono HBm.out.size))
              have HFk := Lib.hid (HFm.out.below hb_)
              clear hx_ hb_ HBm HFm HGm k0 b7c0 b7c1 b7c2 b7c3 b7c4 b12c0 b12c1 b12c2 b12c3 b12c4
              go_wp2_with fail
              go_roundg m
              case measure => exact Nat.lt_succ_self m
              case rel => exact ⟨i + 1, _, _, _, _, rfl, rfl, by simp, rfl, rfl, by omega, HACC, HFk, HBk⟩
            | false =>
              go_upto_region 16 with fail
              refine wp_region_near wm.heap.size wm (by kernel_rfl) (by kernel_rfl) (Below.refl _ _) ?_
              repeat (go_big_quiet_step ((exact NA.out _)))
              refine wpQuiet_nil ?_
              intro wk hw'
              obtain ⟨q_, hx_⟩ := hw'
              have hb_ : Below wm.heap.size wm wk := by rw [hx_]; exact q_.h
              have HBk := Lib.hid (HBm.out.trans (hb_.mono HBm.out.size))
              have HFk := Lib.hid (HFm.out.below hb_)
              clear hx_ hb_ HBm HFm HGm k0 b7c0 b7c1 b7c2 b7c3 b7c4 b12c0 b12c1 b12c2 b12c3 b12c4
              go_wp2_with fail
              go_roundg m
              case measure => exact Nat.lt_succ_self m
              case rel => exact ⟨i + 1, _, _, _, _, rfl, rfl, by simp, rfl, rfl, by omega, HACC, HFk, HBk⟩
          · have hi1 : decide ((0 : Int) < (i : Int)) = false := by simp; omega
            have hi2 : decide (0 < i) = false := by simp; omega
            have HACC : Hid (AccE x y z (i + 1) ((T) ++ ((⟨#[126]⟩ : ByteArray) ++ s)) (B || AB)) := Lib.hid (by rw [HAB.out, ← HNX.out.1, ← HNX.out.2.1, ← HNX.out.2.2]; exact HA.out.step HNIN.out HNUM.out.1 HNUM.out.2.1 HNUM.out.2.2.1 HNUM.out.2.2.2 (.inl ⟨by omega, rfl⟩))
            clear HA
            go_upto_region 15 with fail
            have k0 : ∀ q : Near w10.heap.size w10, q.W.cell? (ad0.add i) = some (.string (⟨#[126]⟩ : ByteArray)) := fun q => HC0.out _ (HBn.out.trans (q.h.mono HBn.out.size))
            have k1 : ∀ q : Near w10.heap.size w10, q.W.cell? (ad1.add i) = some (.string s) := fun q => HC1.out _ (HBn.out.trans (q.h.mono HBn.out.size))
            skip
            refine wp_region_near w10.heap.size w10 (by kernel_rfl) (by kernel_rfl) (Below.refl _ _) ?_
            repeat (go_big_quiet_step (fail))
            refine wpQuiet_nil ?_
            intro wm hw'
            obtain ⟨q_, hx_⟩ := hw'
            have hb_ : Below w10.heap.size w10 wm := by rw [hx_]; exact q_.h
            have HBm := Lib.hid (HBn.out.trans (hb_.mono HBn.out.size))
            have HFm := Lib.hid (HFn.out.below hb_)
            have HGm := Lib.hid (HGn.out.below hb_)
            clear hx_ hb_ HBn HFn HGn k0 k1
            have k0 : ∀ q : Near wm.heap.size wm, q.W.cell? (ad0.add i) = some (.string (⟨#[126]⟩ : ByteArray)) := fun q => HC0.out _ (HBm.out.trans (q.h.mono HBm.out.size))
            have lt7 := blk_lt HFm.out
            have lt12 := blk_lt HGm.out
            have b7c0 : ∀ q : Near wm.heap.size wm, q.W.cell? ⟨b7, 0, none⟩ = some (.int .u64 (x : Int)) := fun q => q.cell lt7 HFm.out.cells.c0
            have b7c1 : ∀ q : Near wm.heap.size wm, q.W.cell? ⟨b7, 1, none⟩ = some (.int .u64 (y : Int)) := fun q => q.cell lt7 HFm.out.cells.c1
            have b7c2 : ∀ q : Near wm.heap.size wm, q.W.cell? ⟨b7, 2, none⟩ = some (.int .u64 (z : Int)) := fun q => q.cell lt7 HFm.out.cells.c2
            have b7c3 : ∀ q : Near wm.heap.size wm, q.W.cell? ⟨b7, 3, none⟩ = some (.string ⟨#[]⟩) := fun q => q.cell lt7 HFm.out.cells.c3
            have b7c4 : ∀ q : Near wm.heap.size wm, q.W.cell? ⟨b7, 4, none⟩ = some (.string ⟨#[]⟩) := fun q => q.cell lt7 HFm.out.cells.c4
            have b12c0 : ∀ q : Near wm.heap.size wm, q.W.cell? ⟨b12, 0, none⟩ = some (.int .u64 (X : Int)) := fun q => q.cell lt12 HGm.out.cells.c0
            have b12c1 : ∀ q : Near wm.heap.size wm, q.W.cell? ⟨b12, 1, none⟩ = some (.int .u64 (Y : Int)) := fun q => q.cell lt12 HGm.out.cells.c1
            have b12c2 : ∀ q : Near wm.heap.size wm, q.W.cell? ⟨b12, 2, none⟩ = some (.int .u64 (Z : Int)) := fun q => q.cell lt12 HGm.out.cells.c2
            have b12c3 : ∀ q : Near wm.heap.size wm, q.W.cell? ⟨b12, 3, none⟩ = some (.string ⟨#[]⟩) := fun q => q.cell lt12 HGm.out.cells.c3
            have b12c4 : ∀ q : Near wm.heap.size wm, q.W.cell? ⟨b12, 4, none⟩ = some (.string ⟨#[]⟩) := fun q => q.cell lt12 HGm.out.cells.c4
            have NA := Lib.hid (nearC wm HASK.out)
            clear lt7 lt12
            cases B with
            | true =>
              go_upto_region 16 with fail
              refine wp_region_near wm.heap.size wm (by kernel_rfl) (by kernel_rfl) (Below.refl _ _) ?_
              repeat (go_big_quiet_step (fail))
              refine wpQuiet_nil ?_
              intro wk hw'
              obtain ⟨q_, hx_⟩ := hw'
              have hb_ : Below wm.heap.size wm wk := by rw [hx_]; exact q_.h
              have HBk := Lib.hid (HBm.out.trans (hb_.mono HBm.out.size))
              have HFk := Lib.hid (HFm.out.below hb_)
              clear hx_ hb_ HBm HFm HGm k0 b7c0 b7c1 b7c2 b7c3 b7c4 b12c0 b12c1 b12c2 b12c3 b12c4
              go_wp2_with fail
              go_roundg m
              case measure => exact Nat.lt_succ_self m
              case rel => exact ⟨i + 1, _, _, _, _, rfl, rfl, by simp, rfl, rfl, by omega, HACC, HFk, HBk⟩
            | false =>
              go_upto_region 16 with fail
              refine wp_region_near wm.heap.size wm (by kernel_rfl) (by kernel_rfl) (Below.refl _ _) ?_
              repeat (go_big_quiet_step ((exact NA.out _)))
              refine wpQuiet_nil ?_
              intro wk hw'
              obtain ⟨q_, hx_⟩ := hw'
              have hb_ : Below wm.heap.size wm wk := by rw [hx_]; exact q_.h
              have HBk := Lib.hid (HBm.out.trans (hb_.mono HBm.out.size))
              have HFk := Lib.hid (HFm.out.below hb_)
              clear hx_ hb_ HBm HFm HGm k0 b7c0 b7c1 b7c2 b7c3 b7c4 b12c0 b12c1 b12c2 b12c3 b12c4
              go_wp2_with fail
              go_roundg m
              case measure => exact Nat.lt_succ_self m
              case rel => exact ⟨i + 1, _, _, _, _, rfl, rfl, by simp, rfl, rfl, by omega, HACC, HFk, HBk⟩
      · have ho1 : (o.toList == [126]) = false := by
          rw [Bool.eq_false_iff]; intro h; exact ho (ext_eq (by rw [Lib.toList_data (⟨#[126]⟩ : ByteArray)]; simpa using h))
        have ho2 : decide (o.toList = [126]) = false := by
          rw [decide_eq_false_iff_not]; intro h; exact ho (ext_eq (by rw [Lib.toList_data (⟨#[126]⟩ : ByteArray)]; exact h))
        have ho3 : decide (o = ⟨#[126]⟩) = false := by rw [decide_eq_false_iff_not]; exact ho
        have HNZ : Hid (o.toList = [126] → ¬ (X = 0 ∧ Y = 0 ∧ Z = 0)) := Lib.hid fun h => absurd (ext_eq (by rw [Lib.toList_data (⟨#[126]⟩ : ByteArray)]; exact h)) ho
        have HBn := HB9
        have HFn := HF9
        have HGn := HG9
        clear HB9 HF9 HG9 u0
        have u0 := HC0.out _ HBn.out
        have hTs : T.size ≤ 250 := by
          obtain ⟨_, _, _, _, _, _, _, _, _, h⟩ := HA.out
          omega
        have hs29 := vt_size HNUM.out.1 HNUM.out.2.1 HNUM.out.2.2.1 HNUM.out.2.2.2
        have ho2 : o.size ≤ 2 := op_size HNIN.out
        have cT : (9223372036854775807 < T.size + 4) = False := eq_false (by omega)
        have cO : (9223372036854775807 < o.size + s.size) = False := eq_false (by omega)
        have cA : (9223372036854775807 < T.size + 4 + (o.size + s.size)) = False := eq_false (by omega)
        have cB : (9223372036854775807 < T.size + (o.size + s.size)) = False := eq_false (by omega)
        have c1 : (9223372036854775807 < 1 + s.size) = False := eq_false (by omega)
        have c2 : (9223372036854775807 < T.size + 4 + (1 + s.size)) = False := eq_false (by omega)
        have c3 : (9223372036854775807 < T.size + (1 + s.size)) = False := eq_false (by omega)
        clear hTs hs29 ho2
        obtain ⟨AB, hAB⟩ : ∃ b, b = askB o.toList (ord3 (x : Int) y z X Y Z) x y z X Y Z false false false := ⟨_, rfl⟩
        have HASK : Hid (∀ W, Calls Tryz.prog 8 #[.string o, .agg #[.int .u64 (x : Int), .int .u64 (y : Int), .int .u64 (z : Int), .string ⟨#[]⟩, .string ⟨#[]⟩], .agg #[.int .u64 (X : Int), .int .u64 (Y : Int), .int .u64 (Z : Int), .string ⟨#[]⟩, .string ⟨#[]⟩]] W fun e w' => e = .returned (.bool AB) ∧ Below W.heap.size W w') := Lib.hid fun W => by
          have := asked_walk o.toList HNIN.out x y z X Y Z HNZ.out W
          rw [ba_tl, ← hAB] at this
          exact this
        have HAB := Lib.hid hAB
        clear hAB
        by_cases hi0 : 0 < i
        · have hi1 : decide ((0 : Int) < (i : Int)) = true := by simp; omega
          have hi2 : decide (0 < i) = true := by simp; omega
          have HACC : Hid (AccE x y z (i + 1) ((T ++ ⟨#[32, 124, 124, 32]⟩) ++ (o ++ s)) (B || AB)) := Lib.hid (by rw [HAB.out, ← HNX.out.1, ← HNX.out.2.1, ← HNX.out.2.2]; exact HA.out.step HNIN.out HNUM.out.1 HNUM.out.2.1 HNUM.out.2.2.1 HNUM.out.2.2.2 (.inr ⟨hi0, rfl⟩))
          clear HA
          go_upto_region 15 with fail
          have k0 : ∀ q : Near w9.heap.size w9, q.W.cell? (ad0.add i) = some (.string o) := fun q => HC0.out _ (HBn.out.trans (q.h.mono HBn.out.size))
          have k1 : ∀ q : Near w9.heap.size w9, q.W.cell? (ad1.add i) = some (.string s) := fun q => HC1.out _ (HBn.out.trans (q.h.mono HBn.out.size))
          clear u0
          refine wp_region_near w9.heap.size w9 (by kernel_rfl) (by kernel_rfl) (Below.refl _ _) ?_
          repeat (go_big_quiet_step (fail))
          refine wpQuiet_nil ?_
          intro wm hw'
          obtain ⟨q_, hx_⟩ := hw'
          have hb_ : Below w9.heap.size w9 wm := by rw [hx_]; exact q_.h
          have HBm := Lib.hid (HBn.out.trans (hb_.mono HBn.out.size))
          have HFm := Lib.hid (HFn.out.below hb_)
          have HGm := Lib.hid (HGn.out.below hb_)
          clear hx_ hb_ HBn HFn HGn k0 k1
          have k0 : ∀ q : Near wm.heap.size wm, q.W.cell? (ad0.add i) = some (.string o) := fun q => HC0.out _ (HBm.out.trans (q.h.mono HBm.out.size))
          have lt7 := blk_lt HFm.out
          have lt12 := blk_lt HGm.out
          have b7c0 : ∀ q : Near wm.heap.size wm, q.W.cell? ⟨b7, 0, none⟩ = some (.int .u64 (x : Int)) := fun q => q.cell lt7 HFm.out.cells.c0
          have b7c1 : ∀ q : Near wm.heap.size wm, q.W.cell? ⟨b7, 1, none⟩ = some (.int .u64 (y : Int)) := fun q => q.cell lt7 HFm.out.cells.c1
          have b7c2 : ∀ q : Near wm.heap.size wm, q.W.cell? ⟨b7, 2, none⟩ = some (.int .u64 (z : Int)) := fun q => q.cell lt7 HFm.out.cells.c2
          have b7c3 : ∀ q : Near wm.heap.size wm, q.W.cell? ⟨b7, 3, none⟩ = some (.string ⟨#[]⟩) := fun q => q.cell lt7 HFm.out.cells.c3
          have b7c4 : ∀ q : Near wm.heap.size wm, q.W.cell? ⟨b7, 4, none⟩ = some (.string ⟨#[]⟩) := fun q => q.cell lt7 HFm.out.cells.c4
          have b12c0 : ∀ q : Near wm.heap.size wm, q.W.cell? ⟨b12, 0, none⟩ = some (.int .u64 (X : Int)) := fun q => q.cell lt12 HGm.out.cells.c0
          have b12c1 : ∀ q : Near wm.heap.size wm, q.W.cell? ⟨b12, 1, none⟩ = some (.int .u64 (Y : Int)) := fun q => q.cell lt12 HGm.out.cells.c1
          have b12c2 : ∀ q : Near wm.heap.size wm, q.W.cell? ⟨b12, 2, none⟩ = some (.int .u64 (Z : Int)) := fun q => q.cell lt12 HGm.out.cells.c2
          have b12c3 : ∀ q : Near wm.heap.size wm, q.W.cell? ⟨b12, 3, none⟩ = some (.string ⟨#[]⟩) := fun q => q.cell lt12 HGm.out.cells.c3
          have b12c4 : ∀ q : Near wm.heap.size wm, q.W.cell? ⟨b12, 4, none⟩ = some (.string ⟨#[]⟩) := fun q => q.cell lt12 HGm.out.cells.c4
          have NA := Lib.hid (nearC wm HASK.out)
          clear lt7 lt12
          cases B with
          | true =>
            go_upto_region 16 with fail
            refine wp_region_near wm.heap.size wm (by kernel_rfl) (by kernel_rfl) (Below.refl _ _) ?_
            repeat (go_big_quiet_step (fail))
            refine wpQuiet_nil ?_
            intro wk hw'
            obtain ⟨q_, hx_⟩ := hw'
            have hb_ : Below wm.heap.size wm wk := by rw [hx_]; exact q_.h
            have HBk := Lib.hid (HBm.out.trans (hb_.mono HBm.out.size))
            have HFk := Lib.hid (HFm.out.below hb_)
            clear hx_ hb_ HBm HFm HGm k0 b7c0 b7c1 b7c2 b7c3 b7c4 b12c0 b12c1 b12c2 b12c3 b12c4
            go_wp2_with fail
            go_roundg m
            case measure => exact Nat.lt_succ_self m
            case rel => exact ⟨i + 1, _, _, _, _, rfl, rfl, by simp, rfl, rfl, by omega, HACC, HFk, HBk⟩
          | false =>
            go_upto_region 16 with fail
            refine wp_region_near wm.heap.size wm (by kernel_rfl) (by kernel_rfl) (Below.refl _ _) ?_
            repeat (go_big_quiet_step ((exact NA.out _)))
            refine wpQuiet_nil ?_
            intro wk hw'
            obtain ⟨q_, hx_⟩ := hw'
            have hb_ : Below wm.heap.size wm wk := by rw [hx_]; exact q_.h
            have HBk := Lib.hid (HBm.out.trans (hb_.mono HBm.out.size))
            have HFk := Lib.hid (HFm.out.below hb_)
            clear hx_ hb_ HBm HFm HGm k0 b7c0 b7c1 b7c2 b7c3 b7c4 b12c0 b12c1 b12c2 b12c3 b12c4
            go_wp2_with fail
            go_roundg m
            case measure => exact Nat.lt_succ_self m
            case rel => exact ⟨i + 1, _, _, _, _, rfl, rfl, by simp, rfl, rfl, by omega, HACC, HFk, HBk⟩
        · have hi1 : decide ((0 : Int) < (i : Int)) = false := by simp; omega
          have hi2 : decide (0 < i) = false := by simp; omega
          have HACC : Hid (AccE x y z (i + 1) ((T) ++ (o ++ s)) (B || AB)) := Lib.hid (by rw [HAB.out, ← HNX.out.1, ← HNX.out.2.1, ← HNX.out.2.2]; exact HA.out.step HNIN.out HNUM.out.1 HNUM.out.2.1 HNUM.out.2.2.1 HNUM.out.2.2.2 (.inl ⟨by omega, rfl⟩))
          clear HA
          go_upto_region 15 with fail
          have k0 : ∀ q : Near w9.heap.size w9, q.W.cell? (ad0.add i) = some (.string o) := fun q => HC0.out _ (HBn.out.trans (q.h.mono HBn.out.size))
          have k1 : ∀ q : Near w9.heap.size w9, q.W.cell? (ad1.add i) = some (.string s) := fun q => HC1.out _ (HBn.out.trans (q.h.mono HBn.out.size))
          clear u0
          refine wp_region_near w9.heap.size w9 (by kernel_rfl) (by kernel_rfl) (Below.refl _ _) ?_
          repeat (go_big_quiet_step (fail))
          refine wpQuiet_nil ?_
          intro wm hw'
          obtain ⟨q_, hx_⟩ := hw'
          have hb_ : Below w9.heap.size w9 wm := by rw [hx_]; exact q_.h
          have HBm := Lib.hid (HBn.out.trans (hb_.mono HBn.out.size))
          have HFm := Lib.hid (HFn.out.below hb_)
          have HGm := Lib.hid (HGn.out.below hb_)
          clear hx_ hb_ HBn HFn HGn k0 k1
          have k0 : ∀ q : Near wm.heap.size wm, q.W.cell? (ad0.add i) = some (.string o) := fun q => HC0.out _ (HBm.out.trans (q.h.mono HBm.out.size))
          have lt7 := blk_lt HFm.out
          have lt12 := blk_lt HGm.out
          have b7c0 : ∀ q : Near wm.heap.size wm, q.W.cell? ⟨b7, 0, none⟩ = some (.int .u64 (x : Int)) := fun q => q.cell lt7 HFm.out.cells.c0
          have b7c1 : ∀ q : Near wm.heap.size wm, q.W.cell? ⟨b7, 1, none⟩ = some (.int .u64 (y : Int)) := fun q => q.cell lt7 HFm.out.cells.c1
          have b7c2 : ∀ q : Near wm.heap.size wm, q.W.cell? ⟨b7, 2, none⟩ = some (.int .u64 (z : Int)) := fun q => q.cell lt7 HFm.out.cells.c2
          have b7c3 : ∀ q : Near wm.heap.size wm, q.W.cell? ⟨b7, 3, none⟩ = some (.string ⟨#[]⟩) := fun q => q.cell lt7 HFm.out.cells.c3
          have b7c4 : ∀ q : Near wm.heap.size wm, q.W.cell? ⟨b7, 4, none⟩ = some (.string ⟨#[]⟩) := fun q => q.cell lt7 HFm.out.cells.c4
          have b12c0 : ∀ q : Near wm.heap.size wm, q.W.cell? ⟨b12, 0, none⟩ = some (.int .u64 (X : Int)) := fun q => q.cell lt12 HGm.out.cells.c0
          have b12c1 : ∀ q : Near wm.heap.size wm, q.W.cell? ⟨b12, 1, none⟩ = some (.int .u64 (Y : Int)) := fun q => q.cell lt12 HGm.out.cells.c1
          have b12c2 : ∀ q : Near wm.heap.size wm, q.W.cell? ⟨b12, 2, none⟩ = some (.int .u64 (Z : Int)) := fun q => q.cell lt12 HGm.out.cells.c2
          have b12c3 : ∀ q : Near wm.heap.size wm, q.W.cell? ⟨b12, 3, none⟩ = some (.string ⟨#[]⟩) := fun q => q.cell lt12 HGm.out.cells.c3
          have b12c4 : ∀ q : Near wm.heap.size wm, q.W.cell? ⟨b12, 4, none⟩ = some (.string ⟨#[]⟩) := fun q => q.cell lt12 HGm.out.cells.c4
          have NA := Lib.hid (nearC wm HASK.out)
          clear lt7 lt12
          cases B with
          | true =>
            go_upto_region 16 with fail
            refine wp_region_near wm.heap.size wm (by kernel_rfl) (by kernel_rfl) (Below.refl _ _) ?_
            repeat (go_big_quiet_step (fail))
            refine wpQuiet_nil ?_
            intro wk hw'
            obtain ⟨q_, hx_⟩ := hw'
            have hb_ : Below wm.heap.size wm wk := by rw [hx_]; exact q_.h
            have HBk := Lib.hid (HBm.out.trans (hb_.mono HBm.out.size))
            have HFk := Lib.hid (HFm.out.below hb_)
            clear hx_ hb_ HBm HFm HGm k0 b7c0 b7c1 b7c2 b7c3 b7c4 b12c0 b12c1 b12c2 b12c3 b12c4
            go_wp2_with fail
            go_roundg m
            case measure => exact Nat.lt_succ_self m
            case rel => exact ⟨i + 1, _, _, _, _, rfl, rfl, by simp, rfl, rfl, by omega, HACC, HFk, HBk⟩
          | false =>
            go_upto_region 16 with fail
            refine wp_region_near wm.heap.size wm (by kernel_rfl) (by kernel_rfl) (Below.refl _ _) ?_
            repeat (go_big_quiet_step ((exact NA.out _)))
            refine wpQuiet_nil ?_
            intro wk hw'
            obtain ⟨q_, hx_⟩ := hw'
            have hb_ : Below wm.heap.size wm wk := by rw [hx_]; exact q_.h
            have HBk := Lib.hid (HBm.out.trans (hb_.mono HBm.out.size))
            have HFk := Lib.hid (HFm.out.below hb_)
            clear hx_ hb_ HBm HFm HGm k0 b7c0 b7c1 b7c2 b7c3 b7c4 b12c0 b12c1 b12c2 b12c3 b12c4
            go_wp2_with fail
            go_roundg m
            case measure => exact Nat.lt_succ_self m
            case rel => exact ⟨i + 1, _, _, _, _, rfl, rfl, by simp, rfl, rfl, by omega, HACC, HFk, HBk⟩
end Go.Proofs.YtoebognfkigooaaGreatDoor.PFnSemverEither
