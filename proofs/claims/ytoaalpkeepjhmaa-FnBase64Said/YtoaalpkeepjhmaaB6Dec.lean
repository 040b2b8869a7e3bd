/- base64: Decode over the text of bytes. -/
import Derived.Test.YtoaalpkeepjhmaaB6DecP
namespace Go.Proofs.Ytoaalpkeepjhmaa.B6
open Go.RowKit Go.Proofs.YtoaalpkeepjhmaaW.PrintWords Go.Proofs.Ytoaalpkeepjhmaa.Txt Go.Proofs.Ytoaalpkeepjhmaa.PFnBase64
set_option linter.unusedVariables false
set_option linter.unusedSimpArgs false
set_option maxRecDepth 100000
set_option maxHeartbeats 8000000 in
theorem decode_walk (eb sb db g : Nat) (L : List Nat) (hL : L.length ≤ 1000) (hb : ∀ x ∈ L, x < 256) (hg : g = (L.length + 2) / 3) (cp : Nat) (hcp : g * 4 ≤ cp) (w : World) (hE : EncOf w eb (mAt 64)) (hD : RowU w db (List.replicate (g * 3) 0)) (he : eb < db) (hsw : sb < w.heap.size) (hsd : sb ≠ db) (hS : Src w sb (enc64 L)) :
    Calls Try.prog 34 #[.pointer (some ⟨eb, 0, none⟩), .slice (some ⟨db, 0, none⟩) (g * 3) (g * 3), .slice (some ⟨sb, 0, none⟩) (g * 4) cp] w fun e w' => e = .returned (.tuple #[.int .i64 (L.length : Int), .nilIface]) ∧ (∃ Z, RowU w' db (L ++ Z) ∧ L.length + Z.length = g * 3) ∧ Below db w w' := by
  by_cases h0 : g = 0
  · have hL0 : L = [] := List.eq_nil_of_length_eq_zero (by omega)
    subst h0 hL0
    have HDD := Lib.hid hD
    clear hg hE hD hS hb hL hcp
    go_enter Try.func34, Try.ntmps34
    go_wp2_with fail
    go_ret2
    exact ⟨rfl, ⟨[], HDD.out, rfl⟩, Below.refl _ _⟩
  obtain ⟨S, hSS⟩ : ∃ S, S = g * 4 := ⟨_, rfl⟩
  obtain ⟨D, hDD⟩ : ∃ D, D = g * 3 := ⟨_, rfl⟩
  have h0' : ((S : Int) == 0) = false := by simp <;> omega
  have HN : Hid (g = (L.length + 2) / 3 ∧ L.length ≤ 1000 ∧ 0 < g ∧ g ≤ 400 ∧ S = g * 4 ∧ D = g * 3 ∧ S ≤ cp) := Lib.hid ⟨hg, hL, by omega, by omega, hSS, hDD, by omega⟩
  rw [← hSS, ← hDD]
  have HBY := Lib.hid hb
  have HLT := Lib.hid (And.intro he hsd)
  have HE := Lib.hid hE
  have HD := Lib.hid (show RowU w db (L.take (3 * 0) ++ List.replicate (g * 3 - 3 * 0) 0) from hD)
  have HS := Lib.hid hS
  have HSW := Lib.hid hsw
  have HM0 := Lib.hid hE.map
  clear hE hD hS he hsw hsd hg hb hcp hL h0 hSS hDD
  go_enter Try.func34, Try.ntmps34
  go_wp2_with (refine wpList_load_mid rfl 54 (.tmp 23) rfl eb 64 rfl (mapC (mAt 64)) _ HM0.out Try.underlying54 rfl (by rw [mapC_len]; kernel_rfl) ?_)
  clear HM0
  go_simp
  go_loopg [6, 7, 8, 9, 10, 11, 12] ((g - 1) / 2) (fun kq v6 v7 v8 v9 v10 v11 v12 wr => ∃ (i m n si : Nat) (x9 x10 x11 x12 : Value), v6 = .int .i64 (n : Int) ∧ v7 = .nilIface ∧ v8 = .int .i64 (si : Int) ∧ v9 = x9 ∧ v10 = x10 ∧ v11 = x11 ∧ v12 = x12 ∧ Hid (n = 3 * i ∧ si = 4 * i ∧ i = 2 * m ∧ m + kq = (g - 1) / 2) ∧ Hid (RowU wr db (L.take (3 * i) ++ List.replicate (g * 3 - 3 * i) 0)) ∧ Hid (Src wr sb (enc64 L)) ∧ Hid (sb < wr.heap.size) ∧ Hid (Below db w wr))
  case atStart => exact ⟨0, 0, 0, 0, _, _, _, _, rfl, rfl, rfl, rfl, rfl, rfl, rfl, Lib.hid ⟨rfl, rfl, rfl, by omega⟩, HD, HS, HSW, Lib.hid (Below.refl _ _)⟩
  case round =>
    obtain ⟨i, m, n, si, x9, x10, x11, x12, rfl, rfl, rfl, rfl, rfl, rfl, rfl, HI, HR, HO, HW, HB⟩ := hrel
    cases gk with
    | zero =>
      have hgi : (g - i = 1 ∧ i + 1 = g) ∨ (g - i = 2 ∧ i + 2 = g) := by have := HN.out; have := HI.out; omega
      obtain ⟨e_n, e_si, e_i, e_m⟩ := HI.out
      obtain ⟨e_g, e_l, e_g0, e_g4, e_S, e_D, e_cp⟩ := HN.out
      have bS : S ≤ 1600 := by omega
      have bD : D ≤ 1200 := by omega
      have bsi : si ≤ 1600 := by omega
      have bn : n ≤ 1200 := by omega
      have HGI : Hid (i + 1 = g ∨ i + 2 = g) := Lib.hid (by omega)
      have y0 : ((8 : Int) ≤ (D : Int) - (n : Int)) = False := eq_false (by omega)
      have y0' : decide ((8 : Int) ≤ (D : Int) - (n : Int)) = false := decide_eq_false (by omega)
      have y1 : (decide ((8 : Int) ≤ (S : Int) - (si : Int)) = true ∧ ((8 : Int) ≤ (S : Int) - (si : Int)) = True) ∨ (decide ((8 : Int) ≤ (S : Int) - (si : Int)) = false ∧ ((8 : Int) ≤ (S : Int) - (si : Int)) = False) := by
        rcases hgi with ⟨h, h'⟩ | ⟨h, h'⟩
        · exact .inr ⟨decide_eq_false (by omega), eq_false (by omega)⟩
        · exact .inl ⟨decide_eq_true (by omega), eq_true (by omega)⟩
      have HI0 : Hid (n = 3 * i ∧ si = 4 * i) := Lib.hid ⟨e_n, e_si⟩
      clear hgi e_n e_si e_i e_m e_g e_l e_g0 e_g4 e_S e_D e_cp HI
      rcases y1 with ⟨y1, y1'⟩ | ⟨y1, y1'⟩
      all_goals
       go_wp2_with fail
       go_loopg [6, 7, 8, 13, 14, 15, 16] (g - 1 - i) (fun kq v6 v7 v8 v9 v10 v11 v12 wr => ∃ (i n si : Nat) (x9 x10 x11 x12 : Value), v6 = .int .i64 (n : Int) ∧ v7 = .nilIface ∧ v8 = .int .i64 (si : Int) ∧ v9 = x9 ∧ v10 = x10 ∧ v11 = x11 ∧ v12 = x12 ∧ Hid (n = 3 * i ∧ si = 4 * i ∧ i + kq = g - 1) ∧ Hid (RowU wr db (L.take (3 * i) ++ List.replicate (g * 3 - 3 * i) 0)) ∧ Hid (Src wr sb (enc64 L)) ∧ Hid (sb < wr.heap.size) ∧ Hid (Below db w wr))
       case atStart => exact ⟨i, n, si, _, _, _, _, rfl, rfl, rfl, rfl, rfl, rfl, rfl, Lib.hid (by have := HI0.out; have := HGI.out; omega), HR, HO, HW, HB⟩
       case round =>
        clear y0 y0' y1 y1' bS bD bsi bn HI0 HGI HR HO HW HB
        obtain ⟨i, n, si, x9, x10, x11, x12, rfl, rfl, rfl, rfl, rfl, rfl, rfl, HI, HR, HO, HW, HB⟩ := hrel
        cases gk with
        | zero =>
          have QL := Lib.hid (quantum_last eb sb db g i n si D S cp L HN.out.2.1 HBY.out HN.out.1 (by have := HN.out; have := HI.out; omega) HI.out.1 HI.out.2.1 HN.out.2.2.2.2.2.1 HN.out.2.2.2.2.1 HN.out.2.2.2.2.2.2 _ (HE.out.below HB.out HLT.out.1) HR.out HLT.out.1 HW.out HO.out)
          obtain ⟨e_n, e_si, e_m⟩ := HI.out
          obtain ⟨e_g, e_l, e_g0, e_g4, e_S, e_D, e_cp⟩ := HN.out
          have bS : S ≤ 1600 := by omega
          have bD : D ≤ 1200 := by omega
          have bsi : si ≤ 1600 := by omega
          have bn : n ≤ 1200 := by omega
          have y0 : ((4 : Int) ≤ (D : Int) - (n : Int)) = False := eq_false (by omega)
          have y0' : decide ((4 : Int) ≤ (D : Int) - (n : Int)) = false := decide_eq_false (by omega)
          have y1 : (4 : Int) ≤ (S : Int) - (si : Int) := by omega
          have y2 : (si : Int) < (S : Int) := by omega
          have y3 : ((si : Int) + 4 < (S : Int)) = False := eq_false (by omega)
          have y4 : n < D := by omega
          clear e_n e_si e_m e_g e_l e_g0 e_g4 e_S e_D e_cp
          go_wp2_with fail
          refine wp_loop_rounds 2 ?_
          rw [rounds_succ]
          go_wp2_with fail
          refine QL.out.mono ?_
          rintro e w3 ⟨k, rfl, hk, hz, hbl⟩
          have HK := Lib.hid hk
          have HZ := Lib.hid hz
          have HB3 := Lib.hid (HB.out.trans hbl)
          have bk : k ≤ 1000 := by have := HN.out; omega
          clear hk hz hbl QL
          go_wp2_with fail
          rw [rounds_succ]
          go_wp2_with fail
          go_ret2
          exact ⟨by have := HK.out; simp <;> omega, by rw [HN.out.2.2.2.2.2.1]; exact HZ.out, HB3.out⟩
        | succ m' =>
          have hi3 : i + 2 ≤ g := by have := HN.out; have := HI.out; omega
          obtain ⟨b0, b1, b2, d0, d1, d2, d3, HLa⟩ := letters_at L HBY.out i (by have := HN.out; omega)
          obtain ⟨e_n, e_si, e_m⟩ := HI.out
          obtain ⟨e_g, e_l, e_g0, e_g4, e_S, e_D, e_cp⟩ := HN.out
          have bS : S ≤ 1600 := by omega
          have bD : D ≤ 1200 := by omega
          have bsi : si ≤ 1600 := by omega
          have bn : n ≤ 1200 := by omega
          have y1 : (4 : Int) ≤ (S : Int) - (si : Int) := by omega
          have y2 : (4 : Int) ≤ (D : Int) - (n : Int) := by omega
          have y3 : si + 4 ≤ cp := by omega
          have y4 : (si : Int) + 4 ≤ (cp : Int) := by omega
          have y5 : si < cp := by omega
          have y6 : n < D := by omega
          have y7 : ((si : Int) + 4) - (si : Int) = 4 := by omega
          have hW := HW.out
          have esw : eb < wr.heap.size := Nat.lt_trans HLT.out.1 HR.out.lt
          have HEr := HE.out.below HB.out HLT.out.1
          have sc : ∀ (j k : Nat), (enc64 L)[4 * i + j]? = some k → ∀ q : Vals.Near wr.heap.size wr, q.W.cell? ⟨sb, si + j, none⟩ = some (.int .u8 (k : Int)) := fun j k h q => q.cell hW (by rw [e_si]; exact HO.out _ _ h)
          have s0 : ∀ q : Vals.Near wr.heap.size wr, q.W.cell? ⟨sb, si, none⟩ = some (.int .u8 (sgn d0 : Int)) := sc 0 _ HLa.c0
          have s1 := sc 1 _ HLa.c1
          have s2 := sc 2 _ HLa.c2
          have s3 := sc 3 _ HLa.c3
          have mc : ∀ (d : Nat), d < 64 → ∀ q : Vals.Near wr.heap.size wr, q.W.cell? ⟨eb, 64 + sgn d, none⟩ = some (.int .u8 (d : Int)) := fun d h q => q.cell esw (by rw [HEr.cell]; exact cellsOf_map _ _ _ (map_sgn d h))
          have mz : ∀ (d : Nat), d < 64 → (sgn d : Int) < 256 := fun d h => by have := sgn_lt d h; omega
          have m0 := mc d0 HLa.h0
          have m1 := mc d1 HLa.h1
          have m2 := mc d2 HLa.h2
          have m3 := mc d3 HLa.h3
          have z0 := mz d0 HLa.h0
          have z1 := mz d1 HLa.h1
          have z2 := mz d2 HLa.h2
          have z3 := mz d3 HLa.h3
          obtain ⟨v, hv⟩ : ∃ v, v = num4 d0 d1 d2 d3 * 256 := ⟨_, rfl⟩
          have NA := Lib.hid (nearD wr (fun W => base64_assemble32.calls (d0 : Int) d1 d2 d3 (v : Int) true W (by rw [hv]; exact asm32 d0 d1 d2 d3 HLa.h0 HLa.h1 HLa.h2 HLa.h3)))
          have HV := Lib.hid (bytes32 b0 b1 b2 v HLa.hb0 HLa.hb1 HLa.hb2 (by rw [hv, show num4 d0 d1 d2 d3 = _ from HLa.val]))
          have HLA := Lib.hid HLa
          have HEE := Lib.hid (And.intro hi3 esw)
          clear sc mc mz hv HLa hW HEr esw e_n e_si e_m e_g e_l e_g0 e_g4 e_S e_D e_cp hi3
          go_upto_region 19 with fail
          refine Vals.wp_region_near wr.heap.size wr (by kernel_rfl) (by kernel_rfl) (Below.refl _ _) ?_
          repeat (go_big_quiet_step ((exact NA.out _)))
          refine wpQuiet_nil ?_
          intro w1 hw'
          obtain ⟨q_, hx_⟩ := hw'
          have hb_ : Below wr.heap.size wr w1 := by rw [hx_]; exact q_.h
          have hlt_ := HR.out.lt
          have HB1 : Hid (Below db w w1) := Lib.hid (HB.out.trans (hb_.mono (Nat.le_of_lt hlt_)))
          have HO1 : Hid (Src w1 sb (enc64 L)) := Lib.hid (HO.out.heap (hb_.block _ HW.out))
          have HW1 : Hid (sb < w1.heap.size) := Lib.hid (Nat.lt_of_lt_of_le HW.out hb_.size)
          have hr1 := HR.out.below hb_ hlt_
          have hP1 : (L.take (3 * i)).length = n := by rw [List.length_take]; have := HN.out; have := HI.out; have := HEE.out; omega
          rw [rep_4 HEE.out.1] at hr1
          have HPT := Lib.hid (put32_walk db n (D - n) (D - n) v (L.take (3 * i)) (List.replicate (g * 3 - 3 * i - 4) 0) 0 0 0 0 HV.out.1 hP1 (by omega) (by omega) (Nat.le_refl _) w1 hr1)
          clear hx_ hb_ hlt_ hr1 hP1 s0 s1 s2 s3 m0 m1 m2 m3 z0 z1 z2 z3 HR HB HO HW NA y7
          go_wp2_with fail
          refine HPT.out.mono ?_
          rintro e w2 ⟨rfl, hr2, ho2, hb2⟩
          have HR2 : Hid (RowU w2 db (L.take (3 * (i + 1)) ++ List.replicate (g * 3 - 3 * (i + 1)) 0)) := Lib.hid (by
            obtain ⟨_, f0, f1, f2, f3⟩ := HV.out
            rw [f0, f1, f2, f3, rep_1 (show g * 3 - 3 * i - 4 + 1 = g * 3 - 3 * (i + 1) by have := HEE.out.1; omega)] at hr2
            rw [show 3 * (i + 1) = 3 * i + 3 by omega, HLA.out.tk, show 3 * i + 3 = 3 * (i + 1) by omega]
            simpa using hr2)
          have HO2 : Hid (Src w2 sb (enc64 L)) := Lib.hid (HO1.out.heap (ho2 sb HLT.out.2))
          have HW2 : Hid (sb < w2.heap.size) := Lib.hid (Nat.lt_of_lt_of_le HW1.out hb2.size)
          have HB2 : Hid (Below db w w2) := Lib.hid (HB1.out.trans hb2)
          clear hr2 ho2 hb2 HPT HB1 HO1 HW1
          go_wp2_with fail
          all_goals
           go_roundg m'
           case measure => exact Nat.lt_succ_self m'
           case rel =>
            exact ⟨i + 1, n + 3, si + 4, _, _, _, _, rfl, rfl, rfl, rfl, rfl, rfl, rfl, Lib.hid (by have := HI.out; have := HN.out; omega), HR2, HO2, HW2, HB2⟩
    | succ m' =>
      have hi3 : i + 3 ≤ g := by have := HN.out; have := HI.out; omega
      obtain ⟨b0, b1, b2, d0, d1, d2, d3, HLa⟩ := letters_at L HBY.out i (by have := HN.out; omega)
      obtain ⟨b3, b4, b5, d4, d5, d6, d7, HLb⟩ := letters_at L HBY.out (i + 1) (by have := HN.out; omega)
      obtain ⟨e_n, e_si, e_i, e_m⟩ := HI.out
      obtain ⟨e_g, e_l, e_g0, e_g4, e_S, e_D, e_cp⟩ := HN.out
      have bS : S ≤ 1600 := by omega
      have bD : D ≤ 1200 := by omega
      have bsi : si ≤ 1600 := by omega
      have bn : n ≤ 1200 := by omega
      have y1 : (8 : Int) ≤ (S : Int) - (si : Int) := by omega
      have y2 : (8 : Int) ≤ (D : Int) - (n : Int) := by omega
      have y3 : si + 8 ≤ cp := by omega
      have y4 : (si : Int) + 8 ≤ (cp : Int) := by omega
      have y5 : si < cp := by omega
      have y6 : n < D := by omega
      have y7 : ((si : Int) + 8) - (si : Int) = 8 := by omega
      have hW := HW.out
      have esw : eb < wr.heap.size := Nat.lt_trans HLT.out.1 HR.out.lt
      have HEr := HE.out.below HB.out HLT.out.1
      have sc : ∀ (j k : Nat), (enc64 L)[4 * i + j]? = some k → ∀ q : Vals.Near wr.heap.size wr, q.W.cell? ⟨sb, si + j, none⟩ = some (.int .u8 (k : Int)) := fun j k h q => q.cell hW (by rw [e_si]; exact HO.out _ _ h)
      have s0 : ∀ q : Vals.Near wr.heap.size wr, q.W.cell? ⟨sb, si, none⟩ = some (.int .u8 (sgn d0 : Int)) := sc 0 _ HLa.c0
      have s1 := sc 1 _ HLa.c1
      have s2 := sc 2 _ HLa.c2
      have s3 := sc 3 _ HLa.c3
      have s4 := sc 4 _ HLb.c0
      have s5 := sc 5 _ HLb.c1
      have s6 := sc 6 _ HLb.c2
      have s7 := sc 7 _ HLb.c3
      have mc : ∀ (d : Nat), d < 64 → ∀ q : Vals.Near wr.heap.size wr, q.W.cell? ⟨eb, 64 + sgn d, none⟩ = some (.int .u8 (d : Int)) := fun d h q => q.cell esw (by rw [HEr.cell]; exact cellsOf_map _ _ _ (map_sgn d h))
      have mz : ∀ (d : Nat), d < 64 → (sgn d : Int) < 256 := fun d h => by have := sgn_lt d h; omega
      have m0 := mc d0 HLa.h0
      have m1 := mc d1 HLa.h1
      have m2 := mc d2 HLa.h2
      have m3 := mc d3 HLa.h3
      have m4 := mc d4 HLb.h0
      have m5 := mc d5 HLb.h1
      have m6 := mc d6 HLb.h2
      have m7 := mc d7 HLb.h3
      have z0 := mz d0 HLa.h0
      have z1 := mz d1 HLa.h1
      have z2 := mz d2 HLa.h2
      have z3 := mz d3 HLa.h3
      have z4 := mz d4 HLb.h0
      have z5 := mz d5 HLb.h1
      have z6 := mz d6 HLb.h2
      have z7 := mz d7 HLb.h3
      obtain ⟨v, hv⟩ : ∃ v, v = num8 d0 d1 d2 d3 d4 d5 d6 d7 * 65536 := ⟨_, rfl⟩
      have NA := Lib.hid (nearD wr (fun W => base64_assemble64.calls (d0 : Int) d1 d2 d3 d4 d5 d6 d7 (v : Int) true W (by rw [hv]; exact asm64 d0 d1 d2 d3 d4 d5 d6 d7 HLa.h0 HLa.h1 HLa.h2 HLa.h3 HLb.h0 HLb.h1 HLb.h2 HLb.h3)))
      have HV := Lib.hid (bytes64 b0 b1 b2 b3 b4 b5 v HLa.hb0 HLa.hb1 HLa.hb2 HLb.hb0 HLb.hb1 HLb.hb2 (by rw [hv, num8_of d0 d1 d2 d3 d4 d5 d6 d7 _ _ HLa.val HLb.val]))
      have HLA := Lib.hid HLa
      have HLB := Lib.hid HLb
      have HEE := Lib.hid (And.intro hi3 esw)
      clear sc mc mz hv HLa HLb hW HEr esw e_n e_si e_i e_m e_g e_l e_g0 e_g4 e_S e_D e_cp hi3
      go_upto_region 7 with fail
      refine Vals.wp_region_near wr.heap.size wr (by kernel_rfl) (by kernel_rfl) (Below.refl _ _) ?_
      repeat (go_big_quiet_step ((exact NA.out _)))
      refine wpQuiet_nil ?_
      intro w1 hw'
      obtain ⟨q_, hx_⟩ := hw'
      have hb_ : Below wr.heap.size wr w1 := by rw [hx_]; exact q_.h
      have hlt_ := HR.out.lt
      have HB1 : Hid (Below db w w1) := Lib.hid (HB.out.trans (hb_.mono (Nat.le_of_lt hlt_)))
      have HO1 : Hid (Src w1 sb (enc64 L)) := Lib.hid (HO.out.heap (hb_.block _ HW.out))
      have HW1 : Hid (sb < w1.heap.size) := Lib.hid (Nat.lt_of_lt_of_le HW.out hb_.size)
      have hr1 := HR.out.below hb_ hlt_
      have hP1 : (L.take (3 * i)).length = n := by rw [List.length_take]; have := HN.out; have := HI.out; have := HEE.out; omega
      rw [rep_8 HEE.out.1] at hr1
      have HPT := Lib.hid (put64_walk db n (D - n) (D - n) v (L.take (3 * i)) (List.replicate (g * 3 - 3 * i - 8) 0) 0 0 0 0 0 0 0 0 HV.out.1 hP1 (by omega) (by omega) (Nat.le_refl _) w1 hr1)
      clear hx_ hb_ hlt_ hr1 hP1 s0 s1 s2 s3 s4 s5 s6 s7 m0 m1 m2 m3 m4 m5 m6 m7 z0 z1 z2 z3 z4 z5 z6 z7 HR HB HO HW NA y7
      go_wp2_with fail
      refine HPT.out.mono ?_
      rintro e w2 ⟨rfl, hr2, ho2, hb2⟩
      have HR2 : Hid (RowU w2 db (L.take (3 * (i + 2)) ++ List.replicate (g * 3 - 3 * (i + 2)) 0)) := Lib.hid (by
        obtain ⟨_, f0, f1, f2, f3, f4, f5, f6, f7⟩ := HV.out
        rw [f0, f1, f2, f3, f4, f5, f6, f7, rep_0 (show g * 3 - 3 * i - 8 + 2 = g * 3 - 3 * (i + 2) by have := HEE.out.1; omega)] at hr2
        rw [show 3 * (i + 2) = 3 * (i + 1) + 3 by omega, HLB.out.tk, show 3 * (i + 1) = 3 * i + 3 by omega, HLA.out.tk]
        rw [show 3 * i + 3 + 3 = 3 * (i + 2) by omega]
        simpa using hr2)
      have HO2 : Hid (Src w2 sb (enc64 L)) := Lib.hid (HO1.out.heap (ho2 sb HLT.out.2))
      have HW2 : Hid (sb < w2.heap.size) := Lib.hid (Nat.lt_of_lt_of_le HW1.out hb2.size)
      have HB2 : Hid (Below db w w2) := Lib.hid (HB1.out.trans hb2)
      clear hr2 ho2 hb2 HPT HB1 HO1 HW1
      go_wp2_with fail
      all_goals
       go_roundg m'
       case measure => exact Nat.lt_succ_self m'
       case rel =>
        exact ⟨i + 2, m + 1, n + 6, si + 8, _, _, _, _, rfl, rfl, rfl, rfl, rfl, rfl, rfl, Lib.hid (by have := HI.out; have := HN.out; omega), HR2, HO2, HW2, HB2⟩
end Go.Proofs.Ytoaalpkeepjhmaa.B6
