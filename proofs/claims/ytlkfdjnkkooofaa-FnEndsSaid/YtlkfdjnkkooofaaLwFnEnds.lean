/- Walk of the law FnEnds: it answers true. -/
import Derived.Test.YtlkfdjnkkooofaaValE2
import Derived.Test.YtlkfdjnkkooofaaValS
import Derived.Test.YtlkfdjnkkooofaaValT
namespace Go.Proofs.Ytlkfdjnkkooofaa.Vals
open Go.RowKit Go.Proofs.YtlkfdjnkkooofaaW.PrintWords
set_option linter.unusedVariables false
set_option maxRecDepth 20000

theorem slice_form {w : World} {P : Nat → Prop} {v : V} {c0 c1 c2 c3 kv lv : Value} (h : IsV w P v [c0, c1, c2, c3, kv, lv]) : (∃ A c, kv = .slice A v.ks.length c) ∧ ∃ A c, lv = .slice A v.l.length c := by
  obtain ⟨xs, h1, h2, _⟩ := h.parts
  obtain ⟨A, c, h1, _⟩ := h1.form
  obtain ⟨A', c', h2, _⟩ := h2.form
  exact ⟨⟨A, c, h1⟩, A', c', h2⟩

set_option maxHeartbeats 3000000 in
theorem fnEnds_walk (A : Option Addr) (c : Nat) (l : List V) (xs : List Value) (P : Nat → Prop) (w : World) (hl : RowIs w P 6 (.slice A l.length c) l.length xs) (hv : IsVs w P l xs) :
    Calls Try.prog 11 #[.slice A l.length c] w fun e w' => e = .returned (.bool true) ∧ Below w.heap.size w w' := by
  have HRW : Hid (∀ W, Below w.heap.size w W → RowIs W P 6 (.slice A l.length c) l.length xs ∧ IsVs W P l xs) := Lib.hid fun W hW => ⟨hl.keep (by omega) (Kept.below hW), IsVs.keep (Kept.below hW) l hv⟩
  have HEL := Lib.hid (IsVs.elem hl hv)
  have HAR := Lib.hid (allRight_walk l A c xs P w hl hv)
  have hsf := store_float
  obtain ⟨hnc, hcm⟩ := hl.sizes
  unfold maxLen at hcm
  clear hl hv
  obtain ⟨n, hn⟩ : ∃ n, n = l.length := ⟨_, rfl⟩
  rw [← hn] at hnc HRW HAR ⊢
  have HN := Lib.hid hn
  clear hn
  go_enter Try.func11, Try.ntmps11
  by_cases hbig : n > 2147483647
  · go_wp2_with fail
    go_ret
    exact ⟨rfl, Below.refl _ _⟩
  go_wp2_with fail
  refine (HAR.out).mono ?_
  rintro e w1 ⟨b, rfl, HR, hb1⟩
  have HB1 := Lib.hid hb1
  clear hb1
  cases b with
  | false =>
    go_wp2_with fail
    go_ret
    exact ⟨rfl, HB1.out⟩
  | true =>
  obtain ⟨hr, h60⟩ := HR.out rfl
  have HRI := Lib.hid hr
  have HC1 := Lib.hid (implFirst_walk l hr (by rw [← HN.out]; exact h60) A c xs P w1 (by rw [← HN.out]; exact (HRW.out w1 HB1.out).1) (HRW.out w1 HB1.out).2)
  have HC2 : Hid (∀ W, Below w.heap.size w W → Calls Try.prog 40 #[.slice A n c] W (PickRes (l.getLastD V.nil) W)) := Lib.hid fun W hW => by
    have h := implLast_walk l hr (by rw [← HN.out]; exact h60) A c xs P W (by rw [← HN.out]; exact (HRW.out W hW).1) (HRW.out W hW).2
    rw [← HN.out] at h; exact h
  have HC3 : Hid (∀ W, Below w.heap.size w W → Calls Try.prog 41 #[.slice A n c] W (ListRes (l.drop 1) W)) := Lib.hid fun W hW => by
    have h := implRest_walk l hr (by rw [← HN.out]; exact h60) A c xs P W (by rw [← HN.out]; exact (HRW.out W hW).1) (HRW.out W hW).2
    rw [← HN.out] at h; exact h
  have HC4 : Hid (∀ W, Below w.heap.size w W → Calls Try.prog 42 #[.slice A n c] W (ListRes (l.take (n - 1)) W)) := Lib.hid fun W hW => by
    have h := implInitial_walk l hr (by rw [← HN.out]; exact h60) A c xs P W (by rw [← HN.out]; exact (HRW.out W hW).1) (HRW.out W hW).2
    rw [← HN.out] at h; exact h
  rw [← HN.out] at HC1
  obtain ⟨v1, hv1⟩ : ∃ v, v = l.headD V.nil := ⟨_, rfl⟩
  obtain ⟨v2, hv2⟩ : ∃ v, v = l.getLastD V.nil := ⟨_, rfl⟩
  obtain ⟨l3, hl3⟩ : ∃ v, v = l.drop 1 := ⟨_, rfl⟩
  obtain ⟨l4, hl4⟩ : ∃ v, v = l.take (n - 1) := ⟨_, rfl⟩
  rw [← hv1] at HC1
  rw [← hv2] at HC2
  rw [← hl3] at HC3
  rw [← hl4] at HC4
  have hl3n : l3.length = n - 1 := by rw [hl3, HN.out]; simp
  have hl4n : l4.length = n - 1 := by rw [hl4, List.length_take, ← HN.out]; omega
  have HVS := Lib.hid (And.intro hv1 (And.intro hv2 (And.intro hl3 hl4)))
  have HLN := Lib.hid (And.intro hl3n hl4n)
  clear HR hr hv1 hv2 hl3 hl4 hl3n hl4n
  go_wp2_with fail
  refine (HC1.out).mono ?_
  rintro e w2 ⟨k1, q1, rfl, HX1, HB2⟩
  obtain ⟨⟨K1, kc1, rfl⟩, Q1, qc1, rfl⟩ := slice_form HX1.out
  have HB2' := Lib.hid (HB1.out.trans (HB2.out.mono HB1.out.size))
  obtain ⟨w2a, hw2a⟩ : ∃ W, W = w2.alloc (.cells #[.int .i64 (norm v1).k, .int .i64 (norm v1).n, .float .f64 (norm v1).r, .string (norm v1).t, .slice K1 (norm v1).ks.length kc1, .slice Q1 (norm v1).l.length qc1] 26) := ⟨_, rfl⟩
  have hb3 : Below w.heap.size w w2a := by rw [hw2a]; exact HB2'.out.alloc HB2'.out.size _
  have hbx1 : Box6 w2a w2.heap.size (.int .i64 (norm v1).k) (.int .i64 (norm v1).n) (.float .f64 (norm v1).r) (.string (norm v1).t) (.slice K1 (norm v1).ks.length kc1) (.slice Q1 (norm v1).l.length qc1) := by rw [hw2a]; exact Box6.new w2 _ _ _ _ _ _
  have hX1 : IsV w2a (fun _ => True) (norm v1) [.int .i64 (norm v1).k, .int .i64 (norm v1).n, .float .f64 (norm v1).r, .string (norm v1).t, .slice K1 (norm v1).ks.length kc1, .slice Q1 (norm v1).l.length qc1] := by
    rw [hw2a]; exact IsV.keep (Kept.trans (Kept.mono (fun _ _ _ => trivial)) (Kept.below ((Below.refl _ _).alloc (Nat.le_refl _) _))) _ HX1.out
  have HBa := Lib.hid hb3
  have HBX1 := Lib.hid hbx1
  have HXa := Lib.hid hX1
  have hca := HC2.out w2a hb3
  rw [hw2a] at hca
  have HCA := Lib.hid hca
  have HWA := Lib.hid hw2a
  clear hb3 hbx1 hX1 hca hw2a HX1
  go_wp2_with fail
  refine (HCA.out).mono ?_
  rintro e w3 ⟨k2, q2, rfl, HX2, HB3⟩
  rw [← HWA.out] at HX2 HB3
  obtain ⟨⟨K2, kc2, rfl⟩, Q2, qc2, rfl⟩ := slice_form HX2.out
  have HB3' := Lib.hid (HBa.out.trans (HB3.out.mono HBa.out.size))
  obtain ⟨w3a, hw3a⟩ : ∃ W, W = w3.alloc (.cells #[.int .i64 (norm v2).k, .int .i64 (norm v2).n, .float .f64 (norm v2).r, .string (norm v2).t, .slice K2 (norm v2).ks.length kc2, .slice Q2 (norm v2).l.length qc2] 26) := ⟨_, rfl⟩
  have hb3 : Below w.heap.size w w3a := by rw [hw3a]; exact HB3'.out.alloc HB3'.out.size _
  have hbx2 : Box6 w3a w3.heap.size (.int .i64 (norm v2).k) (.int .i64 (norm v2).n) (.float .f64 (norm v2).r) (.string (norm v2).t) (.slice K2 (norm v2).ks.length kc2) (.slice Q2 (norm v2).l.length qc2) := by rw [hw3a]; exact Box6.new w3 _ _ _ _ _ _
  have hX2 : IsV w3a (fun _ => True) (norm v2) [.int .i64 (norm v2).k, .int .i64 (norm v2).n, .float .f64 (norm v2).r, .string (norm v2).t, .slice K2 (norm v2).ks.length kc2, .slice Q2 (norm v2).l.length qc2] := by
    rw [hw3a]; exact IsV.keep (Kept.trans (Kept.mono (fun _ _ _ => trivial)) (Kept.below ((Below.refl _ _).alloc (Nat.le_refl _) _))) _ HX2.out
  have hba : Below w2a.heap.size w2a w3a := by rw [hw3a]; exact HB3.out.alloc HB3.out.size _
  have HBb := Lib.hid hb3
  have HBX2 := Lib.hid hbx2
  have HXb := Lib.hid hX2
  have HBX1b := Lib.hid (HBX1.out.below hba)
  have HXab := Lib.hid (IsV.keep (Kept.below hba) _ HXa.out)
  have hca := HC3.out w3a hb3
  rw [hw3a] at hca
  have HCB := Lib.hid hca
  have HWB := Lib.hid hw3a
  clear hb3 hbx2 hX2 hca hw3a HX2 hba
  go_wp2_with fail
  refine (HCB.out).mono ?_
  rintro e w4 ⟨A3, c3, ys3, rfl, HX3, HB4⟩
  rw [← HWB.out] at HX3 HB4
  have HB4' := Lib.hid (HBb.out.trans (HB4.out.mono HBb.out.size))
  have HBX1c := Lib.hid (HBX1b.out.below HB4.out)
  have HBX2c := Lib.hid (HBX2.out.below HB4.out)
  have HXac := Lib.hid (IsV.keep (Kept.below HB4.out) _ HXab.out)
  have HXbc := Lib.hid (IsV.keep (Kept.below HB4.out) _ HXb.out)
  rw [HLN.out.1] at HX3 ⊢
  have HC4' := Lib.hid (HC4.out w4 HB4'.out)
  go_wp2_with fail
  refine (HC4'.out).mono ?_
  rintro e w5 ⟨A4, c4, ys4, rfl, HX4, HB5⟩
  rw [HLN.out.2] at HX4 ⊢
  have HB5' := Lib.hid (HB4'.out.trans (HB5.out.mono HB4'.out.size))
  have HBX1d := Lib.hid (HBX1c.out.below HB5.out)
  have HBX2d := Lib.hid (HBX2c.out.below HB5.out)
  have HXad := Lib.hid (IsV.keep (Kept.below HB5.out) _ HXac.out)
  have HXbd := Lib.hid (IsV.keep (Kept.below HB5.out) _ HXbc.out)
  have HX3d : Hid (RowIs w5 (fun _ => True) 6 (.slice A3 (n - 1) c3) (n - 1) ys3 ∧ IsVs w5 (fun _ => True) (norms l3) ys3) := Lib.hid ⟨HX3.out.1.keep (by omega) (Kept.trans (Kept.mono (fun _ _ _ => trivial)) (Kept.below HB5.out)), IsVs.keep (Kept.trans (Kept.mono (fun _ _ _ => trivial)) (Kept.below HB5.out)) _ HX3.out.2⟩
  clear HC1 HC2 HC3 HC4 HC4' HCA HCB HWA HWB HAR HB1 HB2 HB2' HBa HBX1 HXa HB3 HB3' HBb HBX2 HXb HBX1b HXab HB4 HB4' HBX1c HBX2c HXac HXbc HX3
  obtain ⟨d0, d1, d2, d3, d4, d5⟩ := HBX1d.out.cells
  obtain ⟨e0, e1, e2, e3, e4, e5⟩ := HBX2d.out.cells
  by_cases hn0 : n = 0
  · subst hn0
    have hz1 : (norm v1).k = 0 := by
      rw [HVS.out.1, List.eq_nil_of_length_eq_zero HN.out.symm]
      exact congrArg V.k norm_nil
    have hz2 : (norm v2).k = 0 := by
      rw [HVS.out.2.1, List.eq_nil_of_length_eq_zero HN.out.symm]
      exact congrArg V.k norm_nil
    go_wp2_with fail
    go_ret
    exact ⟨rfl, HB5'.out⟩
  · have hd : ¬ ((n : Int) - 1 < 0) := by omega
    go_upto_region 14 with fail
    obtain ⟨m, hm⟩ : ∃ m, n - 1 = m := ⟨_, rfl⟩
    have hq : (n : Int) - 1 = (m : Int) := by omega
    simp only [hq, hm]
    rw [hm] at HX3d HX4
    have HM := Lib.hid hm
    clear hd hq
    have hn1 : 0 < n := by omega
    obtain ⟨b, o, ka, la, hA, hbs, _, hI, f0, f1, f2, f3, f4, f5⟩ := HEL.out 0 (by rw [← HN.out]; exact hn1)
    obtain ⟨b', o', kb, lb, hA', _, _, hJ, g0, g1, g2, g3, g4, g5⟩ := HEL.out (n - 1) (by rw [← HN.out]; omega)
    rw [hA] at hA'
    injection hA' with hA'
    injection hA' with hb' ho'
    subst hb'
    subst ho'
    subst hA
    obtain ⟨u1, hu1⟩ : ∃ u, u = l[0]'(by rw [← HN.out]; exact hn1) := ⟨_, rfl⟩
    obtain ⟨u2, hu2⟩ : ∃ u, u = l[n - 1]'(by rw [← HN.out]; omega) := ⟨_, rfl⟩
    rw [← hu1] at hI f0 f1 f2 f3
    rw [← hu2] at hJ g0 g1 g2 g3
    rw [Nat.zero_mul, Nat.add_zero] at f0 f1 f2 f3 f4 f5
    have hv1 : v1 = u1 := by rw [HVS.out.1, hu1, List.headD_eq_head?_getD, List.head?_eq_getElem?, List.getElem?_eq_getElem (by rw [← HN.out]; exact hn1)]; rfl
    have hv2 : v2 = u2 := by
      rw [HVS.out.2.1, hu2, List.getLastD_eq_getLast?, List.getLast?_eq_getElem?, List.getElem?_eq_getElem (by rw [← HN.out]; omega)]
      simp only [Option.getD_some, ← HN.out]
    rw [hm] at g0 g1 g2 g3 g4 g5
    have hs5 := HB5'.out.size
    have hb5 : b < w5.heap.size := by omega
    have hcw : ∀ j, w5.cell? ⟨b, j, none⟩ = w.cell? ⟨b, j, none⟩ := fun j => HB5'.out.cell (p := ⟨b, j, none⟩) hbs
    have hx1 := HBX1d.out.lt
    have hx2 := HBX2d.out.lt
    have p0 : ∀ x : Near w5.heap.size w5, x.W.cell? ⟨w2.heap.size, 0, none⟩ = some _ := fun x => x.cell hx1 d0
    have p1 : ∀ x : Near w5.heap.size w5, x.W.cell? ⟨w2.heap.size, 1, none⟩ = some _ := fun x => x.cell hx1 d1
    have p2 : ∀ x : Near w5.heap.size w5, x.W.cell? ⟨w2.heap.size, 2, none⟩ = some _ := fun x => x.cell hx1 d2
    have p3 : ∀ x : Near w5.heap.size w5, x.W.cell? ⟨w2.heap.size, 3, none⟩ = some _ := fun x => x.cell hx1 d3
    have p4 : ∀ x : Near w5.heap.size w5, x.W.cell? ⟨w2.heap.size, 4, none⟩ = some _ := fun x => x.cell hx1 d4
    have p5 : ∀ x : Near w5.heap.size w5, x.W.cell? ⟨w2.heap.size, 5, none⟩ = some _ := fun x => x.cell hx1 d5
    have q0 : ∀ x : Near w5.heap.size w5, x.W.cell? ⟨w3.heap.size, 0, none⟩ = some _ := fun x => x.cell hx2 e0
    have q1 : ∀ x : Near w5.heap.size w5, x.W.cell? ⟨w3.heap.size, 1, none⟩ = some _ := fun x => x.cell hx2 e1
    have q2 : ∀ x : Near w5.heap.size w5, x.W.cell? ⟨w3.heap.size, 2, none⟩ = some _ := fun x => x.cell hx2 e2
    have q3 : ∀ x : Near w5.heap.size w5, x.W.cell? ⟨w3.heap.size, 3, none⟩ = some _ := fun x => x.cell hx2 e3
    have q4 : ∀ x : Near w5.heap.size w5, x.W.cell? ⟨w3.heap.size, 4, none⟩ = some _ := fun x => x.cell hx2 e4
    have q5 : ∀ x : Near w5.heap.size w5, x.W.cell? ⟨w3.heap.size, 5, none⟩ = some _ := fun x => x.cell hx2 e5
    have r0 : ∀ x : Near w5.heap.size w5, x.W.cell? ⟨b, o, none⟩ = some _ := fun x => x.cell hb5 ((hcw _).trans f0)
    have r1 : ∀ x : Near w5.heap.size w5, x.W.cell? ⟨b, o + 1, none⟩ = some _ := fun x => x.cell hb5 ((hcw _).trans f1)
    have r2 : ∀ x : Near w5.heap.size w5, x.W.cell? ⟨b, o + 2, none⟩ = some _ := fun x => x.cell hb5 ((hcw _).trans f2)
    have r3 : ∀ x : Near w5.heap.size w5, x.W.cell? ⟨b, o + 3, none⟩ = some _ := fun x => x.cell hb5 ((hcw _).trans f3)
    have r4 : ∀ x : Near w5.heap.size w5, x.W.cell? ⟨b, o + 4, none⟩ = some _ := fun x => x.cell hb5 ((hcw _).trans f4)
    have r5 : ∀ x : Near w5.heap.size w5, x.W.cell? ⟨b, o + 5, none⟩ = some _ := fun x => x.cell hb5 ((hcw _).trans f5)
    have s0 : ∀ x : Near w5.heap.size w5, x.W.cell? ⟨b, o + m * 6, none⟩ = some _ := fun x => x.cell hb5 ((hcw _).trans g0)
    have s1 : ∀ x : Near w5.heap.size w5, x.W.cell? ⟨b, o + m * 6 + 1, none⟩ = some _ := fun x => x.cell hb5 ((hcw _).trans g1)
    have s2 : ∀ x : Near w5.heap.size w5, x.W.cell? ⟨b, o + m * 6 + 2, none⟩ = some _ := fun x => x.cell hb5 ((hcw _).trans g2)
    have s3 : ∀ x : Near w5.heap.size w5, x.W.cell? ⟨b, o + m * 6 + 3, none⟩ = some _ := fun x => x.cell hb5 ((hcw _).trans g3)
    have s4 : ∀ x : Near w5.heap.size w5, x.W.cell? ⟨b, o + m * 6 + 4, none⟩ = some _ := fun x => x.cell hb5 ((hcw _).trans g4)
    have s5 : ∀ x : Near w5.heap.size w5, x.W.cell? ⟨b, o + m * 6 + 5, none⟩ = some _ := fun x => x.cell hb5 ((hcw _).trans g5)
    have hS1 : SameP (norm v1) u1 := by rw [hv1, hu1]; exact same_of (HRI.out.at_ 0 _)
    have hS2 : SameP (norm v2) u2 := by rw [hv2, hu2]; exact same_of (HRI.out.at_ (n - 1) _)
    have HS1 : Hid (∀ x : Near w5.heap.size w5, Calls Try.prog 22 #[.agg #[.int .i64 (norm v1).k, .int .i64 (norm v1).n, .float .f64 (norm v1).r, .string (norm v1).t, .slice K1 (norm v1).ks.length kc1, .slice Q1 (norm v1).l.length qc1], .agg #[.int .i64 u1.k, .int .i64 u1.n, .float .f64 u1.r, .string u1.t, ka, la]] x.W
        fun e w' => e = .returned (.bool true) ∧ ∃ y : Near w5.heap.size w5, w' = y.W) := Lib.hid fun x =>
      (same_walk (norm v1) u1 _ _ ka la _ P x.W (IsV.keep (Kept.below x.h) _ HXad.out) (IsV.keep ((Kept.below HB5'.out).trans (Kept.below x.h)) _ hI)).mono fun e w' ⟨r, he, hr, hB⟩ => ⟨by rw [he, ← hr.out, sameB_yes hS1], x.of hB (Nat.le_refl _)⟩
    have HS2 : Hid (∀ x : Near w5.heap.size w5, Calls Try.prog 22 #[.agg #[.int .i64 (norm v2).k, .int .i64 (norm v2).n, .float .f64 (norm v2).r, .string (norm v2).t, .slice K2 (norm v2).ks.length kc2, .slice Q2 (norm v2).l.length qc2], .agg #[.int .i64 u2.k, .int .i64 u2.n, .float .f64 u2.r, .string u2.t, kb, lb]] x.W
        fun e w' => e = .returned (.bool true) ∧ ∃ y : Near w5.heap.size w5, w' = y.W) := Lib.hid fun x =>
      (same_walk (norm v2) u2 _ _ kb lb _ P x.W (IsV.keep (Kept.below x.h) _ HXbd.out) (IsV.keep ((Kept.below HB5'.out).trans (Kept.below x.h)) _ hJ)).mono fun e w' ⟨r, he, hr, hB⟩ => ⟨by rw [he, ← hr.out, sameB_yes hS2], x.of hB (Nat.le_refl _)⟩
    have hrs : Rights l3 8 := by rw [HVS.out.2.2.1]; exact Rights.mk fun i hi => by rw [List.getElem_drop]; exact HRI.out.at_ _ _
    have hri : Rights l4 8 := by rw [HVS.out.2.2.2]; exact Rights.mk fun i hi => by rw [List.getElem_take]; exact HRI.out.at_ _ _
    have hw5 := HRW.out w5 HB5'.out
    have hm3 : l3.length = m := HLN.out.1.trans hm
    have hm4 : l4.length = m := HLN.out.2.trans hm
    have HS3 : Hid (∀ x : Near w5.heap.size w5, Calls Try.prog 30 #[.slice A3 m c3, .slice (if c = 1 then some ⟨b, o, none⟩ else some ⟨b, o + 6, none⟩) (n - 1) (c - 1)] x.W
        fun e w' => e = .returned (.bool true) ∧ ∃ y : Near w5.heap.size w5, w' = y.W) := Lib.hid fun x => by
      have hy := (HX3d.out.1.keep (by omega) (Kept.below x.h))
      have hz := ((hw5.1.tail hn1).keep (by omega) (Kept.below x.h))
      have h := sameList_walk (norms l3) l3 A3 (if c = 1 then some ⟨b, o, none⟩ else some ⟨b, o + 6, none⟩) c3 (c - 1) ys3 (xs.drop 6) _ P x.W (by rw [norms_len, hm3]; exact hy) (IsVs.keep (Kept.below x.h) _ HX3d.out.2)
        (by rw [HLN.out.1]; exact hz) (by rw [HVS.out.2.2.1]; exact IsVs.keep (Kept.below x.h) _ hw5.2.drop1)
      rw [norms_len, hm3, ← hm] at h
      rw [hm] at h
      rw [hm]
      refine h.mono fun e w' ⟨r, he, hr, hB⟩ => ⟨by rw [he, ← hr.out, samesB_yes (sames_of hrs)], x.of hB (Nat.le_refl _)⟩
    have HS4 : Hid (∀ x : Near w5.heap.size w5, Calls Try.prog 30 #[.slice A4 m c4, .slice (some ⟨b, o, none⟩) m c] x.W
        fun e w' => e = .returned (.bool true) ∧ ∃ y : Near w5.heap.size w5, w' = y.W) := Lib.hid fun x => by
      have hy := (HX4.out.1.keep (by omega) (Kept.below x.h))
      have hz := ((hw5.1.init (m := m) hn1 (by omega)).keep (by omega) (Kept.below x.h))
      have h := sameList_walk (norms l4) l4 A4 (some ⟨b, o, none⟩) c4 c ys4 (xs.take (m * 6)) _ P x.W (by rw [norms_len, hm4]; exact hy) (IsVs.keep (Kept.below x.h) _ HX4.out.2)
        (by rw [hm4]; exact hz) (by rw [HVS.out.2.2.2, hm]; exact IsVs.keep (Kept.below x.h) _ (hw5.2.takeV m))
      rw [norms_len, hm4] at h
      refine h.mono fun e w' ⟨r, he, hr, hB⟩ => ⟨by rw [he, ← hr.out, samesB_yes (sames_of hri)], x.of hB (Nat.le_refl _)⟩
    have hl0 : (0 : Int) ≤ (m : Int) := by omega
    have hl1 : (m : Int) < (n : Int) := by omega
    have hl2 : (0 : Int) < (n : Int) := by omega
    have hl3' : (1 : Int) ≤ (n : Int) := by omega
    have hl4' : (m : Int) ≤ (c : Int) := by omega
    have hl5' : (n : Int) ≤ (c : Int) := by omega
    clear hI hJ f0 f1 f2 f3 f4 f5 g0 g1 g2 g3 g4 g5 hv1 hv2 hu1 hu2 hS1 hS2 hcw hx1 hx2 hs5 hb5 d0 d1 d2 d3 d4 d5 e0 e1 e2 e3 e4 e5
    clear hm hn0 hn1 hbig hcm hrs hri hw5 hm3 hm4
    refine wp_region_near w5.heap.size w5 (by kernel_rfl) (by kernel_rfl) (Below.refl _ _) ?_
    iterate 6 (go_big_quiet_step ((exact HS1.out _)))
    repeat (go_big_quiet_step ((exact HS2.out _)))
    iterate 6 (go_big_quiet_step ((exact HS3.out _)))
    repeat (go_big_quiet_step ((exact HS4.out _)))
    refine wpQuiet_nil ?_
    intro _ hw'
    obtain ⟨⟨W1, hW1⟩, rfl⟩ := hw'
    have HB6 := Lib.hid (HB5'.out.trans (hW1.mono HB5'.out.size))
    clear hW1
    go_wp2_with fail
    all_goals (
      go_ret
      exact ⟨rfl, HB6.out⟩)
end Go.Proofs.Ytlkfdjnkkooofaa.Vals
