/- Walk of the law FnCoalesce: it answers true. -/
import Derived.Test.YtlkfdjnkkooofaaValM3
import Derived.Test.YtlkfdjnkkooofaaValS
namespace Go.Proofs.Ytlkfdjnkkooofaa.Vals
open Go.RowKit Go.Proofs.YtlkfdjnkkooofaaW.PrintWords
set_option linter.unusedVariables false
set_option maxRecDepth 20000

theorem slice_form {w : World} {P : Nat → Prop} {v : V} {c0 c1 c2 c3 kv lv : Value} (h : IsV w P v [c0, c1, c2, c3, kv, lv]) : (∃ A c, kv = .slice A v.ks.length c) ∧ ∃ A c, lv = .slice A v.l.length c := by
  obtain ⟨xs, h1, h2, _⟩ := h.parts
  obtain ⟨A, c, h1, _⟩ := h1.form
  obtain ⟨A', c', h2, _⟩ := h2.form
  exact ⟨⟨A, c, h1⟩, A', c', h2⟩

theorem filter_len : ∀ l : List V, (l.filter fun v => !emptyB v).length ≤ l.length := fun l => List.length_filter_le _ _
theorem all_filter : ∀ l : List V, (l.all fun v => !emptyB v) = decide ((l.filter fun v => !emptyB v).length = l.length)
  | [] => rfl
  | v :: r => by
    have h := filter_len r
    have ih := all_filter r
    cases hv : emptyB v with
    | true => simp [hv]; omega
    | false => simp [hv]; simpa using ih
theorem any_filter : ∀ l : List V, (l.any fun v => !emptyB v) = decide (0 < (l.filter fun v => !emptyB v).length)
  | [] => rfl
  | v :: r => by
    have ih := any_filter r
    cases hv : emptyB v with
    | true => simp [hv]; simpa using ih
    | false => simp [hv]
theorem same_nil : SameP (norm V.nil) V.nil := by
  rw [norm_nil]; unfold V.nil SameP SamesP
  exact ⟨by kernel_rfl, rfl, rfl, rfl⟩
theorem same_pick : ∀ {l : List V}, Rights l 8 → SameP (norm (pickV l)) (pickV l)
  | [], _ => same_nil
  | v :: r, h => by
    unfold Rights at h
    unfold pickV
    split
    · exact same_pick h.2
    · exact same_of h.1

set_option maxHeartbeats 3000000 in
theorem fnCoalesce_walk (A : Option Addr) (c : Nat) (l : List V) (xs : List Value) (P : Nat → Prop) (w : World) (hl : RowIs w P 6 (.slice A l.length c) l.length xs) (hv : IsVs w P l xs) :
    Calls Try.prog 9 #[.slice A l.length c] w fun e w' => e = .returned (.bool true) ∧ Below w.heap.size w w' := by
  have HRW : Hid (∀ W, Below w.heap.size w W → RowIs W P 6 (.slice A l.length c) l.length xs ∧ IsVs W P l xs) := Lib.hid fun W hW => ⟨hl.keep (by omega) (Kept.below hW), IsVs.keep (Kept.below hW) l hv⟩
  have HEL := Lib.hid (IsVs.elem hl hv)
  have HAR := Lib.hid (allRight_walk l A c xs P w hl hv)
  have hsf := store_float
  obtain ⟨hnc, hcm⟩ := hl.sizes
  unfold maxLen at hcm
  clear hl hv
  obtain ⟨n, hn⟩ : ∃ n, n = l.length := ⟨_, rfl⟩
  rw [← hn] at hnc HRW HAR ⊢
  have HN := Lib.hid hn
  clear hn
  go_enter Try.func9, Try.ntmps9
  by_cases hbig : n > 2147483647
  · go_wp2_with fail
    go_ret
    exact ⟨rfl, Below.refl _ _⟩
  go_wp2_with fail
  refine (HAR.out).mono ?_
  rintro e w1 ⟨b, rfl, HR, hb1⟩
  have HB1 := Lib.hid hb1
  clear hb1
  cases b with
  | false =>
    go_wp2_with fail
    go_ret
    exact ⟨rfl, HB1.out⟩
  | true =>
  obtain ⟨hr, h60⟩ := HR.out rfl
  have HRI := Lib.hid hr
  clear HR hr
  go_wp2_with fail
  go_loopg [4, 5] n (fun kq v4 v5 wr => ∃ (i : Nat) (kv lv : Value), kq = i ∧ i ≤ n ∧ v5 = .int .i64 ((i : Int) - 1) ∧ v4 = .int .i64 (((l.drop i).filter fun v => !emptyB v).length : Int) ∧ Hid (Below w.heap.size w wr) ∧ Hid (w1.heap.size < wr.heap.size) ∧
    Hid (Box6 wr w1.heap.size (.int .i64 (pickV (l.drop i)).k) (.int .i64 (pickV (l.drop i)).n) (.float .f64 (pickV (l.drop i)).r) (.string (pickV (l.drop i)).t) kv lv) ∧
    Hid (IsV wr P (pickV (l.drop i)) [.int .i64 (pickV (l.drop i)).k, .int .i64 (pickV (l.drop i)).n, .float .f64 (pickV (l.drop i)).r, .string (pickV (l.drop i)).t, kv, lv]))
  case atStart =>
    have hd : l.drop n = [] := List.drop_of_length_le (by rw [HN.out]; exact Nat.le_refl _)
    refine ⟨n, .slice none 0 0, .slice none 0 0, rfl, Nat.le_refl _, rfl, by rw [hd]; rfl, Lib.hid (HB1.out.alloc HB1.out.size _), Lib.hid (by simp), Lib.hid (by rw [hd]; exact Box6.new w1 _ _ _ _ _ _), Lib.hid ?_⟩
    rw [hd]
    exact isV_bare _ _ 0 0 0 ⟨#[]⟩ (i64_small (by omega) (by omega)) (i64_small (by omega) (by omega)) (by show 0 ≤ maxLen; omega)
  case round =>
    obtain ⟨i, kv, lv, rfl, hin, rfl, rfl, HB, HSZ, HBX, HIV⟩ := hrel
    cases gk with
    | zero =>
      have hq : ¬ ((0 : Int) - 1 ≥ 0) := by omega
      obtain ⟨⟨Kw, kw, rfl⟩, Qw, qw, rfl⟩ := slice_form HIV.out
      rw [List.drop_zero] at HBX HIV ⊢
      obtain ⟨u, hu⟩ : ∃ u, u = pickV l := ⟨_, rfl⟩
      obtain ⟨q, hq⟩ : ∃ q, q = (l.filter fun v => !emptyB v).length := ⟨_, rfl⟩
      have hrw := HRW.out wr HB.out
      have HC1 := Lib.hid (implCoalesce_walk l HRI.out (by rw [← HN.out]; exact h60) A c xs P wr (by rw [← HN.out]; exact hrw.1) hrw.2)
      have HC2 : Hid (∀ W, Below w.heap.size w W → Calls Try.prog 35 #[.slice A n c] W fun e w' => e = .returned (.tuple #[.bool (decide (q = n)), .bool true]) ∧ Below W.heap.size W w') := Lib.hid fun W hW => by
        have h := implAllOf_walk l HRI.out (by rw [← HN.out]; exact h60) A c xs P W (by rw [← HN.out]; exact (HRW.out W hW).1) (HRW.out W hW).2
        rw [← HN.out, all_filter, ← hq, ← HN.out] at h; exact h
      have HC3 : Hid (∀ W, Below w.heap.size w W → Calls Try.prog 36 #[.slice A n c] W fun e w' => e = .returned (.tuple #[.bool (decide (0 < q)), .bool true]) ∧ Below W.heap.size W w') := Lib.hid fun W hW => by
        have h := implAnyOf_walk l HRI.out (by rw [← HN.out]; exact h60) A c xs P W (by rw [← HN.out]; exact (HRW.out W hW).1) (HRW.out W hW).2
        rw [← HN.out, any_filter, ← hq] at h; exact h
      rw [← HN.out] at HC1
      rw [← hu] at HBX HIV HC1
      rw [← hq]
      have hru : SameP (norm u) u := by rw [hu]; exact same_pick HRI.out
      have HSM := Lib.hid hru
      clear hru hu hq hrw
      go_wp2_with fail
      refine (HC1.out).mono ?_
      rintro e w2 ⟨k1, q1, rfl, HX1, HB2⟩
      obtain ⟨⟨K1, kc1, rfl⟩, Q1, qc1, rfl⟩ := slice_form HX1.out
      have HBX2 := Lib.hid (HBX.out.below HB2.out)
      have HIV2 := Lib.hid (IsV.keep (Kept.below HB2.out) _ HIV.out)
      have HB2' := Lib.hid (HB.out.trans (HB2.out.mono HB.out.size))
      obtain ⟨w2a, hw2a⟩ : ∃ W, W = w2.alloc (.cells #[.int .i64 (norm u).k, .int .i64 (norm u).n, .float .f64 (norm u).r, .string (norm u).t, .slice K1 (norm u).ks.length kc1, .slice Q1 (norm u).l.length qc1] 26) := ⟨_, rfl⟩
      have hb3 : Below w.heap.size w w2a := by rw [hw2a]; exact HB2'.out.alloc HB2'.out.size _
      have hba : Below w2.heap.size w2 w2a := by rw [hw2a]; exact (Below.refl _ _).alloc (Nat.le_refl _) _
      have hbx1 : Box6 w2a w2.heap.size (.int .i64 (norm u).k) (.int .i64 (norm u).n) (.float .f64 (norm u).r) (.string (norm u).t) (.slice K1 (norm u).ks.length kc1) (.slice Q1 (norm u).l.length qc1) := by rw [hw2a]; exact Box6.new w2 _ _ _ _ _ _
      have hX1 : IsV w2a (fun _ => True) (norm u) [.int .i64 (norm u).k, .int .i64 (norm u).n, .float .f64 (norm u).r, .string (norm u).t, .slice K1 (norm u).ks.length kc1, .slice Q1 (norm u).l.length qc1] :=
        IsV.keep (Kept.trans (Kept.mono (fun _ _ _ => trivial)) (Kept.below hba)) _ HX1.out
      have HBa := Lib.hid hb3
      have HBX1 := Lib.hid hbx1
      have HXa := Lib.hid hX1
      have HBX3 := Lib.hid (HBX2.out.below hba)
      have HIV3 := Lib.hid (IsV.keep (Kept.below hba) _ HIV2.out)
      have hca := HC2.out w2a hb3
      rw [hw2a] at hca
      have HCA := Lib.hid hca
      have HWA := Lib.hid hw2a
      clear hb3 hbx1 hX1 hca hw2a HX1 hba
      go_wp2_with fail
      refine (HCA.out).mono ?_
      rintro e w3 ⟨rfl, hb3⟩
      rw [← HWA.out] at hb3
      have HBX1b := Lib.hid (HBX1.out.below hb3)
      have HXab := Lib.hid (IsV.keep (Kept.below hb3) _ HXa.out)
      have HBX4 := Lib.hid (HBX3.out.below hb3)
      have HIV4 := Lib.hid (IsV.keep (Kept.below hb3) _ HIV3.out)
      have HB3' := Lib.hid (HBa.out.trans (hb3.mono HBa.out.size))
      have HCB := Lib.hid (HC3.out w3 HB3'.out)
      clear hb3
      go_wp2_with fail
      refine (HCB.out).mono ?_
      rintro e w4 ⟨rfl, hb4⟩
      have HBX1c := Lib.hid (HBX1b.out.below hb4)
      have HXac := Lib.hid (IsV.keep (Kept.below hb4) _ HXab.out)
      have HBX5 := Lib.hid (HBX4.out.below hb4)
      have HIV5 := Lib.hid (IsV.keep (Kept.below hb4) _ HIV4.out)
      have HB5' := Lib.hid (HB3'.out.trans (hb4.mono HB3'.out.size))
      clear hb4 HC1 HC2 HC3 HCA HCB HWA HAR HB1 HB2 HB2' HBa HBX1 HXa HBX1b HXab HBX2 HBX3 HBX4 HIV2 HIV3 HIV4 HB3'
      obtain ⟨d0, d1, d2, d3, d4, d5⟩ := HBX1c.out.cells
      obtain ⟨e0, e1, e2, e3, e4, e5⟩ := HBX5.out.cells
      have HS1 := Lib.hid (same_walk (norm u) u _ _ _ _ _ P w4 HXac.out HIV5.out)
      rw [sameB_yes HSM.out] at HS1
      have hqi : (q : Int) = (n : Int) ↔ q = n := by omega
      obtain ⟨z, hd1, hd2, hd3, hd4⟩ : ∃ z : Bool, decide (q = n) = z ∧ ((q : Int) == (n : Int)) = z ∧ (q == n) = z ∧ decide ((q : Int) = (n : Int)) = z := ⟨_, rfl, by rw [Bool.eq_iff_iff]; simp; omega, by rw [Bool.eq_iff_iff]; simp, by rw [Bool.eq_iff_iff]; simp; omega⟩
      obtain ⟨y, he1, he2⟩ : ∃ y : Bool, decide (0 < q) = y ∧ decide ((0 : Int) < (q : Int)) = y := ⟨_, rfl, by rw [Bool.eq_iff_iff]; simp⟩
      clear hqi
      simp only [hd1, he1]
      cases z <;> cases y
      all_goals
        go_wp2_with fail
        refine (HS1.out).mono ?_
        rintro e w5 ⟨b, rfl, hb, hb5⟩
        obtain rfl := hb.out
        have HB6 := Lib.hid (HB5'.out.trans (hb5.mono HB5'.out.size))
        clear hb5 hb
        go_wp2_with fail
        go_ret
        exact ⟨rfl, HB6.out⟩
    | succ i =>
      have hil : i < l.length := by have := HN.out; omega
      obtain ⟨b, o, ka, la, hA, hbs, _, hI, e0, e1, e2, e3, e4, e5⟩ := HEL.out i hil
      subst hA
      obtain ⟨u, hu⟩ : ∃ u, u = l[i] := ⟨_, rfl⟩
      rw [← hu] at hI e0 e1 e2 e3
      have hcw : ∀ j, wr.cell? ⟨b, j, none⟩ = w.cell? ⟨b, j, none⟩ := fun j => HB.out.cell (p := ⟨b, j, none⟩) hbs
      have g0 := (hcw (o + i * 6)).trans e0
      have g1 := (hcw (o + i * 6 + 1)).trans e1
      have g2 := (hcw (o + i * 6 + 2)).trans e2
      have g3 := (hcw (o + i * 6 + 3)).trans e3
      have g4 := (hcw (o + i * 6 + 4)).trans e4
      have g5 := (hcw (o + i * 6 + 5)).trans e5
      have hru : Right u 8 := by rw [hu]; exact HRI.out.at_ i hil
      have hkk : 0 ≤ u.k ∧ u.k ≤ 7 := by cases u; exact hru.kind
      obtain ⟨⟨Ak, ck, rfl⟩, Al, cl, rfl⟩ := slice_form hI
      have HCALL := Lib.hid (specEmpty_walk u hkk (.slice Ak u.ks.length ck) Al cl wr)
      have HU := Lib.hid hu
      have HI := Lib.hid hI
      have HBS := Lib.hid hbs
      have hii0 : (0 : Int) ≤ (i : Int) := by omega
      have hii1 : (i : Int) < (n : Int) := by omega
      have hsp : ((i + 1 : Nat) : Int) - 1 = (i : Int) := by omega
      clear hcw e0 e1 e2 e3 e4 e5 hI hu hbs hru hkk
      go_wp2_with fail
      refine (HCALL.out).mono ?_
      rintro e w2 ⟨rfl, hb2⟩
      have HB2 := Lib.hid (HB.out.trans (hb2.mono HB.out.size))
      have hdrop : l.drop i = u :: l.drop (i + 1) := by rw [HU.out]; exact List.drop_eq_getElem_cons hil
      have HDR := Lib.hid hdrop
      have hs2 := hb2.size
      have hz2 := HSZ.out
      have HSZ2 : Hid (w1.heap.size < w2.heap.size) := Lib.hid (by omega)
      have HBX2 := Lib.hid (HBX.out.below hb2)
      have HIV2 := Lib.hid (IsV.keep (Kept.below hb2) _ HIV.out)
      have hcw : ∀ j, w2.cell? ⟨b, j, none⟩ = w.cell? ⟨b, j, none⟩ := fun j => HB2.out.cell (p := ⟨b, j, none⟩) HBS.out
      have hcw2 : ∀ j, wr.cell? ⟨b, j, none⟩ = w.cell? ⟨b, j, none⟩ := fun j => HB.out.cell (p := ⟨b, j, none⟩) HBS.out
      have k0 := (hcw (o + i * 6)).trans ((hcw2 _).symm.trans g0)
      have k1 := (hcw (o + i * 6 + 1)).trans ((hcw2 _).symm.trans g1)
      have k2 := (hcw (o + i * 6 + 2)).trans ((hcw2 _).symm.trans g2)
      have k3 := (hcw (o + i * 6 + 3)).trans ((hcw2 _).symm.trans g3)
      have k4 := (hcw (o + i * 6 + 4)).trans ((hcw2 _).symm.trans g4)
      have k5 := (hcw (o + i * 6 + 5)).trans ((hcw2 _).symm.trans g5)
      obtain ⟨bb, hbb⟩ : ∃ bb, bb = emptyB u := ⟨_, rfl⟩
      rw [← hbb]
      have HBB := Lib.hid hbb
      clear hbb hb2 hdrop hs2 hz2 hcw hcw2 g0 g1 g2 g3 g4 g5 HCALL
      cases bb with
      | true =>
        go_wp2_with fail
        go_roundg i
        case measure => exact Nat.lt_succ_self i
        case rel =>
          have hp : pickV (l.drop i) = pickV (l.drop (i + 1)) := by rw [HDR.out, pickV, if_pos HBB.out.symm]
          have hf : ((l.drop i).filter fun v => !emptyB v) = (l.drop (i + 1)).filter fun v => !emptyB v := by rw [HDR.out, List.filter_cons, ← HBB.out]; rfl
          refine ⟨i, kv, lv, rfl, by omega, by simp, by rw [hf], HB2, HSZ2, Lib.hid ?_, Lib.hid ?_⟩
          · rw [hp]; exact HBX2.out
          · rw [hp]; exact HIV2.out
      | false =>
        obtain ⟨q, hq⟩ : ∃ q, q = ((l.drop (i + 1)).filter fun v => !emptyB v).length := ⟨_, rfl⟩
        have hqb : (q : Int) ≤ 60 := by
          have h1 := List.length_filter_le (fun v => !emptyB v) (l.drop (i + 1))
          rw [← hq, List.length_drop] at h1
          have := HN.out
          omega
        rw [← hq]
        have HQ := Lib.hid hq
        clear hq
        obtain ⟨d0, d1, d2, d3, d4, d5⟩ := HBX2.out.cells
        have fz : ∀ j, w2.frozen? ⟨w1.heap.size, j, none⟩ = false := fun j => by have h := HBX2.out; unfold Box6 at h; simp [World.frozen?, h]
        go_wp2_with fail
        obtain ⟨w3, hw3⟩ : ∃ w3, w3 = (((((w2.setCell ⟨w1.heap.size, 0, none⟩ (.int .i64 u.k)).setCell ⟨w1.heap.size, 1, none⟩ (.int .i64 u.n)).setCell ⟨w1.heap.size, 2, none⟩ (.float .f64 u.r)).setCell ⟨w1.heap.size, 3, none⟩ (.string u.t)).setCell ⟨w1.heap.size, 4, none⟩ (.slice Ak u.ks.length ck)).setCell ⟨w1.heap.size, 5, none⟩ (.slice Al u.l.length cl) := ⟨_, rfl⟩
        rw [← hw3]
        obtain ⟨hb3, ho3, hl3⟩ := set6 HBX2.out _ _ _ _ _ _ hw3
        have HW3 := Lib.hid (And.intro hb3 (And.intro ho3 hl3))
        clear hw3 hb3 ho3 hl3
        go_roundg i
        case measure => exact Nat.lt_succ_self i
        case rel =>
          obtain ⟨hb3, ho3, hl3⟩ := HW3.out
          have hp : pickV (l.drop i) = u := by rw [HDR.out, pickV, if_neg (by rw [← HBB.out]; simp)]
          have hf : ((l.drop i).filter fun v => !emptyB v) = u :: (l.drop (i + 1)).filter fun v => !emptyB v := by rw [HDR.out, List.filter_cons, ← HBB.out]; rfl
          have hbw := HB1.out.size
          have hb3' : Below w.heap.size w w3 := HB2.out.trans (hl3.mono hbw)
          refine ⟨i, .slice Ak u.ks.length ck, .slice Al u.l.length cl, rfl, by omega, by simp, by rw [hf, List.length_cons, ← HQ.out]; simp, Lib.hid hb3', Lib.hid (Nat.lt_of_lt_of_le HSZ2.out hl3.size), Lib.hid ?_, Lib.hid ?_⟩
          · rw [hp]; exact hb3
          · rw [hp]; exact IsV.keep (Kept.below hb3') _ HI.out
end Go.Proofs.Ytlkfdjnkkooofaa.Vals
