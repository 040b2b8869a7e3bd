/- Walk of the law FnConcat: it answers true. -/
import Derived.Test.YtlkfdjnkkooofaaValC
import Derived.Test.YtlkfdjnkkooofaaValA
namespace Go.Proofs.Ytlkfdjnkkooofaa.Vals
open Go.RowKit Go.Proofs.YtlkfdjnkkooofaaW.PrintWords
set_option linter.unusedVariables false
set_option maxRecDepth 20000

theorem flat_bound : ∀ (L : List (List V)) (i : Nat), (∀ j (h : j < L.length), j < i → L[j].length ≤ 60) → (L.take i).flatten.length ≤ 60 * i
  | L, 0, _ => by simp
  | [], i + 1, _ => by simp
  | l :: L, i + 1, h => by
    have h0 := h 0 (by simp) (by omega)
    have ih := flat_bound L i fun j hj hji => by have := h (j + 1) (by simpa using hj) (by omega); simpa using this
    rw [List.take_succ_cons, List.flatten_cons, List.length_append]
    simp at h0
    omega
set_option maxHeartbeats 3000000 in
theorem fnConcat_walk (A : Option Addr) (c : Nat) (L : List (List V)) (hs : List Value) (P : Nat → Prop) (w : World) (hl : RowIs w P 1 (.slice A L.length c) L.length hs) (hv : IsLs w P L hs) :
    Calls Try.prog 7 #[.slice A L.length c] w fun e w' => e = .returned (.bool true) ∧ Below w.heap.size w w' := by
  obtain ⟨i0, hi0, hz0, hz1, hz2⟩ := info_parts valueInfo
  have HRW : Hid (∀ W, Below w.heap.size w W → RowIs W P 1 (.slice A L.length c) L.length hs ∧ IsLs W P L hs) := Lib.hid fun W hW => ⟨hl.keep (by omega) (Kept.below hW), hv.keep (Kept.below hW)⟩
  have hel : ∀ i (hi : i < L.length), ∃ b o A' c' xs, A = some ⟨b, o, none⟩ ∧ b < w.heap.size ∧ w.cell? ⟨b, o + i, none⟩ = some (.slice A' L[i].length c') ∧ RowIs w P 6 (.slice A' L[i].length c') L[i].length xs ∧ IsVs w P L[i] xs := fun i hi => by
    obtain ⟨b, o, hA, _, hc⟩ := hl.elem (by omega)
    have hi2 : i < hs.length := by have := hv.1; omega
    obtain ⟨A', c', xs, h1, h2, h3⟩ := hv.2 i hi hi2
    have := hc i _ (List.getElem?_eq_getElem hi2)
    rw [h1] at this
    exact ⟨b, o, A', c', xs, hA, World.block_lt_of_cell? w _ this, this, h2, h3⟩
  have HEL := Lib.hid hel
  obtain ⟨hnc, hcm⟩ := hl.sizes
  unfold maxLen at hcm
  clear hl hv hel
  obtain ⟨n, hn⟩ : ∃ n, n = L.length := ⟨_, rfl⟩
  rw [← hn] at hnc HRW ⊢
  have HN := Lib.hid hn
  clear hn
  obtain ⟨B, hB⟩ : ∃ B, B = w.heap.size := ⟨_, rfl⟩
  have HB := Lib.hid hB
  clear hB
  go_enter Try.func7, Try.ntmps7
  by_cases hbig : n > 2147483647
  · go_wp2_with fail
    go_ret
    exact ⟨rfl, Below.refl _ _⟩
  go_wp2_with fail
  go_loopg [3, 4] n (fun kq v3 v4 wr => ∃ (i k : Nat) (G : Option Addr) (cap : Nat) (ys : List Value), v3 = .slice G k cap ∧ v4 = .int .i64 (i : Int) ∧ i + kq = n ∧ Hid (k = (L.take i).flatten.length) ∧ Hid (0 < i → n ≤ 20) ∧
    Hid (∀ j (h : j < L.length), j < i → Rights L[j] 8 ∧ L[j].length ≤ 60) ∧
    Hid (wr.ownsRow B 26 6 (.slice G k cap) k ys) ∧ Hid (IsVs w P (L.take i).flatten ys) ∧ Hid (Below B w wr))
  case atStart => exact ⟨0, 0, none, 0, [], rfl, rfl, by omega, Lib.hid rfl, Lib.hid (by omega), Lib.hid (fun j _ hj => by omega), Lib.hid (World.ownsRow_nil _ _ _ _), Lib.hid (by show IsVs w P [] []; unfold IsVs; rfl), Lib.hid (Below.refl _ _)⟩
  case round =>
    obtain ⟨i, k, G, cap, ys, rfl, rfl, hik, HK, H20, HRR, H1, H2, H3⟩ := hrel
    cases gk with
    | zero =>
      have hi : ¬ i < n := by omega
      have hin : i = n := by omega
      have hiL : i = L.length := by rw [hin]; exact HN.out
      have hr : ∀ i (h : i < L.length), Rights L[i] 8 ∧ L[i].length ≤ 60 := fun j hj => HRR.out j hj (by omega)
      have h20 : L.length ≤ 20 := by
        rcases Nat.eq_zero_or_pos i with h | h
        · omega
        · have := H20.out h; have := HN.out; omega
      have hbd : L.flatten.length ≤ 100000 := by
        have := flat_bound L L.length fun j hj _ => (hr j hj).2
        rw [List.take_length] at this; omega
      have hbw : Below w.heap.size w wr := by rw [← HB.out]; exact H3.out
      have hc1 := implConcat_walk L hr h20 hbd A c hs P wr (by rw [← HN.out]; exact (HRW.out wr hbw).1) (HRW.out wr hbw).2
      have hrf : Rights L.flatten 8 := Rights.mk fun q hq => by
        obtain ⟨l, hl1, hl2⟩ := List.mem_flatten.1 (List.getElem_mem hq)
        obtain ⟨j, hj, rfl⟩ := List.mem_iff_getElem.1 hl1
        obtain ⟨s, hs, e⟩ := List.mem_iff_getElem.1 hl2
        rw [← e]; exact (hr j hj).1.at_ s hs
      rw [← HN.out] at hc1
      have hk := HK.out
      have h2 := H2.out
      rw [hiL, List.take_length] at hk h2
      obtain ⟨m, hm⟩ : ∃ m, m = L.flatten := ⟨_, rfl⟩
      rw [← hm] at hc1 hrf hk h2
      have HC1 := Lib.hid hc1
      have HRF := Lib.hid hrf
      have HKM := Lib.hid hk
      have HV2 := Lib.hid h2
      have HBW := Lib.hid hbw
      clear hik hiL hin hr h20 hbd hbw hc1 hrf hk h2 hm
      go_wp2_with fail
      refine (HC1.out).mono ?_
      rintro e w2 ⟨A1, c1, us, rfl, HX, HB2⟩
      have HB2' := Lib.hid (HBW.out.trans (HB2.out.mono HBW.out.size))
      have hrow : RowIs w2 (fun _ => True) 6 (.slice G k cap) k ys := (RowIs.of_own (P := fun _ => True) H1.out (fun _ _ => trivial)).keep (by omega) (Kept.below HB2.out)
      have hsl := sameList_walk (norms m) m A1 G c1 cap us ys (fun b => wr.heap.size ≤ b) (fun _ => True) w2 (by rw [norms_len]; exact HX.out.1) HX.out.2 (by rw [← HKM.out]; exact hrow) (IsVs.keep ((Kept.below HB2'.out).trans (Kept.mono fun _ _ _ => trivial)) _ HV2.out)
      rw [norms_len, samesB_yes (sames_of HRF.out), ← HKM.out] at hsl
      rw [← HKM.out]
      have HS := Lib.hid hsl
      clear hsl hrow
      go_wp2_with fail
      refine (HS.out).mono ?_
      rintro e w4 ⟨b, rfl, hb, hb4⟩
      obtain rfl := hb.out
      have HB4 := Lib.hid (HB2'.out.trans (hb4.mono HB2'.out.size))
      clear hb4 hb
      go_wp2_with fail
      go_ret
      exact ⟨rfl, HB4.out⟩
    | succ mm =>
      have hi : i < n := by omega
      have hbw : Below w.heap.size w wr := by rw [← HB.out]; exact H3.out
      have HBW := Lib.hid hbw
      by_cases h20 : n > 20
      · clear hbw
        go_wp2_with fail
        go_ret
        exact ⟨rfl, HBW.out⟩
      have hi' : i < L.length := by have := HN.out; omega
      obtain ⟨b, o, A', c', us, hA, hbs, e0, hrow, hvs⟩ := HEL.out i hi'
      subst hA
      obtain ⟨l, hl⟩ : ∃ l, l = L[i] := ⟨_, rfl⟩
      rw [← hl] at e0 hrow hvs
      have g0 := (hbw.cell (p := ⟨b, o + i, none⟩) hbs).trans e0
      obtain ⟨hmc, hmm⟩ := hrow.sizes
      unfold maxLen at hmm
      have har := allRight_walk l A' c' us P wr (hrow.keep (by omega) (Kept.below hbw)) (IsVs.keep (Kept.below hbw) l hvs)
      obtain ⟨m, hm⟩ : ∃ m, m = l.length := ⟨_, rfl⟩
      rw [← hm] at g0 hmc har hrow
      have hkb : k ≤ 60 * i := by rw [HK.out]; exact flat_bound L i fun j hj hji => (HRR.out j hj hji).2
      have HAR := Lib.hid har
      have HROW := Lib.hid hrow
      have HVS := Lib.hid hvs
      have HL := Lib.hid hl
      have HM := Lib.hid hm
      have HIK := Lib.hid hik
      have hii0 : (0 : Int) ≤ (i : Int) := by omega
      have hiin : (i : Int) < (n : Int) := by omega
      clear hbw hl hm hik e0 hrow hvs har
      go_wp2_with fail
      refine (HAR.out).mono ?_
      rintro e w1 ⟨bb, rfl, HR, hb1⟩
      have HB1 := Lib.hid (HBW.out.trans (hb1.mono HBW.out.size))
      cases bb with
      | false =>
        clear hb1
        go_wp2_with fail
        go_ret
        exact ⟨rfl, HB1.out⟩
      | true =>
      have hsz := HBW.out.size
      have k0 := (hb1.cell (p := ⟨b, o + i, none⟩) (by show b < wr.heap.size; omega)).trans g0
      have HOWN : Hid (w1.ownsRow B 26 6 (.slice G k cap) k ys) := Lib.hid (H1.out.kept (grown_of_below hb1 none) (by cases G <;> simp [Value.ownBlock]))
      have hm60 := (HR.out rfl).2
      rw [HL.out] at HR
      have HRI := Lib.hid (HR.out rfl)
      have HR1 : Hid (RowIs w1 P 6 (.slice A' m c') m us) := Lib.hid (HROW.out.keep (by omega) (Kept.below HB1.out))
      have HONE := Lib.hid (IsVs.one HVS.out)
      have HC5 : Hid (B ≤ w1.heap.size) := Lib.hid (by have := HB1.out.size; have := HB.out; omega)
      have hm6 : m ≤ 60 := hm60
      clear hb1 hsz g0 HR hm60
      go_wp2_with (at_builtin; refine wpList_append_row _ rfl _ _ 24 rfl B 26 i0 _ 6 88 Try.underlying24 hi0 hz0 hz1 hz2 rfl (by decide) (.slice G k cap) k ys rfl HOWN.out P A' m c' us rfl HR1.out HONE.out (by unfold maxLen; omega) (by omega) HC5.out ?_; intro G2 cap2 w3 hown2 hgrow hat; refine Hid.out ?_)
      refine Lib.hid ?_
      have HO2 := Lib.hid hown2
      have hb3 : Below B w w3 := (by rw [HB.out]; exact HB1.out : Below B w w1).grown hgrow HC5.out (fun j hj => (HOWN.out.lt j hj).1)
      have HB3 := Lib.hid hb3
      clear hown2 hgrow hat hb3
      go_wp2_with fail
      go_roundg mm
      case measure => exact Nat.lt_succ_self mm
      case rel =>
        have e : (L.take (i + 1)).flatten = (L.take i).flatten ++ l := by rw [flat_take_succ hi', ← HL.out]
        refine ⟨i + 1, k + m, G2, cap2, ys ++ us, rfl, by simp, by have := HIK.out; omega, Lib.hid (by rw [e, List.length_append, ← HK.out, ← HM.out]), Lib.hid (fun _ => by omega), Lib.hid (fun j hj hji => ?_), HO2, Lib.hid (by rw [e]; exact IsVs.append H2.out HVS.out), HB3⟩
        by_cases ej : j = i
        · subst ej; exact ⟨HRI.out.1, by rw [← HL.out, ← HM.out]; exact HRI.out.2⟩
        · exact HRR.out j hj (by omega)
end Go.Proofs.Ytlkfdjnkkooofaa.Vals
