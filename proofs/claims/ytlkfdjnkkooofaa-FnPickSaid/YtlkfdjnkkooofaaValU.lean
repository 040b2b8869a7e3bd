/- Walks of sprig.inList, sprig.Uniq, impl.Uniq, spec.Uniq: each value of a list once. -/
import Derived.Test.YtlkfdjnkkooofaaValH
namespace Go.Proofs.Ytlkfdjnkkooofaa.Vals
open Go.RowKit Go.Proofs.YtlkfdjnkkooofaaW.PrintWords Go.Proofs.Ytlkfdjnkkooofaa.Txt
set_option linter.unusedVariables false
set_option maxRecDepth 20000

/-- One value more, if it isn't there. -/
noncomputable def uniqStep (m : List V) (v : V) : List V := if hasB v m = true then m else m ++ [v]
/-- Each value once, where it stands first. -/
noncomputable def uniqV (l : List V) : List V := l.foldl uniqStep []
theorem uniqV_snoc (l : List V) (v : V) : uniqV (l ++ [v]) = uniqStep (uniqV l) v := by unfold uniqV; rw [List.foldl_append]; rfl
theorem uniqV_mem : ∀ (N : Nat) (l : List V), l.length < N → ∀ v ∈ uniqV l, v ∈ l := by
  intro N
  induction N with
  | zero => intro l h; omega
  | succ N ih =>
    intro l hN v hv
    rcases List.eq_nil_or_concat l with rfl | ⟨r, u, rfl⟩
    · exact hv
    · rw [List.concat_eq_append] at hv hN ⊢
      rw [uniqV_snoc] at hv
      have hr := ih r (by rw [List.length_append, List.length_singleton] at hN; omega)
      unfold uniqStep at hv
      split at hv
      · exact List.mem_append_left _ (hr v hv)
      · rcases List.mem_append.1 hv with hv | hv
        · exact List.mem_append_left _ (hr v hv)
        · exact List.mem_append_right _ hv
theorem Rights.uniq {l : List V} {d : Int} (h : Rights l d) : Rights (uniqV l) d := Rights.mk fun i hi => by
  obtain ⟨j, hj, e⟩ := List.mem_iff_getElem.1 (uniqV_mem _ l (Nat.lt_succ_self _) _ (List.getElem_mem hi))
  rw [← e]; exact h.at_ j hj
theorem uniqV_len (l : List V) (i : Nat) : (uniqV (l.take i)).length ≤ i := by
  induction i with
  | zero => simp [uniqV]
  | succ i ih =>
    rw [List.take_add_one]
    cases h : l[i]? with
    | none => simp only [Option.toList_none, List.append_nil]; omega
    | some v =>
      simp only [Option.toList_some]
      rw [uniqV_snoc]
      unfold uniqStep
      split
      · omega
      · rw [List.length_append, List.length_singleton]; omega

set_option maxHeartbeats 2000000 in
theorem inList_walk (v : V) (x : Value) (d : Int) (l : List V) (A : Option Addr) (c : Nat) (xs : List Value) (P P' Q : Nat → Prop) (w : World) (hrv : Right v d) (hr : Rights l 8) (hg : GoV w Q v x) (h3 : l.length ≤ 100000)
    (hl : RowIs w P' 1 (.slice A l.length c) l.length xs) (hv : GoVs w P l xs) :
    Calls Try.prog 100 #[.slice A l.length c, x] w (TheBool (hasB v l) fun w' => Below w.heap.size w w') := by
  have hel : ∀ i (hi : i < l.length), ∃ b o y, A = some ⟨b, o, none⟩ ∧ b < w.heap.size ∧ GoV w P l[i] y ∧ w.cell? ⟨b, o + i, none⟩ = some y := fun i hi => by
    obtain ⟨b, o, hA, _, hc⟩ := hl.elem (by omega)
    obtain ⟨x, hx, hg⟩ := hv.at_ i hi
    have := hc i x hx
    exact ⟨b, o, x, hA, World.block_lt_of_cell? w _ this, hg, this⟩
  have HEL := Lib.hid hel
  have HR := Lib.hid (And.intro hrv hr)
  have HG := Lib.hid hg
  obtain ⟨hnc, hcm⟩ := hl.sizes
  unfold maxLen at hcm
  clear hl hv hel hrv hr hg
  obtain ⟨n, hn⟩ : ∃ n, n = l.length := ⟨_, rfl⟩
  rw [← hn] at hnc h3 ⊢
  have HN := Lib.hid hn
  clear hn
  go_enter Try.func100, Try.ntmps100
  go_wp2_with fail
  go_loopg [6, 9] n (fun kq v6 v9 wr => ∃ (i : Nat) (z : Value), v6 = z ∧ v9 = .int .i64 (i : Int) ∧ i + kq = n ∧ Hid (Below w.heap.size w wr) ∧ Hid (∀ j (h : j < l.length), j < i → ¬ SameP v l[j]))
  case atStart => exact ⟨0, _, rfl, rfl, by omega, Lib.hid (Below.refl _ _), Lib.hid (fun j _ hj => by omega)⟩
  case round =>
    obtain ⟨i, z, rfl, rfl, hik, H1, H2⟩ := hrel
    cases gk with
    | zero =>
      have hi : ¬ i < n := by omega
      have HIN := Lib.hid hik
      clear hik
      go_wp2_with fail
      go_ret
      exact ⟨_, rfl, Lib.hid (hasB_no fun ⟨j, hj, hs⟩ => H2.out j hj (by have := HIN.out; have := HN.out; omega) hs), H1.out⟩
    | succ mm =>
      have hi : i < n := by omega
      have hi' : i < l.length := by have := HN.out; omega
      obtain ⟨b, o, y, hA, hbs, hgy, e0⟩ := HEL.out i hi'
      subst hA
      have hrl := HR.out.2.at_ i hi'
      obtain ⟨u, hu⟩ : ∃ u, u = l[i] := ⟨_, rfl⟩
      rw [← hu] at hgy hrl
      have g0 := (H1.out.cell (p := ⟨b, o + i, none⟩) hbs).trans e0
      have HC := Lib.hid (zzEqual_walk v u d 8 x y Q P wr HR.out.1 hrl (GoV.keep (Kept.below H1.out) v HG.out) (GoV.keep (Kept.below H1.out) u hgy))
      have HU := Lib.hid hu
      have HIK := Lib.hid hik
      clear hrl hu hgy e0 hik
      go_wp2_with fail
      refine (HC.out).mono ?_
      rintro e w2 ⟨r, rfl, HRR, hb2⟩
      have HB2 := Lib.hid (H1.out.trans (hb2.mono H1.out.size))
      clear hb2
      cases r with
      | true =>
        go_wp2_with fail
        go_ret
        exact ⟨_, rfl, Lib.hid (hasB_yes ⟨i, hi', by rw [← HU.out]; exact sameB_iff.1 HRR.out⟩), HB2.out⟩
      | false =>
        go_wp2_with fail
        go_roundg mm
        case measure => exact Nat.lt_succ_self mm
        case rel =>
          refine ⟨i + 1, _, rfl, by simp, by have := HIK.out; omega, HB2, Lib.hid (fun j hj hji => ?_)⟩
          by_cases e : j = i
          · subst e
            rw [← HU.out]; exact sameB_false HRR.out
          · exact H2.out j hj (by omega)

/-- A list that a function of lists hands back, and no error. -/
def GoLRes (m : List V) (w : World) (e : Ending) (w' : World) : Prop := ∃ A c ys, e = .returned (.tuple #[.slice A m.length c, .nilIface]) ∧
  Hid (RowIs w' (fun _ => True) 1 (.slice A m.length c) m.length ys ∧ GoVs w' (fun _ => True) m ys) ∧ Hid (Below w.heap.size w w')

set_option maxHeartbeats 4000000 in
theorem mustUniq_walk (l : List V) (a : Addr) (c : Nat) (xs : List Value) (P : Nat → Prop) (w : World) (hr : Rights l 8) (h3 : l.length ≤ 100000)
    (hl : RowIs w P 1 (.slice (some a) l.length c) l.length xs) (hv : GoVs w P l xs) :
    Calls Try.prog 87 #[.iface 64 (.slice (some a) l.length c)] w (GoLRes (uniqV l) w) := by
  obtain ⟨i0, hi0, hz0, hz1, hz2⟩ := info_parts ifaceInfo
  have hel : ∀ i (hi : i < l.length), ∃ b o y, a = ⟨b, o, none⟩ ∧ b < w.heap.size ∧ GoV w P l[i] y ∧ w.cell? ⟨b, o + i, none⟩ = some y := fun i hi => by
    obtain ⟨b, o, hA, hb, hc⟩ := hl.cell1 (by omega)
    obtain ⟨x, hx, hg⟩ := hv.at_ i hi
    exact ⟨b, o, x, hA, hb, hg, hc i x hx⟩
  have HEL := Lib.hid hel
  have HR := Lib.hid hr
  obtain ⟨hnc, hcm⟩ := hl.sizes
  unfold maxLen at hcm
  clear hl hv hel hr
  obtain ⟨n, hn⟩ : ∃ n, n = l.length := ⟨_, rfl⟩
  rw [← hn] at hnc h3 ⊢
  have HN := Lib.hid hn
  clear hn
  have hz := zzList_walk a n c
  go_enter Try.func87, Try.ntmps87
  go_wp2_with (go_at_call 94; refine (hz _).mono ?_; rintro e w' ⟨rfl, hw'⟩; subst w')
  obtain ⟨B, hB⟩ : ∃ B, B = w.heap.size := ⟨_, rfl⟩
  have hstart : (w.alloc (.cells #[] 20)).ownsRow B 20 1 (.slice (some ⟨w.heap.size, 0, none⟩) 0 0) 0 [] := World.ownsRow_made w #[] 0 (by omega) (by unfold maxLen; omega) rfl
  have HST := Lib.hid hstart
  have HB := Lib.hid hB
  clear hstart hB
  go_loopg [7, 8, 9] n (fun kq v7 v8 v9 wr => ∃ (i k g cap : Nat) (z : Value) (ys : List Value), v7 = .slice (some ⟨g, 0, none⟩) k cap ∧ v8 = z ∧ v9 = .int .i64 (i : Int) ∧ i + kq = n ∧ Hid (k = (uniqV (l.take i)).length) ∧
    Hid (wr.ownsRow B 20 1 (.slice (some ⟨g, 0, none⟩) k cap) k ys) ∧ Hid (GoVs w P (uniqV (l.take i)) ys) ∧ Hid (Below B w wr))
  case atStart => exact ⟨0, 0, _, _, _, [], rfl, rfl, rfl, by omega, Lib.hid rfl, HST, Lib.hid (by show GoVs w P [] []; unfold GoVs; rfl), Lib.hid ((Below.refl _ _).alloc (by rw [HB.out]; exact Nat.le_refl _) _)⟩
  case round =>
    obtain ⟨i, k, g, cap, z, ys, rfl, rfl, rfl, hik, HK, H1, H2, H3⟩ := hrel
    cases gk with
    | zero =>
      have hi : ¬ i < n := by omega
      have HIN := Lib.hid hik
      clear hik
      go_wp2_with fail
      go_ret2
      have hin : i = l.length := by have := HN.out; have := HIN.out; omega
      have h := RowIs.of_own (P := fun _ => True) H1.out (fun _ _ => trivial)
      have h2 := H2.out
      have hk := HK.out
      rw [hin, List.take_length] at h2 hk
      rw [HB.out] at H3
      exact ⟨some ⟨g, 0, none⟩, cap, ys, by rw [hk]; rfl, Lib.hid ⟨by rw [← hk]; exact h, GoVs.keep ((Kept.below H3.out).trans (Kept.mono fun _ _ _ => trivial)) _ h2⟩, H3⟩
    | succ mm =>
      have hi : i < n := by omega
      have hi' : i < l.length := by have := HN.out; omega
      obtain ⟨b, o, x, hA, hbs, hgx, e0⟩ := HEL.out i hi'
      subst hA
      have hrl := HR.out.at_ i hi'
      obtain ⟨u, hu⟩ : ∃ u, u = l[i] := ⟨_, rfl⟩
      rw [← hu] at hgx hrl
      have hbw : Below w.heap.size w wr := by rw [← HB.out]; exact H3.out
      have g0 := (hbw.cell (p := ⟨b, o + i, none⟩) hbs).trans e0
      have hki : k ≤ i := by rw [HK.out]; exact uniqV_len l i
      have hcall := inList_walk u x 8 (uniqV (l.take i)) (some ⟨g, 0, none⟩) cap ys P (fun _ => True) P wr hrl (Rights.uniq (Rights.mk fun j hj => by rw [List.getElem_take]; exact HR.out.at_ _ _)) (GoV.keep (Kept.below hbw) u hgx) (by rw [← HK.out]; omega)
        (by rw [← HK.out]; exact RowIs.of_own H1.out (fun _ _ => trivial)) (GoVs.keep (Kept.below hbw) _ H2.out)
      rw [← HK.out] at hcall
      have HC := Lib.hid hcall
      have HGX := Lib.hid hgx
      have HU := Lib.hid hu
      have HIK := Lib.hid hik
      have HBW := Lib.hid hbw
      clear hrl hu hgx e0 hik hcall hbw
      go_wp2_with fail
      refine (HC.out).mono ?_
      rintro e w2 ⟨r, rfl, HRR, hb2⟩
      have HB2 := Lib.hid (H3.out.trans (hb2.mono (by have := HB.out; have := HBW.out.size; omega)))
      have HOWN : Hid (w2.ownsRow B 20 1 (.slice (some ⟨g, 0, none⟩) k cap) k ys) := Lib.hid (H1.out.kept (grown_of_below hb2 none) (.inr (by simp [Value.ownBlock])))
      have HTK : Hid (uniqV (l.take (i + 1)) = uniqStep (uniqV (l.take i)) u) := Lib.hid (by
        rw [List.take_add_one, List.getElem?_eq_getElem hi', ← HU.out]
        simp only [Option.toList]
        rw [uniqV_snoc])
      clear hb2
      cases r with
      | true =>
        go_wp2_with fail
        go_roundg mm
        case measure => exact Nat.lt_succ_self mm
        case rel =>
          have e : uniqV (l.take (i + 1)) = uniqV (l.take i) := by rw [HTK.out]; unfold uniqStep; rw [if_pos HRR.out]
          exact ⟨i + 1, k, g, cap, _, ys, rfl, rfl, by simp, by have := HIK.out; omega, Lib.hid (by rw [e]; exact HK.out), HOWN, Lib.hid (by rw [e]; exact H2.out), HB2⟩
      | false =>
        have hone := HGX.out.one
        have HONE := Lib.hid hone
        have hcx := cells_one hone
        unfold Value.cells at hcx
        clear hone
        have hc5 : B ≤ (w2.alloc (.cells #[x] 20)).heap.size := by have := HB2.out.size; have := HB.out; simp; omega
        have HC5 := Lib.hid hc5
        clear hc5
        go_wp2_with (at_builtin; refine wpList_append_lies _ rfl _ _ 64 rfl B 20 i0 .nilIface 1 16 Try.underlying64 hi0 hz0 hz1 hz2 rfl (by decide) (.slice (some ⟨g, 0, none⟩) k cap) k ys rfl (HOWN.out.alloc _) ⟨w2.heap.size, 0, none⟩ 1 1 [x] rfl rfl (news_one _ _ _) (one_mem HONE.out) (by decide) (by unfold maxLen; omega) (by omega) HC5.out _ rfl ?_; intro g' cap' w3 hown2 hgrow hat hlt; refine Hid.out ?_)
        refine Lib.hid ?_
        clear hcx
        have HO2 := Lib.hid hown2
        have hb3 : Below B w w3 := (HB2.out.alloc (by have := HB.out; have := HB2.out.size; omega) _).grown hgrow (by have := HB.out; have := HB2.out.size; simp; omega) (fun j hj => (HOWN.out.lt j hj).1)
        have HB3 := Lib.hid hb3
        clear hown2 hgrow hat hlt hb3
        go_wp2_with fail
        go_roundg mm
        case measure => exact Nat.lt_succ_self mm
        case rel =>
          have e : uniqV (l.take (i + 1)) = uniqV (l.take i) ++ [u] := by rw [HTK.out]; unfold uniqStep; rw [if_neg (by rw [HRR.out]; simp)]
          exact ⟨i + 1, k + 1, g', cap', _, ys ++ [x], rfl, rfl, by simp, by have := HIK.out; omega, Lib.hid (by rw [e, List.length_append, List.length_singleton, ← HK.out]), HO2, Lib.hid (by rw [e]; exact GoVs.snoc H2.out HGX.out), HB3⟩
theorem sprigUniq_walk (l : List V) (a : Addr) (c : Nat) (xs : List Value) (P : Nat → Prop) (w : World) (hr : Rights l 8) (h3 : l.length ≤ 100000)
    (hl : RowIs w P 1 (.slice (some a) l.length c) l.length xs) (hv : GoVs w P l xs) :
    Calls Try.prog 68 #[.iface 64 (.slice (some a) l.length c)] w (GoLRes (uniqV l) w) := by
  have HM := Lib.hid (mustUniq_walk l a c xs P w hr h3 hl hv)
  obtain ⟨n, hn⟩ : ∃ n, n = l.length := ⟨_, rfl⟩
  rw [← hn] at HM ⊢
  clear hr h3 hl hv hn
  obtain ⟨m, hm⟩ : ∃ m, m = uniqV l := ⟨_, rfl⟩
  rw [← hm] at HM ⊢
  clear hm
  go_enter Try.func68, Try.ntmps68
  go_wp2_with (go_at_call 87; refine HM.out.mono ?_; rintro e w' ⟨A, c, ys, rfl, H1, H2⟩)
  go_ret2
  exact ⟨A, c, ys, rfl, H1, H2⟩

theorem Rights.fines {l : List V} {d : Int} {w : World} {P : Nat → Prop} (hr : Rights l d) (hv : Fines l) : Fines (uniqV l) := Fines.mk fun i hi => by
  obtain ⟨j, hj, e⟩ := List.mem_iff_getElem.1 (uniqV_mem _ l (Nat.lt_succ_self _) _ (List.getElem_mem hi))
  rw [← e]; exact hv.at_ j hj
theorem uniqV_le (l : List V) : (uniqV l).length ≤ l.length := by have := uniqV_len l l.length; rw [List.take_length] at this; exact this
set_option maxHeartbeats 4000000 in
theorem implUniq_walk (l : List V) (hr : Rights l 8) (h60 : l.length ≤ 60) (A : Option Addr) (c : Nat) (xs : List Value) (P : Nat → Prop) (w : World) (hl : RowIs w P 6 (.slice A l.length c) l.length xs) (hv : IsVs w P l xs) :
    Calls Try.prog 37 #[.slice A l.length c] w (ListRes (uniqV l) w) := by
  have HFS := Lib.hid (Rights.fines (w := w) (P := P) hr (fines_of hr hl hv))
  have HGL := Lib.hid (goList_walk l (by omega) (fun i h => ⟨8, hr.at_ i h⟩) A c xs P w hl hv)
  have hnn := nil_nil
  obtain ⟨n, hn⟩ : ∃ n, n = l.length := ⟨_, rfl⟩
  obtain ⟨ls, hls⟩ : ∃ ls, ls = uniqV l := ⟨_, rfl⟩
  have hlsl : ls.length ≤ 60 := by rw [hls]; have := uniqV_le l; omega
  have HLT : Hid (∀ (a : Addr) (cap : Nat) (ys : List Value) (W : World), RowIs W (fun b => w.heap.size ≤ b) 1 (.slice (some a) l.length cap) l.length ys → GoVs W (fun b => w.heap.size ≤ b) l ys → Calls Try.prog 68 #[.iface 64 (.slice (some a) l.length cap)] W (GoLRes (uniqV l) W)) :=
    Lib.hid fun a cap ys W h1 h2 => sprigUniq_walk l a cap ys _ W hr (by omega) h1 h2
  rw [← hls] at HFS HLT ⊢
  rw [← hn] at h60 HGL HLT ⊢
  have HN := Lib.hid (And.intro hn (And.intro hls hlsl))
  clear hr hl hv hn hls hlsl
  go_enter Try.func37, Try.ntmps37
  go_wp2_with fail
  go_enter Try.func67, Try.ntmps67
  go_wp2_with fail
  refine (HGL.out).mono ?_
  rintro e w1 ⟨a, cap, ys, rfl, HGV, HB1⟩
  rw [← HN.out.1] at HGV
  have HC1 := Lib.hid (HLT.out a cap ys w1 HGV.out.1 HGV.out.2)
  rw [← HN.out.1]
  go_wp2_with fail
  refine (HC1.out).mono ?_
  rintro e w2 ⟨A2, c2, zs, rfl, H1, H2⟩
  have hbd : Below w2.heap.size w2 w2.drew := ⟨rfl, rfl, rfl, Nat.le_refl _, fun _ _ => rfl⟩
  have hcv := valuesOf_of HFS.out (by have := HN.out.2.2; omega) A2 c2 zs _ w2.drew (H1.out.1.keep (by omega) (Kept.below hbd)) (GoVs.keep (Kept.below hbd) _ H1.out.2)
  have HC := Lib.hid hcv
  have HBW := Lib.hid (HB1.out.trans (H2.out.mono HB1.out.size))
  clear hbd hcv
  go_wp2_with fail
  go_region_law (go_simp; go_at_call 59; refine (HC.out).mono ?_; rintro e w3 ⟨A3, c3, qs, rfl, HX, HB3⟩)
  all_goals (
    go_wp2_with fail
    go_ret2
    refine ⟨A3, c3, qs, rfl, Lib.hid ⟨?_, ?_⟩, Lib.hid ((HBW.out.trans (c := w2.drew) ⟨rfl, rfl, rfl, Nat.le_refl _, fun _ _ => rfl⟩).trans (HB3.out.mono HBW.out.size))⟩
    · exact HX.out.1.keep (by omega) (Kept.mono (Q := fun b => w.heap.size ≤ b) (fun b hb _ => Nat.le_trans HBW.out.size hb))
    · exact IsVs.keep (Kept.mono (fun b hb _ => Nat.le_trans HBW.out.size hb)) _ HX.out.2)

/-- A list of values that a function of the reference hands back. -/
def SpecLRes (m : List V) (w : World) (e : Ending) (w' : World) : Prop := ∃ A c ys, e = .returned (.slice A m.length c) ∧
  Hid (RowIs w' (fun _ => True) 6 (.slice A m.length c) m.length ys ∧ IsVs w' (fun _ => True) m ys) ∧ Hid (Below w.heap.size w w')
set_option maxHeartbeats 4000000 in
theorem specUniq_walk (l : List V) (h3 : l.length ≤ 60) (A : Option Addr) (c : Nat) (xs : List Value) (P : Nat → Prop) (w : World) (hl : RowIs w P 6 (.slice A l.length c) l.length xs) (hv : IsVs w P l xs) :
    Calls Try.prog 38 #[.slice A l.length c] w (SpecLRes (uniqV l) w) := by
  obtain ⟨i0, hi0, hz0, hz1, hz2⟩ := info_parts valueInfo
  have HEL := Lib.hid (IsVs.elem hl hv)
  obtain ⟨hnc, hcm⟩ := hl.sizes
  unfold maxLen at hcm
  have hsf := store_float
  clear hl hv
  obtain ⟨n, hn⟩ : ∃ n, n = l.length := ⟨_, rfl⟩
  rw [← hn] at hnc h3 ⊢
  have HN := Lib.hid hn
  clear hn
  obtain ⟨B, hB⟩ : ∃ B, B = w.heap.size := ⟨_, rfl⟩
  have HB := Lib.hid hB
  clear hB
  go_enter Try.func38, Try.ntmps38
  go_wp2_with fail
  go_loopg [3, 4] n (fun kq v3 v4 wr => ∃ (i k : Nat) (G : Option Addr) (cap : Nat) (ys : List Value), v3 = .slice G k cap ∧ v4 = .int .i64 (i : Int) ∧ i + kq = n ∧ Hid (k = (uniqV (l.take i)).length) ∧
    Hid (wr.ownsRow B 26 6 (.slice G k cap) k ys) ∧ Hid (IsVs w P (uniqV (l.take i)) ys) ∧ Hid (Below B w wr))
  case atStart => exact ⟨0, 0, none, 0, [], rfl, rfl, by omega, Lib.hid rfl, Lib.hid (World.ownsRow_nil _ _ _ _), Lib.hid (by show IsVs w P [] []; unfold IsVs; rfl), Lib.hid (Below.refl _ _)⟩
  case round =>
    obtain ⟨i, k, G, cap, ys, rfl, rfl, hik, HK, H1, H2, H3⟩ := hrel
    cases gk with
    | zero =>
      have hi : ¬ i < n := by omega
      have HIN := Lib.hid hik
      clear hik
      go_wp2_with fail
      go_ret
      have hin : i = l.length := by have := HN.out; have := HIN.out; omega
      have h := RowIs.of_own (P := fun _ => True) H1.out (fun _ _ => trivial)
      have h2 := H2.out
      have hk := HK.out
      rw [hin, List.take_length] at h2 hk
      rw [HB.out] at H3
      exact ⟨G, cap, ys, by rw [hk]; rfl, Lib.hid ⟨by rw [← hk]; exact h, IsVs.keep ((Kept.below H3.out).trans (Kept.mono fun _ _ _ => trivial)) _ h2⟩, H3⟩
    | succ mm =>
      have hi : i < n := by omega
      have hi' : i < l.length := by have := HN.out; omega
      obtain ⟨eb, eo, ke, le, hA, hebs, _, hI, e0, e1, e2, e3, e4, e5⟩ := HEL.out i hi'
      subst hA
      obtain ⟨u, hu⟩ : ∃ u, u = l[i] := ⟨_, rfl⟩
      rw [← hu] at hI e0 e1 e2 e3
      obtain ⟨⟨Ak, ck, rfl⟩, Al, cl, rfl⟩ : (∃ A c, ke = .slice A u.ks.length c) ∧ ∃ A c, le = .slice A u.l.length c := by
        obtain ⟨xs, h1, h2, _⟩ := hI.parts
        obtain ⟨A, c, h1, _⟩ := h1.form
        obtain ⟨A', c', h2, _⟩ := h2.form
        exact ⟨⟨A, c, h1⟩, A', c', h2⟩
      have hbw : Below w.heap.size w wr := by rw [← HB.out]; exact H3.out
      have hcw : ∀ j, wr.cell? ⟨eb, j, none⟩ = w.cell? ⟨eb, j, none⟩ := fun j => hbw.cell (p := ⟨eb, j, none⟩) hebs
      have g0 := (hcw (eo + i * 6)).trans e0
      have g1 := (hcw (eo + i * 6 + 1)).trans e1
      have g2 := (hcw (eo + i * 6 + 2)).trans e2
      have g3 := (hcw (eo + i * 6 + 3)).trans e3
      have g4 := (hcw (eo + i * 6 + 4)).trans e4
      have g5 := (hcw (eo + i * 6 + 5)).trans e5
      have hki : k ≤ i := by rw [HK.out]; exact uniqV_len l i
      have hcall := specHas_walk u _ _ (uniqV (l.take i)) G cap ys (fun _ => True) P wr (IsV.keep (Kept.below hbw) _ hI) (by rw [← HK.out]; exact RowIs.of_own H1.out (fun _ _ => trivial)) (IsVs.keep ((Kept.below hbw).trans (Kept.mono fun _ _ _ => trivial)) _ H2.out)
      rw [← HK.out] at hcall
      have HC := Lib.hid hcall
      have HI := Lib.hid hI
      have HU := Lib.hid hu
      have HIK := Lib.hid hik
      have HBW := Lib.hid hbw
      have hii0 : (0 : Int) ≤ (i : Int) := by omega
      have hiin : (i : Int) < (n : Int) := by omega
      clear hu hI e0 e1 e2 e3 e4 e5 hik hcall hcw
      go_wp2_with fail
      refine (HC.out).mono ?_
      rintro e w2 ⟨r, rfl, HRR, hb2⟩
      have HB2 := Lib.hid (H3.out.trans (hb2.mono (by have := HB.out; have := HBW.out.size; omega)))
      have HOWN : Hid (w2.ownsRow B 26 6 (.slice G k cap) k ys) := Lib.hid (H1.out.kept (grown_of_below hb2 none) (by cases G <;> simp [Value.ownBlock]))
      have HTK : Hid (uniqV (l.take (i + 1)) = uniqStep (uniqV (l.take i)) u) := Lib.hid (by
        rw [List.take_add_one, List.getElem?_eq_getElem hi', ← HU.out]
        simp only [Option.toList]
        rw [uniqV_snoc])
      cases r with
      | true =>
        clear hb2 hbw g0 g1 g2 g3 g4 g5
        go_wp2_with fail
        go_roundg mm
        case measure => exact Nat.lt_succ_self mm
        case rel =>
          have e : uniqV (l.take (i + 1)) = uniqV (l.take i) := by rw [HTK.out]; unfold uniqStep; rw [if_pos HRR.out]
          exact ⟨i + 1, k, G, cap, ys, rfl, by simp, by have := HIK.out; omega, Lib.hid (by rw [e]; exact HK.out), HOWN, Lib.hid (by rw [e]; exact H2.out), HB2⟩
      | false =>
        have hsz := hbw.size
        have hcv : ∀ j, w2.cell? ⟨eb, j, none⟩ = wr.cell? ⟨eb, j, none⟩ := fun j => hb2.cell (p := ⟨eb, j, none⟩) (by show eb < wr.heap.size; omega)
        have k0 := (hcv (eo + i * 6)).trans g0
        have k1 := (hcv (eo + i * 6 + 1)).trans g1
        have k2 := (hcv (eo + i * 6 + 2)).trans g2
        have k3 := (hcv (eo + i * 6 + 3)).trans g3
        have k4 := (hcv (eo + i * 6 + 4)).trans g4
        have k5 := (hcv (eo + i * 6 + 5)).trans g5
        have HONE := Lib.hid HI.out.one
        have hc5 : B ≤ (w2.alloc (.cells #[.int .i64 u.k, .int .i64 u.n, .float .f64 u.r, .string u.t, .slice Ak u.ks.length ck, .slice Al u.l.length cl] 26)).heap.size := by have := HB2.out.size; have := HB.out; simp; omega
        have HC5 := Lib.hid hc5
        clear hc5 hsz hcv hb2 hbw g0 g1 g2 g3 g4 g5
        go_wp2_with (at_builtin; refine wpList_append_lies _ rfl _ _ 24 rfl B 26 i0 _ 6 88 Try.underlying24 hi0 hz0 hz1 hz2 rfl (by decide) (.slice G k cap) k ys rfl (HOWN.out.alloc _) ⟨w2.heap.size, 0, none⟩ 1 1 [.int .i64 u.k, .int .i64 u.n, .float .f64 u.r, .string u.t, .slice Ak u.ks.length ck, .slice Al u.l.length cl] rfl rfl (news_cells _ _ _) HONE.out (by decide) (by unfold maxLen; omega) (by omega) HC5.out _ rfl ?_; intro g' cap' w3 hown2 hgrow hat hlt; refine Hid.out ?_)
        refine Lib.hid ?_
        have HO2 := Lib.hid hown2
        have hb3 : Below B w w3 := (HB2.out.alloc (by have := HB.out; have := HB2.out.size; omega) _).grown hgrow (by have := HB.out; have := HB2.out.size; simp; omega) (fun j hj => (HOWN.out.lt j hj).1)
        have HB3 := Lib.hid hb3
        clear hown2 hgrow hat hlt hb3
        go_wp2_with fail
        go_roundg mm
        case measure => exact Nat.lt_succ_self mm
        case rel =>
          have e : uniqV (l.take (i + 1)) = uniqV (l.take i) ++ [u] := by rw [HTK.out]; unfold uniqStep; rw [if_neg (by rw [HRR.out]; simp)]
          exact ⟨i + 1, k + 1, some ⟨g', 0, none⟩, cap', ys ++ [.int .i64 u.k, .int .i64 u.n, .float .f64 u.r, .string u.t, .slice Ak u.ks.length ck, .slice Al u.l.length cl], rfl, by simp, by have := HIK.out; omega, Lib.hid (by rw [e, List.length_append, List.length_singleton, ← HK.out]), HO2, Lib.hid (by rw [e]; exact IsVs.snoc H2.out HI.out), HB3⟩
end Go.Proofs.Ytlkfdjnkkooofaa.Vals
