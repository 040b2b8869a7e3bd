/- FnSplitn: the law's walk. -/
import Derived.Test.YtjaeihbfkmflkaaDoorSplLw
import Derived.Test.YtjaeihbfkmflkaaDoorSplX
import Derived.Test.YtjaeihbfkmflkaaDoorVB
import Derived.Deep.RegionLaw
namespace Go.Proofs.YtjaeihbfkmflkaaDoor.Pure
/-- Nothing more is asked. -/
theorem FnSplitn : True := trivial
end Go.Proofs.YtjaeihbfkmflkaaDoor.Pure
namespace Go.Proofs.YtjaeihbfkmflkaaDoor.PFnSplitn
open Go.RowKit Go.ChangeMaps Go.Proofs.YtjaeihbfkmflkaaDoorW.PrintWords Go.Proofs.YtjaeihbfkmflkaaDoor.Txt Go.Proofs.YtjaeihbfkmflkaaDoor.Vals Go.Proofs.YtjaeihbfkmflkaaDoor.Giv
set_option linter.unusedVariables false
set_option maxRecDepth 20000
theorem cell2 (w : World) (a b : Value) (t : TypeId) (j : Nat) (u : Value) (hj : [a, b][j]? = some u) : (w.alloc (.cells #[a, b] t)).cell? ((⟨w.heap.size, 0, none⟩ : Addr).add j) = some u :=
  news_cells w #[a, b] t j u (by simpa using hj)
theorem lit2 (w : World) (a b : ByteArray) (t : TypeId) : Kd.C Kd.string (w.alloc (.cells #[.string a, .string b] t)) (some ⟨w.heap.size, 0, none⟩) 2 [a, b] := by
  refine ⟨rfl, by decide, fun _ => ⟨_, rfl, fun j p hj => ⟨[.string p], rfl, rfl, fun i u hu => ?_⟩⟩⟩
  have h1 : Kd.string.sz = 1 := rfl
  rw [h1]
  have hi : i = 0 := by
    rcases i with _ | i
    · rfl
    · simp at hu
  subst hi
  have hup : u = .string p := by simpa using hu.symm
  subst hup
  have hj2 : [Value.string a, Value.string b][j]? = some (.string p) := by
    have : ([a, b].map Value.string)[j]? = some (.string p) := by rw [List.getElem?_map, hj]; rfl
    simpa using this
  have := cell2 w (.string a) (.string b) t j (.string p) hj2
  simpa using this
/-- What the law's text-check answers, at any world. -/
theorem text_call (a b : ByteArray) (W : World) : Calls Tryd.prog 7 #[.slice (some ⟨W.heap.size, 0, none⟩) 2 2] (W.alloc (.cells #[.string a, .string b] 9)) fun e w' => e = .returned (.bool (Pure.textL [a, b])) ∧ Below (W.alloc (.cells #[.string a, .string b] 9)).heap.size (W.alloc (.cells #[.string a, .string b] 9)) w' := by
  obtain ⟨k, hk⟩ := Ev.rounds (Pure.text_ev [a, b] (by simp))
  exact laws_text9.calls k _ 2 [a, b] _ _ (lit2 W a b _) (Nat.le_refl _) hk
theorem C_of_own {w : World} {base g cap : Nat} {l : List ByteArray} (hl : l.length ≤ 1000000) (h : w.ownsRow base 9 1 (.slice (some ⟨g, 0, none⟩) l.length cap) l.length (l.map Value.string)) : Kd.C Kd.string w (some ⟨g, 0, none⟩) l.length l := by
  refine ⟨rfl, by omega, fun _ => ⟨_, rfl, fun j p hj => ⟨[.string p], rfl, rfl, fun i u hu => ?_⟩⟩⟩
  have h1 : Kd.string.sz = 1 := rfl
  rw [h1]
  have hi : i = 0 := by
    rcases i with _ | i
    · rfl
    · simp at hu
  subst hi
  have hup : u = .string p := by simpa using hu.symm
  subst hup
  have := h.cells (g := g) rfl j (.string p) (by rw [List.getElem?_map, hj]; rfl)
  simpa using this
/-- The texts' row, as a row of cells. -/
theorem rowIs_of_R {w : World} {base c n : Nat} {ok : Nat → Prop} {A : Option Addr} {l : List ByteArray} (h : Kd.R Kd.string 9 w base ok (.slice A n c) l) : RowIs w (fun _ => True) 1 (.slice A l.length c) l.length (l.map Value.string) := by
  obtain ⟨hn, hc, hC⟩ := Kd.R_reads' h
  obtain ⟨inner, ho⟩ := Kd.R_own h
  have hr := RowIs.of_own (P := fun _ => True) ho (fun _ _ => trivial)
  rw [hn] at hr
  obtain ⟨h1, h2⟩ := hr.sizes
  refine ⟨A, c, rfl, h1, h2, by simp, fun h0 => ?_⟩
  obtain ⟨b, o, hA, _, _⟩ := hr.elem h0
  refine ⟨b, o, hA, trivial, fun j u hu => ?_⟩
  rw [List.getElem?_map] at hu
  obtain ⟨s, hs, rfl⟩ := Option.map_eq_some_iff.1 hu
  have hj := (List.getElem?_eq_some_iff.1 hs).1
  obtain ⟨ad, e, hcell⟩ := getD_str hC j hj
  rw [hA] at e
  injection e with e
  subst e
  rw [List.getD_eq_getElem?_getD, hs] at hcell
  rw [← Go.Proofs.YtjaeihbfkmflkaaDoor.Vals.add_eq rfl] at hcell
  exact hcell
theorem addr_of_R {w : World} {base c n : Nat} {ok : Nat → Prop} {A : Option Addr} {l : List ByteArray} (h : Kd.R Kd.string 9 w base ok (.slice A n c) l) (hl : 0 < l.length) : ∃ g, A = some ⟨g, 0, none⟩ := by
  obtain ⟨inner, ho⟩ := Kd.R_own h
  rcases ho.2 with ⟨_, hn⟩ | ⟨g, cap, cur, hv, _⟩
  · omega
  · injection hv with hv
    exact ⟨g, hv⟩
theorem C_of_rowIs {w : World} {P : Nat → Prop} {b o n c : Nat} {l : List ByteArray} (hl : l.length ≤ 1000000) (h : RowIs w P 1 (.slice (some ⟨b, o, none⟩) n c) n (l.map Value.string)) : Kd.C Kd.string w (some ⟨b, o, none⟩) l.length l := by
  have hn : n = l.length := by
    obtain ⟨_, _, _, _, _, hx, _⟩ := h
    simpa using hx.symm
  refine ⟨rfl, by omega, fun h0 => ⟨_, rfl, fun j p hj => ⟨[.string p], rfl, rfl, fun i u hu => ?_⟩⟩⟩
  have h1 : Kd.string.sz = 1 := rfl
  rw [h1]
  have hi : i = 0 := by
    rcases i with _ | i
    · rfl
    · simp at hu
  subst hi
  have hup : u = .string p := by simpa using hu.symm
  subst hup
  obtain ⟨b', o', hA, _, hc⟩ := h.elem (by omega)
  injection hA with hA
  injection hA with hb ho
  subst hb ho
  have := hc j (.string p) (by rw [List.getElem?_map, hj]; rfl)
  rw [← Go.Proofs.YtjaeihbfkmflkaaDoor.Vals.add_eq rfl]
  simpa using this
theorem own_drewN {w : World} {B e s n : Nat} {v : Value} {xs : List Value} (h : w.ownsRow B e s v n xs) (k : Nat) : (w.drewN k).ownsRow B e s v n xs := h
theorem one_str {v : Value} (h : v.oneCell' = true) : ∀ u ∈ [v], u.oneCell' = true := fun u hu => by rw [List.mem_singleton.1 hu]; exact h
theorem infoStr : (Tryd.prog.info? 9).map (fun i => (i.zero, i.size, i.bytes)) = some (some (.string ⟨#[]⟩), 1, 16) := by kernel_rfl
set_option maxHeartbeats 4000000 in
theorem laws_FnSplitn.walk (_P : True) (a0 : ByteArray) (a1 : Int) (a2 : ByteArray) (w : World) (T : Pow10 w) (w0 : a0.size ≤ 140737488351232) (w1 : (Lit.int .i64 a1).wf = true) (w2 : a2.size ≤ 140737488351232) :
    Calls Tryd.prog 5 #[.string a0, .int .i64 a1, .string a2] w fun e w' => e = .returned (.bool true) ∧ Below w.heap.size w w' := by
  have HBX : Hid (∀ o, Below w.heap.size w (w.alloc o)) := Lib.hid fun o => (Below.refl _ _).alloc (Nat.le_refl _) o
  have HB0 := Lib.hid (Below.refl w.heap.size w)
  have HT := Lib.hid T
  have ha1 : -9223372036854775808 ≤ a1 ∧ a1 ≤ 9223372036854775807 := by
    simp only [Lit.wf, IntKind.min, IntKind.max, IntKind.signed, IntKind.bits, Bool.and_eq_true, decide_eq_true_eq] at w1
    simp at w1
    omega
  have HA1 := Lib.hid ha1
  have hsf := store_float
  clear T w1 ha1
  go_enter Tryd.func5, Tryd.ntmps5
  by_cases h1 : (2147483647 : Int) < (a0.size : Int)
  · go_wp2_with fail
    go_ret
    exact ⟨rfl, HB0.out⟩
  by_cases h2 : (2147483647 : Int) < (a2.size : Int)
  · go_wp2_with fail
    go_ret
    exact ⟨rfl, HB0.out⟩
  have HTX := Lib.hid (text_call a0 a2 w)
  obtain ⟨B, hB⟩ : ∃ B, B = Pure.textL [a0, a2] := ⟨_, rfl⟩
  rw [← hB] at HTX
  have HBB := Lib.hid hB
  clear hB
  go_wp2_with fail
  refine HTX.out.mono ?_
  rintro e w1 ⟨rfl, hb1⟩
  have HB1 := Lib.hid ((HBX.out _).trans (hb1.mono (HBX.out _).size))
  clear hb1
  cases B with
  | false =>
    go_wp2_with fail
    go_ret
    exact ⟨rfl, HB1.out⟩
  | true =>
    by_cases hp0 : a0.toList = []
    · have hpe : (a0.toList == []) = true := by rw [hp0]; rfl
      go_wp2_with fail
      go_ret
      exact ⟨rfl, HB1.out⟩
    have hpe : (a0.toList == []) = false := beq_eq_false_iff_ne.mpr hp0
    by_cases h30 : 30 < a1
    · go_wp2_with fail
      go_ret
      exact ⟨rfl, HB1.out⟩
    have htx := HBB.out.symm
    simp only [Pure.textL, List.all_cons, List.all_nil, Bool.and_true, Bool.and_eq_true, decide_eq_true_eq] at htx
    obtain ⟨⟨z0, _⟩, ⟨z1, _⟩⟩ := htx
    have HF := Lib.hid (Pure.parts a0 a2 z0 z1 hp0)
    clear hp0
    obtain ⟨l, hf⟩ := HF.out
    have HP := Lib.hid hf
    clear hf
    have HS : Hid (∀ W, Calls Tryd.prog 13 #[.string a0, .string a2] W fun e w' => ∃ v0_ : Value, e = .returned (v0_) ∧ Kd.R Kd.string 9 w' W.heap.size (fun _ => True) v0_ l ∧ Below W.heap.size W w') := Lib.hid fun W => by
      obtain ⟨k, hk⟩ := Ev.rounds HP.out.1
      exact spec_SplitList.calls k a0 a2 l W hk
    have HSZ : Hid (∀ x ∈ l, x.size ≤ maxLen) := Lib.hid fun x hx => by have := HP.out.2.1 x hx; unfold maxLen; omega
    have HLL : Hid (l.length ≤ 100000) := Lib.hid HP.out.2.2.1
    obtain ⟨N, hN⟩ : ∃ N, N = l.length := ⟨_, rfl⟩
    have hN5 : N ≤ 100000 := by rw [hN]; exact HLL.out
    have HN := Lib.hid hN
    clear hN
    go_wp2_with fail
    refine (HS.out _).mono ?_
    rintro e w2 ⟨v0, rfl, HR, hb2⟩
    have HB2 := Lib.hid (HB1.out.trans (hb2.mono HB1.out.size))
    obtain ⟨A, c, rfl⟩ := Kd.R_slice HR
    have HR2 := Lib.hid (Kd.R_reads' HR).2.2
    have HRI := Lib.hid (rowIs_of_R HR)
    rw [← HN.out]
    have HAD : Hid (0 < l.length → ∃ g, A = some ⟨g, 0, none⟩) := Lib.hid (addr_of_R HR)
    clear HR hb2
    by_cases hl30 : 30 < (N : Int)
    · go_wp2_with fail
      go_ret
      exact ⟨rfl, HB2.out⟩
    have hN30 : N ≤ 30 := by omega
    by_cases h0 : a1 = 0
    · subst h0
      have HC0 : Hid (Kd.C Kd.string w2 none ([] : List ByteArray).length []) := Lib.hid (Kd.C_nil _ _)
      have HSP := Lib.hid (implSplitn_walk a0 a2 0 [] (by simp) (by simp) ⟨0, rfl⟩ w2 (HT.out.below HB2.out))
      go_wp2_with fail
      refine HSP.out.mono ?_
      rintro e w7 ⟨Ak, ck, Al, cl, ks, vs, rfl, HX, HPO, hb7⟩
      have HB7 := Lib.hid (HB2.out.trans (hb7.out.mono HB2.out.size))
      have HPT := Lib.hid fun o => parted9_walk [] ks vs HPO.out (by simp) Ak Al ck cl _ (w7.alloc o) (IsV.keep (Kept.below ((Below.refl _ _).alloc (Nat.le_refl _) o)) _ HX.out) none 0 (Kd.C_alloc (Kd.C_below HC0.out hb7.out) o)
      rw [List.length_nil] at HPT ⊢
      clear hb7
      go_wp2_with fail
      refine (HPT.out _).mono ?_
      rintro e w9 ⟨rfl, hb9⟩
      have HB9 := Lib.hid ((HB7.out.alloc HB7.out.size _).trans (hb9.mono (HB7.out.alloc HB7.out.size _).size))
      clear hb9
      go_wp2_with fail
      go_ret
      exact ⟨rfl, HB9.out⟩
    rcases Int.lt_or_le a1 0 with hneg | hpos
    · have e1 : (a1 == 0) = false := by simpa using h0
      have e2 : decide (0 < a1) = false := by simp; omega
      have HSP := Lib.hid (implSplitn_walk a0 a2 a1 l (by rw [← HN.out]; exact hN30) HSZ.out (HP.out.2.2.2.1 a1 hneg) w2 (HT.out.below HB2.out))
      go_wp2_with fail
      refine HSP.out.mono ?_
      rintro e w7 ⟨Ak, ck, Al, cl, ks, vs, rfl, HX, HPO, hb7⟩
      have HB7 := Lib.hid (HB2.out.trans (hb7.out.mono HB2.out.size))
      have HPT := Lib.hid fun o => parted9_walk l ks vs HPO.out (by rw [← HN.out]; exact hN30) Ak Al ck cl _ (w7.alloc o) (IsV.keep (Kept.below ((Below.refl _ _).alloc (Nat.le_refl _) o)) _ HX.out) A c (Kd.C_alloc (Kd.C_below HR2.out hb7.out) o)
      rw [← HN.out] at HPT ⊢
      clear hb7
      go_wp2_with fail
      refine (HPT.out _).mono ?_
      rintro e w9 ⟨rfl, hb9⟩
      have HB9 := Lib.hid ((HB7.out.alloc HB7.out.size _).trans (hb9.mono (HB7.out.alloc HB7.out.size _).size))
      clear hb9
      go_wp2_with fail
      go_ret
      exact ⟨rfl, HB9.out⟩
    obtain ⟨n, rfl⟩ : ∃ n : Nat, a1 = n := ⟨a1.toNat, by omega⟩
    have e1 : ((n : Int) == 0) = false := by simpa using h0
    have e2 : decide (0 < (n : Int)) = true := by simp; omega
    have e2' : decide (0 < n) = true := by simp; omega
    have hn30 : n ≤ 30 := by omega
    by_cases hNn : N ≤ n
    · have e3 : decide ((n : Int) < (N : Int)) = false := by simp; omega
      have e3' : decide (n < N) = false := by simp; omega
      have HZZ := Lib.hid (HP.out.2.2.2.2.1 n (by omega) (by omega) (by rw [← HN.out]; exact hNn))
      have HSP := Lib.hid (implSplitn_walk a0 a2 (n : Int) l (by rw [← HN.out]; exact hN30) HSZ.out HZZ.out w2 (HT.out.below HB2.out))
      go_wp2_with fail
      refine HSP.out.mono ?_
      rintro e w7 ⟨Ak, ck, Al, cl, ks, vs, rfl, HX, HPO, hb7⟩
      have HB7 := Lib.hid (HB2.out.trans (hb7.out.mono HB2.out.size))
      have HPT := Lib.hid fun o => parted9_walk l ks vs HPO.out (by rw [← HN.out]; exact hN30) Ak Al ck cl _ (w7.alloc o) (IsV.keep (Kept.below ((Below.refl _ _).alloc (Nat.le_refl _) o)) _ HX.out) A c (Kd.C_alloc (Kd.C_below HR2.out hb7.out) o)
      rw [← HN.out] at HPT ⊢
      clear hb7
      go_wp2_with fail
      refine (HPT.out _).mono ?_
      rintro e w9 ⟨rfl, hb9⟩
      have HB9 := Lib.hid ((HB7.out.alloc HB7.out.size _).trans (hb9.mono (HB7.out.alloc HB7.out.size _).size))
      clear hb9
      go_wp2_with fail
      go_ret
      exact ⟨rfl, HB9.out⟩
    have e3 : decide ((n : Int) < (N : Int)) = true := by simp; omega
    have e3' : decide (n < N) = true := by simp; omega
    obtain ⟨r, hr1, hr2, hr3⟩ := HP.out.2.2.2.2.2 n (by omega) (by omega) (by rw [← HN.out]; omega)
    have HRR := Lib.hid (And.intro hr1 (And.intro hr2 hr3))
    clear hr1 hr2 hr3
    obtain ⟨m, hm⟩ : ∃ m : Nat, n = m + 1 := ⟨n - 1, by omega⟩
    have hw1 : IntKind.i64.wrap ((n : Int) - 1) = (m : Int) := by rw [IntWalk.i64_in _ (by omega)]; omega
    have hm0 : (0 : Int) ≤ (m : Int) := by omega
    have hmN : (m : Int) ≤ (N : Int) := by omega
    have hmt : (m : Int).toNat = m := by omega
    have HM := Lib.hid (And.intro hm (by omega : m < N))
    clear hm
    have hNc : N ≤ c := by have := HRI.out.sizes.1; rw [HN.out]; exact this
    have hcm : (c = m) = False := eq_false (by have := HM.out.2; omega)
    have hcm' : ¬ c = m := by have := HM.out.2; omega
    have hmc : (m : Int) ≤ (c : Int) := by omega
    obtain ⟨g, rfl⟩ := HAD.out (by have := HN.out; have := HM.out.2; omega)
    have HS1 : Hid (∀ W, Below w2.heap.size w2 W → RowIs W (fun _ => True) 1 (.slice (some ⟨g, 0, none⟩) m c) m ((l.map Value.string).take (m * 1))) := Lib.hid fun W hW => (RowIs.keep HRI.out (by decide) (Kept.below hW)).pre (by have := HN.out; have := HM.out.2; omega)
    have HTK : Hid (∀ u ∈ (l.map Value.string).take (m * 1), u.oneCell' = true) := Lib.hid fun u hu => textsOne l u (List.mem_of_mem_take hu)
    have HJ : Hid (∀ W, Below w2.heap.size w2 W → Calls Tryd.prog 14 #[.string a0, .slice (some ⟨g, m, none⟩) (N - m) (c - m)] W fun e w' => e = .returned (.string r) ∧ Drawn0 W w') := Lib.hid fun W hW => by
      have h1 := (RowIs.keep HRI.out (by decide) (Kept.below hW)).post (a := m) (by have := HN.out; have := HM.out.2; omega)
      rw [if_neg hcm', ← List.map_drop] at h1
      simp only [Nat.mul_one] at h1
      have h2 := C_of_rowIs (l := l.drop m) (by rw [List.length_drop]; have := HLL.out; omega) h1
      obtain ⟨k, hk⟩ := Ev.rounds HRR.out.1
      have e : n - 1 = m := by have := HM.out.1; omega
      rw [e] at hk
      have h3 := spec_Joined.calls k a0 _ (c - m) (l.drop m) r W h2 (by rw [List.length_drop]; have := HN.out; omega) hk
      rw [List.length_drop, ← HN.out] at h3
      exact h3
    obtain ⟨j0, hj0, hz⟩ := Option.map_eq_some_iff.1 infoStr
    simp only [Prod.mk.injEq] at hz
    obtain ⟨jz0, jz1, jz2⟩ := hz
    go_upto_region 11 with fail
    go_region_law (first
      | ((with_reducible refine step_append_some (w2.alloc (.cells #[] 9)).drew ?_ (.tmp 50) (.tmp 54) 35 ?_ w2.heap.size 9 j0 _ 1 16 Tryd.underlying35 hj0 jz0 jz1 jz2 ?_ ?_ (w2.heap.size) 0 0 [] ?_ ?_ (fun _ => True) (some ⟨g, 0, none⟩) m c ((l.map Value.string).take (m * 1)) ?_ ?_ HTK.out ?_ ?_ ?_ ?_); (exact rfl); (exact rfl); (exact rfl); (exact (by decide)); (simp [Act.eval]); (exact own_empty (size := 1) (Nat.le_refl _) (heap_alloc_new w2 (.cells #[] 9))); (simp [Act.eval]); (exact HS1.out _ (below_drewn ((Below.refl _ _).alloc (Nat.le_refl _) _))); (unfold maxLen; omega); (omega); (exact Below.size (below_drewn ((Below.refl _ _).alloc (Nat.le_refl _) _))); intro gU capU wU hown hgrow hat; have hbb : Below w2.heap.size w2 wU := Below.grown (below_drewn ((Below.refl _ _).alloc (Nat.le_refl _) _)) hgrow (Below.size (below_drewn ((Below.refl _ _).alloc (Nat.le_refl _) _))) (fun k hk => (World.ownsRow.lt (e := 9) (size := 1) (own_empty (size := 1) (Nat.le_refl _) (heap_alloc_new w2 (.cells #[] 9))) k hk).1); have HOU := Lib.hid hown; have HBU := Lib.hid hbb; clear hown hgrow hat hbb)
      | ((with_reducible refine step_append_some ((wU.drewN nq).alloc (.cells #[.string r] 9)) ?_ (.tmp 55) (.tmp 62) 35 ?_ w2.heap.size 9 j0 _ 1 16 Tryd.underlying35 hj0 jz0 jz1 jz2 ?_ ?_ gU m capU ((l.map Value.string).take (m * 1)) ?_ ?_ (fun _ => True) (some ⟨wU.heap.size, 0, none⟩) 1 1 [.string r] ?_ ?_ (one_str rfl) ?_ ?_ ?_ ?_); (exact rfl); (exact rfl); (exact rfl); (exact (by decide)); (simp [Act.eval]); (exact (show World.ownsRow ((wU.drewN nq).alloc (.cells #[.string r] 9)) w2.heap.size 9 1 (.slice (some ⟨gU, 0, none⟩) m capU) m ((l.map Value.string).take (m * 1)) from World.ownsRow.alloc (own_drewN (by simpa using HOU.out) nq) (.cells #[.string r] 9))); (simp [Act.eval]); (exact row_box (heap_alloc_new (wU.drewN nq) (.cells #[.string r] 9)) rfl); (unfold maxLen; omega); (omega); (exact Below.size (HBJ.out.alloc HBJ.out.size (.cells #[.string r] 9))); intro gZ capZ wZ hown hgrow hat; have hbb : Below w2.heap.size w2 wZ := Below.grown (HBJ.out.alloc HBJ.out.size _) hgrow (Below.size (HBJ.out.alloc HBJ.out.size _)) (fun k hk => (World.ownsRow.lt (e := 9) (size := 1) (show World.ownsRow ((wU.drewN nq).alloc (.cells #[.string r] 9)) w2.heap.size 9 1 (.slice (some ⟨gU, 0, none⟩) m capU) m ((l.map Value.string).take (m * 1)) from World.ownsRow.alloc (own_drewN (by simpa using HOU.out) nq) (.cells #[.string r] 9)) k hk).1); have HOZ := Lib.hid hown; have HBZ := Lib.hid hbb; clear hown hgrow hat hbb)
      | (go_simp; go_at_call 14; refine (HJ.out _ HBU.out).mono ?_; rintro e wj ⟨rfl, hd⟩; obtain ⟨nq, rfl⟩ := hd; have HBJ : Hid (Below w2.heap.size w2 (wU.drewN nq)) := Lib.hid (below_drewN HBU.out nq)))
    obtain ⟨M, hM⟩ : ∃ M, M = l.take m ++ [r] := ⟨_, rfl⟩
    have HML : Hid (M.length = m + 1) := Lib.hid (by rw [hM, List.length_append, List.length_take]; have := HN.out; have := HM.out.2; simp; omega)
    have HMZ : Hid (∀ x ∈ M, x.size ≤ maxLen) := Lib.hid fun x hx => by
      rw [hM] at hx
      rcases List.mem_append.1 hx with h | h
      · exact HSZ.out x (List.mem_of_mem_take h)
      · rw [List.mem_singleton.1 h]; have := HRR.out.2.1; unfold maxLen; omega
    have HZZ : Hid (∃ k, sprig_zzSplitN.f k a2 a0 (n : Int) = some M) := Lib.hid (by
      obtain ⟨k, hk⟩ := HRR.out.2.2
      have e : n - 1 = m := by have := HM.out.1; omega
      rw [e] at hk
      exact ⟨k, by rw [hM]; exact hk⟩)
    have HCZ : Hid (Kd.C Kd.string wZ (some ⟨gZ, 0, none⟩) M.length M) := Lib.hid (by
      refine C_of_own (base := w2.heap.size) (cap := capZ) (by rw [HML.out]; omega) ?_
      have h := HOZ.out
      have e : (l.map Value.string).take (m * 1) ++ [Value.string r] = M.map Value.string := by rw [hM, Nat.mul_one, List.map_append, List.map_take]; rfl
      rw [e] at h
      rw [HML.out]
      exact h)
    have HBZ2 := Lib.hid (HB2.out.trans (HBZ.out.mono HB2.out.size))
    clear hM
    have HSP := Lib.hid (implSplitn_walk a0 a2 (n : Int) M (by rw [HML.out]; have := HM.out.2; omega) HMZ.out HZZ.out wZ (HT.out.below HBZ2.out))
    go_wp2_with fail
    refine HSP.out.mono ?_
    rintro e w7 ⟨Ak, ck, Al, cl, ks, vs, rfl, HX, HPO, hb7⟩
    have HB7 := Lib.hid (HBZ2.out.trans (hb7.out.mono HBZ2.out.size))
    have HPT := Lib.hid fun o => parted9_walk M ks vs HPO.out (by rw [HML.out]; have := HM.out.2; omega) Ak Al ck cl _ (w7.alloc o) (IsV.keep (Kept.below ((Below.refl _ _).alloc (Nat.le_refl _) o)) _ HX.out) (some ⟨gZ, 0, none⟩) capZ (Kd.C_alloc (Kd.C_below HCZ.out hb7.out) o)
    rw [HML.out] at HPT ⊢
    clear hb7
    go_wp2_with fail
    refine (HPT.out _).mono ?_
    rintro e w9 ⟨rfl, hb9⟩
    have HB9 := Lib.hid ((HB7.out.alloc HB7.out.size _).trans (hb9.mono (HB7.out.alloc HB7.out.size _).size))
    clear hb9
    go_wp2_with fail
    go_ret
    exact ⟨rfl, HB9.out⟩
end Go.Proofs.YtjaeihbfkmflkaaDoor.PFnSplitn
