/- Walk of the law FnSquote: it answers true. -/
import Derived.Test.YtkikkeegdooenaaGreatDoorSquoL
import Derived.Test.YtkikkeegdooenaaGreatDoorValO
namespace Go.Proofs.YtkikkeegdooenaaGreatDoor.Vals
open Go.RowKit Go.ChangeMaps Go.Proofs.YtkikkeegdooenaaGreatDoorW.PrintWords Go.Proofs.YtkikkeegdooenaaGreatDoor.Txt Go.Proofs.YtkikkeegdooenaaGreatDoor.Giv
set_option linter.unusedVariables false
set_option maxRecDepth 20000
theorem lit1 (w : World) (a : ByteArray) (t : TypeId) : Kd.C Kd.string (w.alloc (.cells #[.string a] t)) (some ⟨w.heap.size, 0, none⟩) 1 [a] := by
  refine ⟨rfl, by decide, fun _ => ⟨_, rfl, fun j p hj => ⟨[.string p], rfl, rfl, fun i u hu => ?_⟩⟩⟩
  have h1 : Kd.string.sz = 1 := rfl
  rw [h1]
  have hi : i = 0 := by
    rcases i with _ | i
    · rfl
    · simp at hu
  subst hi
  have hup : u = .string p := by simpa using hu.symm
  subst hup
  have hj0 : j = 0 := by
    rcases j with _ | j
    · rfl
    · simp at hj
  subst hj0
  have hp : p = a := by simpa using hj.symm
  subst hp
  exact news_cells w #[.string p] t 0 (.string p) rfl
theorem txt_simp (s : ByteArray) (h : s.size ≤ 500) : Simp (txtV s) := ⟨by show I64 0; unfold I64; omega, h, .inr (.inr (.inr (.inr rfl)))⟩
theorem quo_a : joinT (quoL [txtV ⟨#[97]⟩]) ⟨#[32]⟩ = ⟨#[39, 97, 39]⟩ := by
  apply ext_eq
  rw [joinT_list]
  have e : quoL [txtV ⟨#[97]⟩] = [quoT ⟨#[97]⟩] := rfl
  rw [e]
  show (quoT ⟨#[97]⟩).toList = _
  unfold quoT
  rw [tl_append, tl_append, Lib.toList_data, Lib.toList_data, Lib.toList_data]
  rfl
set_option maxHeartbeats 4000000 in
theorem fnSquote_walk (A : Option Addr) (c : Nat) (l : List V) (xs : List Value) (P : Nat → Prop) (w : World) (T : Pow10 w) (hl : RowIs w P 6 (.slice A l.length c) l.length xs) (hv : IsVs w P l xs) :
    Calls Tryz.prog 4 #[.slice A l.length c] w fun e w' => e = .returned (.bool true) ∧ Below w.heap.size w w' := by
  have HRW : Hid (∀ W, Below w.heap.size w W → RowIs W P 6 (.slice A l.length c) l.length xs ∧ IsVs W P l xs) := Lib.hid fun W hW => ⟨hl.keep (by omega) (Kept.below hW), IsVs.keep (Kept.below hW) l hv⟩
  have HSM := Lib.hid (simple_walk l A c xs P w hl hv)
  have HT := Lib.hid T
  obtain ⟨hnc, hcm⟩ := hl.sizes
  unfold maxLen at hcm
  clear hl hv T
  obtain ⟨n, hn⟩ : ∃ n, n = l.length := ⟨_, rfl⟩
  rw [← hn] at hnc HSM ⊢
  have HN := Lib.hid hn
  clear hn
  go_enter Tryz.func4, Tryz.ntmps4
  by_cases hbig : n > 2147483647
  · go_wp2_with fail
    go_ret
    exact ⟨rfl, Below.refl _ _⟩
  go_wp2_with fail
  refine (HSM.out).mono ?_
  rintro e w1 ⟨b, rfl, HR, hb1⟩
  have HB1 := Lib.hid hb1
  clear hb1
  cases b with
  | false =>
    go_wp2_with fail
    go_ret
    exact ⟨rfl, HB1.out⟩
  | true =>
  obtain ⟨hs, h20⟩ := HR.out rfl
  have hll : l.length ≤ 20 := by have := HN.out; omega
  have HSI := Lib.hid hs
  have HSA := Lib.hid (shownAll_walk l (by omega) hs A c xs P w1 (HRW.out _ HB1.out).1 (HRW.out _ HB1.out).2)
  rw [← HN.out] at HSA
  have HQ := Lib.hid (quo_small hs (by omega))
  clear hs
  go_wp2_with fail
  refine (HSA.out).mono ?_
  rintro e w2 ⟨g, cap, rfl, HO, hb2⟩
  have HB2 := Lib.hid (HB1.out.trans (hb2.out.mono HB1.out.size))
  clear hb2
  obtain ⟨ss, hss⟩ : ∃ ss, ss = shownL l := ⟨_, rfl⟩
  rw [← hss] at HO ⊢
  have HSZ : Hid (∀ (j : Nat) (h : j < ss.length), (ss[j]).size ≤ 500) := Lib.hid fun j hj => by
    have hm : ss[j] ∈ shownL l := by rw [← hss]; exact List.getElem_mem hj
    unfold shownL at hm
    obtain ⟨v, hv, e⟩ := List.mem_map.1 hm
    rw [← e]
    exact shown_size (HSI.out v (List.mem_filter.1 hv).1)
  have hsl : ss.length ≤ 20 := by
    have := shownL_len l
    rw [hss]
    omega
  have HSS := Lib.hid hss
  have HGB : Hid (w1.heap.size ≤ g ∧ g < w2.heap.size) := Lib.hid (HO.out.lt g rfl)
  clear hss
  obtain ⟨N, hNN⟩ : ∃ N, N = ss.length := ⟨_, rfl⟩
  rw [← hNN] at HO hsl ⊢
  have HNN := Lib.hid hNN
  clear hNN
  go_wp2_with fail
  go_loopg [15] N (fun kq v15 wr => ∃ (i : Nat), v15 = .int .i64 (i : Int) ∧ i + kq = N ∧ Hid (wr.ownsRow w1.heap.size 9 1 (.slice (some ⟨g, 0, none⟩) N cap) N ((quoN ss i).map Value.string)) ∧ Hid (Below w.heap.size w wr))
  case atStart => exact ⟨0, rfl, by omega, HO, HB2⟩
  case round =>
    obtain ⟨i, rfl, hik, H1, H3⟩ := hrel
    cases gk with
    | zero =>
      have hi : ¬ i < N := by omega
      have HIK := Lib.hid hik
      have hq : quoN ss i = quoL l := by
        have : i = ss.length := by have := HNN.out; omega
        rw [this, quoN_all, HSS.out]
        rfl
      have ho := H1.out
      rw [hq] at ho
      have hql : (quoL l).length = N := by rw [← hq, quoN_len]; exact HNN.out.symm
      have hcap : N ≤ cap := by
        rcases ho.2 with ⟨h0, _⟩ | ⟨g, cp, cur, hv, _, _, hh, _⟩
        · cases h0
        · injection hv with _ _ hv; omega
      have HSQ := Lib.hid (implSquote_walk l (by omega) HSI.out HQ.out A c xs P wr (HT.out.below H3.out) (HRW.out _ H3.out).1 (HRW.out _ H3.out).2)
      rw [← HN.out] at HSQ
      have HJC : Hid (∀ W, Below wr.heap.size wr W → Calls Tryz.prog 14 #[.string ⟨#[32]⟩, .slice (some ⟨g, 0, none⟩) N cap] W fun e w' => e = .returned (.string (joinT (quoL l) ⟨#[32]⟩)) ∧ Drawn0 W w') := Lib.hid fun W hW => by
        rw [← hql] at ho hcap
        have := joined_calls (quoL l) (by omega) (fun x hx => by have := quo_sizes HSI.out x hx; omega) (some ⟨g, 0, none⟩) cap hcap W (Kd.C_below (C_of_own (by omega) ho) hW)
        rw [hql] at this
        exact this
      obtain ⟨r, hr⟩ : ∃ r, r = joinT (quoL l) ⟨#[32]⟩ := ⟨_, rfl⟩
      rw [← hr] at HSQ HJC
      clear hr ho hql hcap hq hik
      go_wp2_with fail
      refine (HSQ.out).mono ?_
      rintro e w3 ⟨rfl, hb3⟩
      have HB3 := Lib.hid (H3.out.trans (hb3.mono H3.out.size))
      have HJD := Lib.hid (HJC.out w3 hb3)
      clear hb3
      go_wp2_with fail
      refine (HJD.out).mono ?_
      rintro e w4 ⟨rfl, hd4⟩
      have HB4 := Lib.hid (HB3.out.trans (hd4.below.mono HB3.out.size))
      clear hd4
      have HV := Lib.hid (values9_walk [⟨#[97]⟩] (by decide) (by intro x hx; simp at hx; subst hx; unfold maxLen; decide) (some ⟨w4.heap.size, 0, none⟩) 1 (w4.alloc (.cells #[.string ⟨#[97]⟩] 9)) (lit1 w4 _ _))
      have HB5 := Lib.hid (HB4.out.alloc HB4.out.size (.cells #[.string ⟨#[97]⟩] 9))
      go_wp2_with fail
      refine (HV.out).mono ?_
      rintro e w5 ⟨A5, c5, ys, rfl, HY, hb5⟩
      have HB6 := Lib.hid (HB5.out.trans (hb5.out.mono HB5.out.size))
      clear hb5
      have HS1 : Hid (∀ v ∈ [txtV ⟨#[97]⟩], Simp v) := Lib.hid (by intro v hv; rw [List.mem_singleton.1 hv]; exact txt_simp _ (by decide))
      have HSQ2 := Lib.hid (implSquote_walk [txtV ⟨#[97]⟩] (by decide) HS1.out (by rw [quo_a]; decide) A5 c5 ys _ w5 (HT.out.below HB6.out) HY.out.1 HY.out.2)
      rw [quo_a] at HSQ2
      go_wp2_with fail
      refine (HSQ2.out).mono ?_
      rintro e w6 ⟨rfl, hb6⟩
      have HB7 := Lib.hid (HB6.out.trans (hb6.mono HB6.out.size))
      clear hb6
      go_wp2_with fail
      go_ret
      refine ⟨?_, HB7.out⟩
      simp
    | succ m =>
      have hi : i < N := by omega
      have his : i < ss.length := by have := HNN.out; omega
      have HIK := Lib.hid hik
      obtain ⟨s, hs⟩ : ∃ s, s = ss[i] := ⟨_, rfl⟩
      have hc : wr.cell? ⟨g, i, none⟩ = some (.string s) := by
        rw [H1.out.cellAt i (by omega), List.getElem?_map, quoN_get ss i his, hs]
        rfl
      have hf : wr.frozen? ⟨g, i, none⟩ = false := H1.out.frozenAt i
      have hsz : s.size ≤ 500 := by rw [hs]; exact HSZ.out i his
      have hst := H1.out.stored i (.string (quoT s))
      have hset : ((quoN ss i).map Value.string).set i (.string (quoT s)) = (quoN ss (i + 1)).map Value.string := by
        rw [← quoN_set ss i his, List.map_set, hs]
      rw [hset] at hst
      have HSTO := Lib.hid hst
      have c1 : (9223372036854775807 < 1 + s.size) = False := eq_false (by omega)
      have c2 : (9223372036854775807 < 1 + s.size + 1) = False := eq_false (by omega)
      have hii0 : (0 : Int) ≤ (i : Int) := by omega
      have hiin : (i : Int) < (N : Int) := by omega
      clear hik hst hset hs
      go_wp2_with fail
      go_roundg m
      case measure => exact Nat.lt_succ_self m
      case rel =>
        refine ⟨i + 1, by simp, by have := HIK.out; omega, Lib.hid HSTO.out.1, Lib.hid ?_⟩
        exact H3.out.setCell (by show w.heap.size ≤ g; have := HGB.out; have := HB1.out.size; omega) _
end Go.Proofs.YtkikkeegdooenaaGreatDoor.Vals
