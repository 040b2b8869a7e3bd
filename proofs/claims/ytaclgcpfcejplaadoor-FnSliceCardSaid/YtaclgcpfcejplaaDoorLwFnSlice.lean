/- Walk of the law FnSlice: it answers true. -/
import Derived.Test.YtaclgcpfcejplaaDoorValSl
import Derived.Test.YtaclgcpfcejplaaDoorValS
import Derived.Test.YtaclgcpfcejplaaDoorValA
namespace Go.Proofs.YtaclgcpfcejplaaDoor.Vals
open Go.RowKit Go.Proofs.YtaclgcpfcejplaaDoorW.PrintWords
set_option linter.unusedVariables false
set_option maxRecDepth 20000

set_option maxHeartbeats 4000000 in
theorem fnSlice_walk (A : Option Addr) (c : Nat) (l : List V) (xs : List Value) (P : Nat → Prop) (fr en : Int) (w : World) (hl : RowIs w P 6 (.slice A l.length c) l.length xs) (hv : IsVs w P l xs) (hwf1 : (Lit.int .i64 fr).wf = true) (hwf2 : (Lit.int .i64 en).wf = true) :
    Calls Tryd.prog 3 #[.slice A l.length c, .int .i64 fr, .int .i64 en] w fun e w' => e = .returned (.bool true) ∧ Below w.heap.size w w' := by
  have HRW : Hid (∀ W, Below w.heap.size w W → RowIs W P 6 (.slice A l.length c) l.length xs ∧ IsVs W P l xs) := Lib.hid fun W hW => ⟨hl.keep (by omega) (Kept.below hW), IsVs.keep (Kept.below hW) l hv⟩
  have HAR := Lib.hid (allRight_walk l A c xs P w hl hv)
  obtain ⟨hnc, hcm⟩ := hl.sizes
  unfold maxLen at hcm
  clear hl hv hwf1 hwf2
  obtain ⟨n, hn⟩ : ∃ n, n = l.length := ⟨_, rfl⟩
  rw [← hn] at hnc HRW HAR ⊢
  have HN := Lib.hid hn
  clear hn
  go_enter Tryd.func3, Tryd.ntmps3
  by_cases hbig : n > 2147483647
  · go_wp2_with fail
    go_ret
    exact ⟨rfl, Below.refl _ _⟩
  go_wp2_with fail
  refine (HAR.out).mono ?_
  rintro e w1 ⟨b, rfl, HR, hb1⟩
  have HB1 := Lib.hid hb1
  clear hb1
  cases b with
  | false =>
    go_wp2_with fail
    go_ret
    exact ⟨rfl, HB1.out⟩
  | true =>
  obtain ⟨hr, h60⟩ := HR.out rfl
  have HRI := Lib.hid hr
  clear hr HAR
  by_cases h0 : n = 0
  · subst h0
    by_cases g1 : fr < 0
    · go_wp2_with fail
      go_ret
      exact ⟨rfl, HB1.out⟩
    by_cases g2 : fr > en
    · go_wp2_with fail
      go_ret
      exact ⟨rfl, HB1.out⟩
    by_cases g3 : en > ((0 : Nat) : Int)
    · go_wp2_with fail
      go_ret
      exact ⟨rfl, HB1.out⟩
    go_wp2_with fail
    go_ret
    exact ⟨rfl, HB1.out⟩
  have hz : ((n : Int) == 0) = false := by simp; omega
  by_cases g1 : fr < 0
  · go_wp2_with fail
    go_ret
    exact ⟨rfl, HB1.out⟩
  by_cases g2 : fr > en
  · go_wp2_with fail
    go_ret
    exact ⟨rfl, HB1.out⟩
  by_cases g3 : en > (n : Int)
  · go_wp2_with fail
    go_ret
    exact ⟨rfl, HB1.out⟩
  obtain ⟨i, rfl⟩ : ∃ i : Nat, fr = i := ⟨fr.toNat, by omega⟩
  obtain ⟨j, rfl⟩ : ∃ j : Nat, en = j := ⟨en.toNat, by omega⟩
  have hij : i ≤ j := by omega
  have hj : j ≤ n := by omega
  have hrw := HRW.out w1 HB1.out
  rw [HN.out] at hrw
  have HC1 := Lib.hid (implSlice_walk l HRI.out (by rw [← HN.out]; exact h60) A c xs P w1 hrw.1 hrw.2 i j hij (by rw [← HN.out]; exact hj) (by rw [← HN.out]; omega))
  rw [← HN.out] at HC1
  obtain ⟨ls, hls⟩ : ∃ ls, ls = (l.drop i).take (j - i) := ⟨_, rfl⟩
  rw [← hls] at HC1
  have hlsl : ls.length = j - i := by rw [hls]; have := HN.out; simp; omega
  obtain ⟨b, o, hA, _, _⟩ := hrw.1.elem (by rw [← HN.out]; omega)
  subst hA
  have HLS := Lib.hid (And.intro hls hlsl)
  clear hls hlsl hrw g1 g2 g3 hbig
  go_wp2_with fail
  refine (HC1.out).mono ?_
  rintro e w2 ⟨A1, c1, zs, rfl, HX, hb2⟩
  have HB2 := Lib.hid (HB1.out.trans (hb2.out.mono HB1.out.size))
  rw [HLS.out.2]
  have hrw := HRW.out w2 HB2.out
  have HSM : Hid (∀ A', (i < j → A' = some ⟨b, o + i * 6, none⟩) → Calls Tryd.prog 6 #[.slice A1 (j - i) c1, .slice A' (j - i) (c - i)] w2 (TheBool true fun w' => Below w2.heap.size w2 w')) := Lib.hid fun A' hA => by
    have hm := hrw.1.part (A := A') (by omega) hij hj hA
    have hu := (hrw.2.drop i).take (j - i)
    rw [← HLS.out.1] at hu
    have hx := HX.out
    have hs := sameList_walk (norms ls) ls A1 A' c1 (c - i) zs _ _ _ w2 (by rw [norms_len]; exact hx.1) hx.2 (by rw [HLS.out.2]; exact hm) hu
    rw [norms_len, HLS.out.2] at hs
    have hri : Rights ls 8 := by rw [HLS.out.1]; exact Rights.mk fun k hk => by rw [List.getElem_take, List.getElem_drop]; exact HRI.out.at_ _ _
    have he : samesB (norms ls) ls = true := samesB_yes (sames_of hri)
    rw [he] at hs
    exact hs
  clear hrw hb2 HC1 HX
  by_cases hci : c = i
  · subst hci
    have hsm := HSM.out (some ⟨b, o, none⟩) (fun h => by omega)
    simp only [Nat.sub_self] at hsm
    have HS := Lib.hid hsm
    clear hsm HSM
    go_wp2_with fail
    refine HS.out.mono ?_
    rintro e w3 ⟨r, rfl, hr, hB⟩
    obtain rfl := hr.out
    have HB3 := Lib.hid (HB2.out.trans (hB.mono HB2.out.size))
    clear hr hB HS
    go_wp2_with fail
    go_ret
    exact ⟨rfl, HB3.out⟩
  · have HS := Lib.hid (HSM.out (some ⟨b, o + i * 6, none⟩) (fun _ => rfl))
    clear HSM
    go_wp2_with fail
    refine HS.out.mono ?_
    rintro e w3 ⟨r, rfl, hr, hB⟩
    obtain rfl := hr.out
    have HB3 := Lib.hid (HB2.out.trans (hB.mono HB2.out.size))
    clear hr hB HS
    go_wp2_with fail
    go_ret
    exact ⟨rfl, HB3.out⟩
end Go.Proofs.YtaclgcpfcejplaaDoor.Vals
