/- Walks of spec.isLetter, isDigit and Title, over ASCII: what they answer. -/
import Derived.Test.YtpkdoinofenahaaDoorTitleW
namespace Go.Proofs.YtpkdoinofenahaaDoor.Giv
open Go.RowKit Go.Proofs.YtpkdoinofenahaaDoorW.PrintWords Go.Proofs.YtpkdoinofenahaaDoor.Txt
set_option linter.unusedVariables false
set_option maxRecDepth 20000

def letN (x : Nat) : Bool := (decide (97 ≤ x) && decide (x ≤ 122)) || (decide (65 ≤ x) && decide (x ≤ 90))
def digN (x : Nat) : Bool := decide (48 ≤ x) && decide (x ≤ 57)
theorem sep_eq (x : Nat) (h : x < 128) : sepN x = (!letN x && !digN x && !(x == 95)) := by
  have : ∀ n : Fin 128, sepN n.val = (!letN n.val && !digN n.val && !(n.val == 95)) := by decide +kernel
  exact this ⟨x, h⟩
theorem let_walk (x : Nat) (w : World) :
    Calls Tryd.prog 65 #[.int .u8 (x : Int)] w fun e w' => e = .returned (.bool (letN x)) ∧ w' = w := by
  obtain ⟨r, hr⟩ : ∃ r, r = letN x := ⟨_, rfl⟩
  rw [← hr]
  unfold letN at hr
  by_cases a0 : 97 ≤ x
  · by_cases a1 : x ≤ 122
    · obtain rfl : r = true := by rw [hr, decide_eq_true a0, decide_eq_true a1]; rfl
      clear hr
      go_enter Tryd.func65, Tryd.ntmps65
      go_wp2_with fail
      go_ret
      first | exact ⟨rfl, rfl⟩ | exact ⟨by simp <;> omega, rfl⟩
    · have b1 : ¬ x ≤ 90 := by omega
      have b0 : 65 ≤ x := by omega
      obtain rfl : r = false := by rw [hr, decide_eq_false a1, decide_eq_false b1, Bool.and_false, Bool.and_false]; rfl
      clear hr
      go_enter Tryd.func65, Tryd.ntmps65
      go_wp2_with fail
      go_ret
      first | exact ⟨rfl, rfl⟩ | exact ⟨by simp <;> omega, rfl⟩
  · by_cases b0 : 65 ≤ x
    · by_cases b1 : x ≤ 90
      · obtain rfl : r = true := by rw [hr, decide_eq_false a0, decide_eq_true b0, decide_eq_true b1]; rfl
        clear hr
        go_enter Tryd.func65, Tryd.ntmps65
        go_wp2_with fail
        go_ret
        first | exact ⟨rfl, rfl⟩ | exact ⟨by simp <;> omega, rfl⟩
      · obtain rfl : r = false := by rw [hr, decide_eq_false a0, decide_eq_false b1, Bool.and_false]; rfl
        clear hr
        go_enter Tryd.func65, Tryd.ntmps65
        go_wp2_with fail
        go_ret
        first | exact ⟨rfl, rfl⟩ | exact ⟨by simp <;> omega, rfl⟩
    · obtain rfl : r = false := by rw [hr, decide_eq_false a0, decide_eq_false b0]; rfl
      clear hr
      go_enter Tryd.func65, Tryd.ntmps65
      go_wp2_with fail
      go_ret
      first | exact ⟨rfl, rfl⟩ | exact ⟨by simp <;> omega, rfl⟩
theorem dig_walk (x : Nat) (w : World) :
    Calls Tryd.prog 66 #[.int .u8 (x : Int)] w fun e w' => e = .returned (.bool (digN x)) ∧ w' = w := by
  obtain ⟨r, hr⟩ : ∃ r, r = digN x := ⟨_, rfl⟩
  rw [← hr]
  unfold digN at hr
  by_cases a0 : 48 ≤ x
  · by_cases a1 : x ≤ 57
    · obtain rfl : r = true := by rw [hr, decide_eq_true a0, decide_eq_true a1]; rfl
      clear hr
      go_enter Tryd.func66, Tryd.ntmps66
      go_wp2_with fail
      go_ret
      first | exact ⟨rfl, rfl⟩ | exact ⟨by simp <;> omega, rfl⟩
    · obtain rfl : r = false := by rw [hr, decide_eq_false a1, Bool.and_false]
      clear hr
      go_enter Tryd.func66, Tryd.ntmps66
      go_wp2_with fail
      go_ret
      first | exact ⟨rfl, rfl⟩ | exact ⟨by simp <;> omega, rfl⟩
  · obtain rfl : r = false := by rw [hr, decide_eq_false a0]; rfl
    clear hr
    go_enter Tryd.func66, Tryd.ntmps66
    go_wp2_with fail
    go_ret
    first | exact ⟨rfl, rfl⟩ | exact ⟨by simp <;> omega, rfl⟩
/-- Behind which character a place lies. -/
def prevN (L : List UInt8) (i : Nat) : Nat := if i = 0 then 32 else (L.getD (i - 1) 0).toNat
theorem title_len (L : List UInt8) : ∀ p, (titleL p L).length = L.length := by
  induction L with
  | nil => intro p; rfl
  | cons c t ih => intro p; rw [titleL, List.length_cons, List.length_cons, ih]
theorem title_getq (L : List UInt8) : ∀ (p i : Nat) (h : i < L.length), (titleL p L)[i]? = some (turnN (if i = 0 then p else (L.getD (i - 1) 0).toNat) (L[i]).toNat).toUInt8 := by
  induction L with
  | nil => intro p i h; exact absurd h (by simp)
  | cons c t ih =>
    intro p i h
    cases i with
    | zero => simp [titleL]
    | succ i =>
      rw [titleL, List.getElem?_cons_succ, ih c.toNat i (by simpa using h)]
      cases i with
      | zero => simp
      | succ i => simp
/-- The first ones turned, the others as they are. -/
def mixL (M L : List UInt8) (i : Nat) : List UInt8 := M.take i ++ L.drop i
theorem mix_len (M L : List UInt8) (i : Nat) (h : M.length = L.length) : (mixL M L i).length = L.length := by
  unfold mixL; rw [List.length_append, List.length_take, List.length_drop]; omega
theorem mix_set (M L : List UInt8) (i : Nat) (h : M.length = L.length) (hi : i < L.length) (y : UInt8) (hy : M[i]? = some y) : mixL M L (i + 1) = (mixL M L i).set i y := by
  unfold mixL
  have hlen : (M.take i).length = i := by rw [List.length_take]; omega
  rw [List.set_append_right _ _ (by omega), hlen, Nat.sub_self, List.drop_eq_getElem_cons hi, List.set_cons_zero, List.take_add_one, hy]
  simp
theorem mix_same (M L : List UInt8) (i : Nat) (h : M.length = L.length) (hi : i < L.length) (hy : M[i]? = some L[i]) : mixL M L (i + 1) = mixL M L i := by
  unfold mixL
  rw [List.drop_eq_getElem_cons hi, List.take_add_one, hy]
  simp

set_option maxHeartbeats 8000000 in
theorem specTitle_walk (s : ByteArray) (w : World) (hs : s.size ≤ 1000) (ha : asciiB s) :
    Calls Tryd.prog 43 #[.string s] w fun e w' => e = .returned (.string ⟨(titleL 32 s.toList).toArray⟩) ∧ Below w.heap.size w w' := by
  obtain ⟨cap, W1, hcv, hrow, hcap, hb⟩ := made_bytes (P := Tryd.prog) w 9 44 5 s Tryd.underlying9 Tryd.underlying44 Tryd.underlying5
  have hl := len_eq s
  have HA := Lib.hid ha
  have hml : (titleL 32 s.toList).length = s.toList.length := title_len _ _
  have hget := title_getq s.toList 32
  obtain ⟨M, hM⟩ : ∃ M, M = titleL 32 s.toList := ⟨_, rfl⟩
  rw [← hM] at hml hget ⊢
  have HML := Lib.hid hml
  have HGET := Lib.hid hget
  have HR := Lib.hid hrow
  have HB := Lib.hid hb
  clear hM hrow hb hget hml ha
  obtain ⟨R, hR⟩ : ∃ R : ByteArray, R = ⟨M.toArray⟩ := ⟨_, rfl⟩
  rw [← hR]
  have HRR := Lib.hid hR
  clear hR
  obtain ⟨n, hn⟩ : ∃ n, n = s.toList.length := ⟨_, rfl⟩
  rw [← hn] at hcv hcap hl
  have HN := Lib.hid hn
  have HLS := Lib.hid hl
  have hns : n ≤ 1000 := by omega
  clear hn hl
  go_enter Tryd.func43, Tryd.ntmps43
  go_wp2_with fail
  go_loopg [4, 9] n (fun kq v4 v9 wr => ∃ (i : Nat) (z : Value), v4 = z ∧ v9 = .int .i64 (i : Int) ∧ i + kq = n ∧ Hid (RowU wr w.heap.size (mixL M s.toList i)) ∧ Hid (Below w.heap.size w wr))
  case atStart => exact ⟨0, _, rfl, rfl, by omega, Lib.hid (by unfold mixL; simpa using HR.out), HB⟩
  case round =>
    obtain ⟨i, z, rfl, rfl, hik, H1, H2⟩ := hrel
    cases gk with
    | zero =>
      have hiz : i = n := by omega
      subst hiz
      have e0 : mixL M s.toList i = M := by unfold mixL; rw [HN.out, ← HML.out, List.take_length, List.drop_eq_nil_of_le (by rw [HML.out]; exact Nat.le_refl _), List.append_nil]
      have h1 := H1.out
      rw [e0] at h1
      have hcs := text_bytes (P := Tryd.prog) 44 9 5 cap Tryd.underlying44 Tryd.underlying5 Tryd.underlying9 h1
      rw [HML.out, ← HN.out] at hcs
      rw [← HRR.out] at hcs
      clear h1 e0 hik
      go_wp2_with fail
      go_ret
      exact ⟨rfl, H2.out⟩
    | succ m =>
      have hi : i < s.toList.length := by have := HN.out; omega
      have hin : i < n := by omega
      have hsn : s.size = n := HLS.out
      have hp1 : i < s.size := by omega
      have HIK := Lib.hid hik
      clear hik
      have hz := fun (W : World) => (H1.out i (by rw [mix_len _ _ _ HML.out]; exact hi)).2
      have hzz := hz w
      have hcell := (H1.out i (by rw [mix_len _ _ _ HML.out]; exact hi)).1
      obtain ⟨o, ho⟩ : ∃ o, o = Value.int .u8 ((mixL M s.toList i)[i]'(by rw [mix_len _ _ _ HML.out]; exact hi)).toNat := ⟨_, rfl⟩
      rw [← ho] at hcell
      clear ho hz
      obtain ⟨c, hcc⟩ : ∃ c, c = s.toList[i] := ⟨_, rfl⟩
      have hg := HGET.out i hi
      rw [← hcc] at hg
      have hc7 : c.toNat < 128 := HA.out c (by rw [hcc]; exact List.getElem_mem hi)
      have hU : (s.extract i (i + 1)).toList = [c] := by rw [tl_extract, List.drop_eq_getElem_cons hi, show i + 1 - i = 1 by omega, ← hcc]; rfl
      have hUP := Lib.hid (fun w => upper_walk (s.extract i (i + 1)) w (by rw [len_eq, hU]; show 1 ≤ 1000; omega))
      have hUe : (⟨((s.extract i (i + 1)).toList.map highB).toArray⟩ : ByteArray).toList = [highB c] := by rw [tl_mk, hU]; rfl
      obtain ⟨U, hUd⟩ : ∃ U : ByteArray, U = ⟨((s.extract i (i + 1)).toList.map highB).toArray⟩ := ⟨_, rfl⟩
      rw [← hUd] at hUP hUe
      have hUz : U.size = 1 := by rw [len_eq, hUe]; rfl
      have hU0 : (U[0]'(by omega)) = highB c := by
        have := index_byte' U 0 (by rw [hUe]; simp) (by omega)
        rw [this]; simp [hUe]
      obtain ⟨y, hy⟩ : ∃ y, y = highB c := ⟨_, rfl⟩
      rw [← hy] at hU0
      have HY := Lib.hid hy
      have HC : Hid (∀ h : i < s.toList.length, s.toList[i]'h = c) := Lib.hid (fun _ => hcc.symm)
      have HHI := Lib.hid hi
      have HU := Lib.hid hUd
      have HUE := Lib.hid hUe
      clear hUd hU hUe hy
      by_cases h0 : i = 0
      · subst h0
        rw [if_pos rfl] at hg
        have hg2 : M[0]? = some y := by
          rw [hg, HY.out]; congr 1
          show (turnN 32 c.toNat).toUInt8 = highB c
          have : turnN 32 c.toNat = (highB c).toNat := by rw [← highN_B]; rfl
          rw [this]; simp
        have HG := Lib.hid hg2
        clear hg hg2 hcc hi
        go_wp2_with fail
        refine (hUP.out _).mono ?_
        rintro e w5 ⟨rfl, hb5⟩
        have HB5 := Lib.hid (H2.out.trans (hb5.mono H2.out.size))
        have hlt5 : w.heap.size < wr.heap.size := World.block_lt_of_cell? _ _ hcell
        have HR5 : Hid (RowU w5 w.heap.size (mixL M s.toList 0)) := Lib.hid (by
          intro j hj
          have h := H1.out j hj
          exact ⟨by rw [World.cell?_of_block (w := wr) (hb5.block _ hlt5)]; exact h.1, by rw [World.frozen?_of_block (w := wr) (hb5.block _ hlt5)]; exact h.2⟩)
        have hcell5 := (World.cell?_of_block (w := wr) (w' := w5) (a := ⟨w.heap.size, 0, none⟩) (hb5.block _ hlt5)).trans hcell
        have hz5 := (World.frozen?_of_block (w := wr) (w' := w5) (a := ⟨w.heap.size, 0, none⟩) (hb5.block _ hlt5)).trans hzz
        clear hb5 hlt5
        go_wp2_with fail
        go_roundg m
        case measure => exact Nat.lt_succ_self m
        case rel =>
          refine ⟨0 + 1, _, rfl, by simp, by (have := HIK.out; omega), Lib.hid ?_, Lib.hid (HB5.out.setCell (Nat.le_refl _) _)⟩
          rw [mix_set _ _ _ HML.out HHI.out _ HG.out]
          exact RowU.store HR5.out 0 _ (by rw [mix_len _ _ _ HML.out]; exact HHI.out)
      · rw [if_neg h0] at hg
        have hpl : i - 1 < s.toList.length := by omega
        have hps : i - 1 < s.size := by omega
        have hi1 : 1 ≤ i := by omega
        obtain ⟨q, hq⟩ : ∃ q, q = s.toList[i - 1] := ⟨_, rfl⟩
        have hq7 : q.toNat < 128 := HA.out q (by rw [hq]; exact List.getElem_mem hpl)
        have hqd : s.toList.getD (i - 1) 0 = q := by rw [hq]; simp [List.getD, List.getElem?_eq_getElem hpl]
        have hix : (s[i - 1]'hps) = q := by rw [hq]; exact index_byte' s (i - 1) hpl hps
        rw [hqd] at hg
        have hsep := sep_eq q.toNat hq7
        have hLW := Lib.hid (fun w => let_walk q.toNat w)
        have hDW := Lib.hid (fun w => dig_walk q.toNat w)
        have hb0 : ((i : Int) == 0) = false := beq_eq_false_iff_ne.2 (by omega)
        clear hq hqd hpl hcc hi
        cases hl1 : letN q.toNat with
        | true =>
          rw [hl1] at hLW hsep
          have hg2 : M[i]? = some c := by
            rw [hg]; unfold turnN; rw [hsep]; simp
          have HG := Lib.hid hg2
          clear hl1 hsep hg hg2
          go_wp2_with fail
          refine (hLW.out _).mono ?_
          rintro e w1 ⟨rfl, rfl⟩
          go_wp2_with fail
          go_roundg m
          case measure => exact Nat.lt_succ_self m
          case rel => exact ⟨i + 1, _, rfl, by simp, by (have := HIK.out; omega), Lib.hid (by rw [mix_same _ _ _ HML.out HHI.out (by rw [HG.out, HC.out HHI.out])]; exact H1.out), H2⟩
        | false =>
          rw [hl1] at hLW hsep
          cases hd1 : digN q.toNat with
          | true =>
            rw [hd1] at hDW hsep
            have hg2 : M[i]? = some c := by
              rw [hg]; unfold turnN; rw [hsep]; simp
            have HG := Lib.hid hg2
            clear hl1 hd1 hsep hg hg2
            go_wp2_with fail
            refine (hLW.out _).mono ?_
            rintro e w1 ⟨rfl, rfl⟩
            go_wp2_with fail
            refine (hDW.out _).mono ?_
            rintro e w1 ⟨rfl, rfl⟩
            go_wp2_with fail
            go_roundg m
            case measure => exact Nat.lt_succ_self m
            case rel => exact ⟨i + 1, _, rfl, by simp, by (have := HIK.out; omega), Lib.hid (by rw [mix_same _ _ _ HML.out HHI.out (by rw [HG.out, HC.out HHI.out])]; exact H1.out), H2⟩
          | false =>
            rw [hd1] at hDW hsep
            by_cases h95 : q.toNat = 95
            · have hg2 : M[i]? = some c := by
                rw [hg]; unfold turnN; rw [hsep, h95]; simp
              have HG := Lib.hid hg2
              have hL95 : ∀ w, Calls Tryd.prog 65 #[.int .u8 (95 : Int)] w fun e w' => e = .returned (.bool false) ∧ w' = w := fun w => let_walk 95 w
              have hD95 : ∀ w, Calls Tryd.prog 66 #[.int .u8 (95 : Int)] w fun e w' => e = .returned (.bool false) ∧ w' = w := fun w => dig_walk 95 w
              clear hLW hDW
              have hLW := Lib.hid hL95
              have hDW := Lib.hid hD95
              clear hl1 hd1 hsep hg hg2 hL95 hD95
              go_wp2_with fail
              refine (hLW.out _).mono ?_
              rintro e w1 ⟨rfl, rfl⟩
              go_wp2_with fail
              refine (hDW.out _).mono ?_
              rintro e w1 ⟨rfl, rfl⟩
              go_wp2_with fail
              go_roundg m
              case measure => exact Nat.lt_succ_self m
              case rel => exact ⟨i + 1, _, rfl, by simp, by (have := HIK.out; omega), Lib.hid (by rw [mix_same _ _ _ HML.out HHI.out (by rw [HG.out, HC.out HHI.out])]; exact H1.out), H2⟩
            · have hg2 : M[i]? = some y := by
                have hst : sepN q.toNat = true := by rw [hsep, beq_eq_false_iff_ne.2 h95]; rfl
                rw [hg, HY.out]; unfold turnN; rw [hst, if_pos rfl, highN_B]; simp
              have HG := Lib.hid hg2
              have hb95 : ((q.toNat : Int) == 95) = false := beq_eq_false_iff_ne.2 (by omega)
              clear hl1 hd1 hsep hg hg2
              go_wp2_with fail
              refine (hLW.out _).mono ?_
              rintro e w1 ⟨rfl, rfl⟩
              go_wp2_with fail
              refine (hDW.out _).mono ?_
              rintro e w1 ⟨rfl, rfl⟩
              go_wp2_with fail
              refine (hUP.out _).mono ?_
              rintro e w5 ⟨rfl, hb5⟩
              have HB5 := Lib.hid (H2.out.trans (hb5.mono H2.out.size))
              have hlt5 : w.heap.size < w1.heap.size := World.block_lt_of_cell? _ _ hcell
              have HR5 : Hid (RowU w5 w.heap.size (mixL M s.toList i)) := Lib.hid (by
                intro j hj
                have h := H1.out j hj
                exact ⟨by rw [World.cell?_of_block (w := w1) (hb5.block _ hlt5)]; exact h.1, by rw [World.frozen?_of_block (w := w1) (hb5.block _ hlt5)]; exact h.2⟩)
              have hcell5 := (World.cell?_of_block (w := w1) (w' := w5) (a := ⟨w.heap.size, i, none⟩) (hb5.block _ hlt5)).trans hcell
              have hz5 := (World.frozen?_of_block (w := w1) (w' := w5) (a := ⟨w.heap.size, i, none⟩) (hb5.block _ hlt5)).trans hzz
              clear hb5 hlt5
              go_wp2_with fail
              go_roundg m
              case measure => exact Nat.lt_succ_self m
              case rel =>
                refine ⟨i + 1, _, rfl, by simp, by (have := HIK.out; omega), Lib.hid ?_, Lib.hid (HB5.out.setCell (Nat.le_refl _) _)⟩
                rw [mix_set _ _ _ HML.out HHI.out _ HG.out]
                exact RowU.store HR5.out i _ (by rw [mix_len _ _ _ HML.out]; exact HHI.out)
def spec_Title.f (a0 : ByteArray) : Option (ByteArray) := if a0.size ≤ 1000 ∧ asciiB a0 then some ⟨(titleL 32 a0.toList).toArray⟩ else none
theorem spec_Title.calls (a0 : ByteArray) (r : ByteArray) (w : World) (h : spec_Title.f a0 = some r) :
    Calls Tryd.prog 43 #[.string a0] w fun e w' => e = .returned (.string r) ∧ Below w.heap.size w w' := by
  unfold spec_Title.f at h
  split at h
  · obtain rfl := Option.some.inj h
    rename_i hb
    exact specTitle_walk a0 w hb.1 hb.2
  · exact absurd h (by simp)

end Go.Proofs.YtpkdoinofenahaaDoor.Giv
