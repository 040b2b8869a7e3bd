/- Semantic versions: the checks of a pre-release's and of metadata's parts answer nil at plain parts. -/
import Derived.Test.YtmoilbhkjmhoaaaDoorSvOnly
import Derived.Test.YtmoilbhkjmhoaaaDoorSvDots
import Derived.Test.YtmoilbhkjmhoaaaDoorSvParse
namespace Go.Proofs.YtmoilbhkjmhoaaaDoor.Sv
open Go.RowKit Go.Proofs.YtmoilbhkjmhoaaaDoor.PFnSemverOrderThree Go.Proofs.YtmoilbhkjmhoaaaDoorW.PrintWords Go.Proofs.YtmoilbhkjmhoaaaDoor.Txt Go.Proofs.YtmoilbhkjmhoaaaDoor
set_option linter.unusedVariables false
set_option linter.unusedSimpArgs false
set_option maxRecDepth 20000

theorem getD_str {w : World} {A : Option Addr} {n : Nat} {l : List ByteArray} (h : Kd.C Kd.string w A n l) (j : Nat) (hj : j < n) : ∃ ad, A = some ad ∧ w.cell? (ad.add j) = some (.string (l.getD j ⟨#[]⟩)) := by
  obtain ⟨ad, c, e, hs, hk, hc⟩ := Kd.C_get h ⟨#[]⟩ (j : Int) (by omega) (by omega)
  refine ⟨ad, e, ?_⟩
  have hk' : c = [Value.string (l.getD j ⟨#[]⟩)] := hk
  have := hc 0 (Value.string (l.getD j ⟨#[]⟩)) (by rw [hk']; rfl)
  have e1 : Kd.string.sz = 1 := rfl
  rw [Int.toNat_natCast, e1, Nat.mul_one, Nat.add_zero] at this
  exact this
/-- The two sets. -/
def NUM : ByteArray := ⟨#[48, 49, 50, 51, 52, 53, 54, 55, 56, 57]⟩
def ALLOWED : ByteArray := ⟨#[97, 98, 99, 100, 101, 102, 103, 104, 105, 106, 107, 108, 109, 110, 111, 112, 113, 114, 115, 116, 117, 118, 119, 120, 121, 122, 65, 66, 67, 68, 69, 70, 71, 72, 73, 74, 75, 76, 77, 78, 79, 80, 81, 82, 83, 84, 85, 86, 87, 88, 89, 90, 45, 48, 49, 50, 51, 52, 53, 54, 55, 56, 57]⟩
theorem num_asc : Asc NUM := fun i h => by
  have : ∀ j : Fin 10, (NUM[j.val]'(by have := j.isLt; exact this)).toNat < 128 := by decide
  exact this ⟨i, h⟩
theorem allowed_asc : Asc ALLOWED := fun i h => by
  have : ∀ j : Fin 63, (ALLOWED[j.val]'(by have := j.isLt; exact this)).toNat < 128 := by decide
  exact this ⟨i, h⟩
theorem num_mem (n : Fin 256) : (UInt8.ofNat n.val ∈ NUM.toList) ↔ isDig (UInt8.ofNat n.val) = true := by
  rw [show NUM.toList = [48, 49, 50, 51, 52, 53, 54, 55, 56, 57] by unfold NUM; rw [Lib.toList_data]]
  revert n; decide +kernel
theorem allowed_mem (n : Fin 256) : isPart (UInt8.ofNat n.val) = true → (UInt8.ofNat n.val ∈ ALLOWED.toList) := by
  rw [show ALLOWED.toList = [97, 98, 99, 100, 101, 102, 103, 104, 105, 106, 107, 108, 109, 110, 111, 112, 113, 114, 115, 116, 117, 118, 119, 120, 121, 122, 65, 66, 67, 68, 69, 70, 71, 72, 73, 74, 75, 76, 77, 78, 79, 80, 81, 82, 83, 84, 85, 86, 87, 88, 89, 90, 45, 48, 49, 50, 51, 52, 53, 54, 55, 56, 57] by unfold ALLOWED; rw [Lib.toList_data]]
  revert n; decide +kernel
theorem num_iff (x : UInt8) : x ∈ NUM.toList ↔ isDig x = true := by
  have := num_mem ⟨x.toNat, x.toNat_lt⟩
  simpa [UInt8.ofNat_toNat] using this
theorem allowed_of (x : UInt8) (h : isPart x = true) : x ∈ ALLOWED.toList := by
  have := allowed_mem ⟨x.toNat, x.toNat_lt⟩
  simp only [UInt8.ofNat_toNat] at this
  exact this h
theorem part_asc (n : Fin 256) : isPart (UInt8.ofNat n.val) = true → n.val < 128 := by revert n; decide +kernel
theorem part_small {x : UInt8} (h : isPart x = true) : x.toNat < 128 := by
  have := part_asc ⟨x.toNat, x.toNat_lt⟩
  simp only [UInt8.ofNat_toNat] at this
  exact this h
theorem part_ba {p : List UInt8} (h : p.all isPart = true) : Asc (ba p) := asc_of fun x hx => by
  rw [tl_ba] at hx
  exact part_small (List.all_eq_true.1 h x hx)
theorem only_num {p : List UInt8} (h : p.all isPart = true) (hz : p.length ≤ 1000) (W : World) :
    Calls Tryd.prog 57 #[.string (ba p), .string NUM] W fun e w' => e = .returned (.bool (p.all isDig)) ∧ Below W.heap.size W w' := by
  refine (containsOnly_walk (ba p) NUM (by rw [ba_size]; exact hz) (by decide) (part_ba h) num_asc W).mono ?_
  rintro e w' ⟨b, rfl, hb, hB⟩
  refine ⟨?_, hB⟩
  have : b = p.all isDig := by
    rw [Bool.eq_iff_iff, hb, tl_ba, List.all_eq_true]
    exact ⟨fun h x hx => (num_iff x).1 (h x hx), fun h x hx => (num_iff x).2 (h x hx)⟩
  rw [this]
theorem only_allowed {p : List UInt8} (h : p.all isPart = true) (hz : p.length ≤ 1000) (W : World) :
    Calls Tryd.prog 57 #[.string (ba p), .string ALLOWED] W fun e w' => e = .returned (.bool true) ∧ Below W.heap.size W w' := by
  refine (containsOnly_walk (ba p) ALLOWED (by rw [ba_size]; exact hz) (by decide) (part_ba h) allowed_asc W).mono ?_
  rintro e w' ⟨b, rfl, hb, hB⟩
  refine ⟨?_, hB⟩
  rw [hb.2 fun x hx => allowed_of x (by rw [tl_ba] at hx; exact List.all_eq_true.1 h x hx)]

theorem dots_big : ∀ {ps : List (List UInt8)} {p : List UInt8}, p ∈ ps → p.length ≤ (dots ps).length
  | a :: r, p, h => by
    rw [dots_cons, List.length_append]
    rcases List.mem_cons.1 h with rfl | h
    · omega
    · cases r with
      | nil => exact absurd h (by simp)
      | cons b r => have := dots_big h; simp only [rest, List.length_cons] at this ⊢; omega

set_option maxHeartbeats 4000000 in
theorem validateMetadata_walk {ps : List (List UInt8)} (h : PartsOk ps) (hz : (dots ps).length ≤ 1000) (w : World) :
    Calls Tryd.prog 46 #[.string (ba (dots ps))] w fun e w' => e = .returned .nilIface ∧ Below w.heap.size w w' := by
  have HZ : Hid (Calls Tryd.prog 48 #[.string (ba (dots ps)), .string ⟨#[46]⟩] w fun e w' => ∃ v0_ : Value, e = .returned (v0_) ∧ Kd.R Kd.string 9 w' w.heap.size (fun _ => True) v0_ (ps.map ba) ∧ Below w.heap.size w w') := Lib.hid (by
    obtain ⟨k, hk⟩ := split_dots h hz
    exact semver_zzSplit.calls k _ _ _ w (hk k (Nat.le_refl _)))
  have HO : Hid (∀ p ∈ ps, ∀ W, Calls Tryd.prog 57 #[.string (ba p), .string ALLOWED] W fun e w' => e = .returned (.bool true) ∧ Below W.heap.size W w') :=
    Lib.hid fun p hp W => only_allowed (h.2 p hp).2 (Nat.le_trans (dots_big hp) hz) W
  have HE : Hid (∀ p ∈ ps, (ba p).toList.isEmpty = false) := Lib.hid fun p hp => by rw [tl_ba, List.isEmpty_eq_false_iff]; exact (h.2 p hp).1
  obtain ⟨s, hs⟩ : ∃ s, s = ba (dots ps) := ⟨_, rfl⟩
  rw [← hs] at HZ ⊢
  obtain ⟨N, hN⟩ : ∃ N, N = ps.length := ⟨_, rfl⟩
  have hNb : N ≤ 1000 := by
    have hlen : ∀ qs : List (List UInt8), (∀ p ∈ qs, p ≠ []) → qs.length ≤ (dots qs).length := by
      intro qs
      induction qs with
      | nil => simp
      | cons a r ih =>
        intro hq
        have ha := List.length_pos_iff.2 (hq a (by simp))
        have := ih fun p hp => hq p (by simp [hp])
        cases r with
        | nil => simp [dots]; omega
        | cons b r => simp only [dots, List.length_append, List.length_cons] at this ⊢; omega
    have := hlen ps fun p hp => (h.2 p hp).1
    omega
  have hmap : (ps.map ba).length = N := by rw [List.length_map, hN]
  have HN := Lib.hid hN
  clear h hz hs hN
  go_enter Tryd.func46, Tryd.ntmps46
  go_wp2_with fail
  refine HZ.out.mono ?_
  rintro e w1 ⟨v0, rfl, HR, hb1⟩
  obtain ⟨A, c, rfl⟩ := Kd.R_slice HR
  have HC := Lib.hid (Kd.R_reads' HR).2.2
  have HB1 := Lib.hid hb1
  clear HR hb1
  rw [hmap] at HC ⊢
  clear hmap
  go_wp2_with fail
  go_loopg [10] N (fun kq v10 wr => ∃ (i : Nat), v10 = .int .i64 (i : Int) ∧ i + kq = N ∧ Hid (Below w1.heap.size w1 wr))
  case atStart =>
    exact ⟨0, rfl, by omega, Lib.hid (Below.refl _ _)⟩
  case round =>
    obtain ⟨i, rfl, hik, HB⟩ := hrel
    cases gk with
    | zero =>
      have hin : i = N := by omega
      have hni : ¬ (i : Int) < (N : Int) := by omega
      have HIN := Lib.hid hin
      clear hin hik
      go_wp2_with fail
      go_ret
      exact ⟨rfl, HB1.out.trans (HB.out.mono HB1.out.size)⟩
    | succ m =>
      have hi : i < N := by omega
      have hi' : i < ps.length := by have := HN.out; omega
      obtain ⟨ad, rfl, hc⟩ := getD_str (Kd.C_below HC.out HB.out) i hi
      obtain ⟨u, hu⟩ : ∃ u, u = ba ps[i] := ⟨_, rfl⟩
      have hgd : (ps.map ba).getD i ⟨#[]⟩ = u := by rw [hu, List.getD_eq_getElem?_getD, List.getElem?_map, List.getElem?_eq_getElem hi']; rfl
      rw [hgd] at hc
      have HIT := Lib.hid (HO.out ps[i] (List.getElem_mem hi') wr)
      have hne := HE.out ps[i] (List.getElem_mem hi')
      rw [← hu] at HIT hne
      have HIK := Lib.hid hik
      clear hgd hu hik
      unfold ALLOWED at HIT
      go_wp2_with fail
      refine HIT.out.mono ?_
      rintro e w2 ⟨rfl, hb2⟩
      have HB2 := Lib.hid (HB.out.trans (hb2.mono HB.out.size))
      clear hb2
      have hw : wrap64 ((i : Int) + 1) = ((i + 1 : Nat) : Int) := by unfold wrap64; omega
      go_wp2_with fail
      go_roundg m
      case measure => exact Nat.lt_succ_self m
      case rel => exact ⟨i + 1, by first | rfl | (simp only [hw]) | (congr 1; omega), by have := HIK.out; omega, HB2⟩
set_option maxHeartbeats 4000000 in
theorem validatePrerelease_walk {ps : List (List UInt8)} (h : ps ≠ [] ∧ ∀ p ∈ ps, IdOk p) (hz : (dots ps).length ≤ 1000) (w : World) :
    Calls Tryd.prog 45 #[.string (ba (dots ps))] w fun e w' => e = .returned .nilIface ∧ Below w.heap.size w w' := by
  have HZ : Hid (Calls Tryd.prog 48 #[.string (ba (dots ps)), .string ⟨#[46]⟩] w fun e w' => ∃ v0_ : Value, e = .returned (v0_) ∧ Kd.R Kd.string 9 w' w.heap.size (fun _ => True) v0_ (ps.map ba) ∧ Below w.heap.size w w') := Lib.hid (by
    obtain ⟨k, hk⟩ := split_dots ⟨h.1, fun p hp => ⟨(h.2 p hp).1, (h.2 p hp).2.1⟩⟩ hz
    exact semver_zzSplit.calls k _ _ _ w (hk k (Nat.le_refl _)))
  have HO : Hid (∀ p ∈ ps, ∀ W, Calls Tryd.prog 57 #[.string (ba p), .string ALLOWED] W fun e w' => e = .returned (.bool true) ∧ Below W.heap.size W w') :=
    Lib.hid fun p hp W => only_allowed (h.2 p hp).2.1 (Nat.le_trans (dots_big hp) hz) W
  have HQ : Hid (∀ p ∈ ps, ∀ W, Calls Tryd.prog 57 #[.string (ba p), .string NUM] W fun e w' => e = .returned (.bool (p.all isDig)) ∧ Below W.heap.size W w') :=
    Lib.hid fun p hp W => only_num (h.2 p hp).2.1 (Nat.le_trans (dots_big hp) hz) W
  have HK : Hid (∀ p ∈ ps, p.all isDig = true → (ba p).size = 1 ∨ ((ba p).size ≤ 15 ∧ ∃ h0 : 0 < (ba p).size, ((((ba p)[0]'h0).toNat : Int) == 48) = false)) := Lib.hid fun p hp hd => by
    obtain ⟨hc, hl⟩ := (h.2 p hp).2.2 hd
    have h0 := List.length_pos_iff.2 (h.2 p hp).1
    rcases hc with hc | hc
    · exact .inl (by rw [ba_size]; exact hc)
    · refine .inr ⟨by rw [ba_size]; exact hl, by rw [ba_size]; exact h0, ?_⟩
      have hz0 : 0 < (ba p).size := by rw [ba_size]; exact h0
      have hg := get_list (ba p) 0 hz0 (by rw [tl_ba]; exact h0)
      rw [beq_eq_false_iff_ne, ← hg]
      simp only [tl_ba]
      intro e
      refine hc ?_
      cases p with
      | nil => exact absurd h0 (by simp)
      | cons x r =>
        have e' : (x.toNat : Int) = 48 := e
        have : x = 48 := UInt8.toNat_inj.1 (by show x.toNat = 48; omega)
        rw [this]; rfl
  have HE : Hid (∀ p ∈ ps, (ba p).toList.isEmpty = false) := Lib.hid fun p hp => by rw [tl_ba, List.isEmpty_eq_false_iff]; exact (h.2 p hp).1
  obtain ⟨s, hs⟩ : ∃ s, s = ba (dots ps) := ⟨_, rfl⟩
  rw [← hs] at HZ ⊢
  obtain ⟨N, hN⟩ : ∃ N, N = ps.length := ⟨_, rfl⟩
  have hNb : N ≤ 1000 := by
    have hlen : ∀ qs : List (List UInt8), (∀ p ∈ qs, p ≠ []) → qs.length ≤ (dots qs).length := by
      intro qs
      induction qs with
      | nil => simp
      | cons a r ih =>
        intro hq
        have ha := List.length_pos_iff.2 (hq a (by simp))
        have := ih fun p hp => hq p (by simp [hp])
        cases r with
        | nil => simp [dots]; omega
        | cons b r => simp only [dots, List.length_append, List.length_cons] at this ⊢; omega
    have := hlen ps fun p hp => (h.2 p hp).1
    omega
  have hmap : (ps.map ba).length = N := by rw [List.length_map, hN]
  have HN := Lib.hid hN
  clear h hz hs hN
  go_enter Tryd.func45, Tryd.ntmps45
  go_wp2_with fail
  refine HZ.out.mono ?_
  rintro e w1 ⟨v0, rfl, HR, hb1⟩
  obtain ⟨A, c, rfl⟩ := Kd.R_slice HR
  have HC := Lib.hid (Kd.R_reads' HR).2.2
  have HB1 := Lib.hid hb1
  clear HR hb1
  rw [hmap] at HC ⊢
  clear hmap
  go_wp2_with fail
  go_loopg [10] N (fun kq v10 wr => ∃ (i : Nat), v10 = .int .i64 (i : Int) ∧ i + kq = N ∧ Hid (Below w1.heap.size w1 wr))
  case atStart =>
    exact ⟨0, rfl, by omega, Lib.hid (Below.refl _ _)⟩
  case round =>
    obtain ⟨i, rfl, hik, HB⟩ := hrel
    cases gk with
    | zero =>
      have hin : i = N := by omega
      have hni : ¬ (i : Int) < (N : Int) := by omega
      have HIN := Lib.hid hin
      clear hin hik
      go_wp2_with fail
      go_ret
      exact ⟨rfl, HB1.out.trans (HB.out.mono HB1.out.size)⟩
    | succ m =>
      have hi : i < N := by omega
      have hi' : i < ps.length := by have := HN.out; omega
      obtain ⟨ad, rfl, hc⟩ := getD_str (Kd.C_below HC.out HB.out) i hi
      obtain ⟨u, hu⟩ : ∃ u, u = ba ps[i] := ⟨_, rfl⟩
      have hgd : (ps.map ba).getD i ⟨#[]⟩ = u := by rw [hu, List.getD_eq_getElem?_getD, List.getElem?_map, List.getElem?_eq_getElem hi']; rfl
      rw [hgd] at hc
      have HIQ := Lib.hid (HQ.out ps[i] (List.getElem_mem hi') wr)
      have HIO := Lib.hid (fun W => HO.out ps[i] (List.getElem_mem hi') W)
      have hkk := HK.out ps[i] (List.getElem_mem hi')
      have hne := HE.out ps[i] (List.getElem_mem hi')
      rw [← hu] at HIQ HIO hne hkk
      have HIK := Lib.hid hik
      obtain ⟨dg, hdg⟩ : ∃ dg, dg = ps[i].all isDig := ⟨_, rfl⟩
      rw [← hdg] at HIQ hkk
      have HKK := Lib.hid hkk
      clear hgd hu hik hdg hkk
      unfold ALLOWED at HIO
      unfold NUM at HIQ
      have hw : wrap64 ((i : Int) + 1) = ((i + 1 : Nat) : Int) := by unfold wrap64; omega
      go_wp2_with fail
      refine HIQ.out.mono ?_
      rintro e w2 ⟨rfl, hb2⟩
      have HB2 := Lib.hid (HB.out.trans (hb2.mono HB.out.size))
      clear hb2
      cases dg with
      | false =>
        have HI2 := Lib.hid (HIO.out w2)
        go_wp2_with fail
        refine HI2.out.mono ?_
        rintro e w3 ⟨rfl, hb3⟩
        have HB3 := Lib.hid (HB2.out.trans (hb3.mono HB2.out.size))
        clear hb3
        go_wp2_with fail
        go_roundg m
        case measure => exact Nat.lt_succ_self m
        case rel => exact ⟨i + 1, by first | rfl | (simp only [hw]) | (congr 1; omega), by have := HIK.out; omega, HB3⟩
      | true =>
        rcases HKK.out rfl with h1 | ⟨h15, h0, h48⟩
        · have h1' : ¬ (u.size : Int) > 1 := by omega
          go_wp2_with fail
          go_roundg m
          case measure => exact Nat.lt_succ_self m
          case rel => exact ⟨i + 1, by first | rfl | (simp only [hw]) | (congr 1; omega), by have := HIK.out; omega, HB2⟩
        · by_cases h1 : (u.size : Int) > 1
          · go_wp2_with fail
            go_roundg m
            case measure => exact Nat.lt_succ_self m
            case rel => exact ⟨i + 1, by first | rfl | (simp only [hw]) | (congr 1; omega), by have := HIK.out; omega, HB2⟩
          · go_wp2_with fail
            go_roundg m
            case measure => exact Nat.lt_succ_self m
            case rel => exact ⟨i + 1, by first | rfl | (simp only [hw]) | (congr 1; omega), by have := HIK.out; omega, HB2⟩
end Go.Proofs.YtmoilbhkjmhoaaaDoor.Sv
