/- cast: digits with .25 behind are cut. Printed by gen_ctrim.py. -/
import Derived.Test.YtakogidcjjmihaaDoorPFnCastTextx1
import Derived.Test.YtakogidcjjmihaaDoorPInt
import Derived.Test.YtakogidcjjmihaaDoorPDig
namespace Go.Proofs.YtakogidcjjmihaaDoor.Pu
open Go.RowKit Go.Proofs.YtakogidcjjmihaaDoorW.PrintWords Go.Proofs.YtakogidcjjmihaaDoor.Txt Go.Proofs.YtakogidcjjmihaaDoor.PFnCastText
set_option linter.unusedVariables false
set_option linter.unusedSimpArgs false
set_option maxRecDepth 100000
/-- A text of digits from p up to q, with .25 behind. -/
structure Cut25 (s : ByteArray) (p q : Nat) : Prop where
  pq : p < q
  size : s.size = q + 3
  small : q ≤ 1000
  dig : ∀ j (h : j < s.size), p ≤ j → j < q → 48 ≤ (s[j]'h).toNat ∧ (s[j]'h).toNat ≤ 57
  at0 : ∀ h, (s[q]'h).toNat = 46
  at1 : ∀ h, (s[q + 1]'h).toNat = 50
  at2 : ∀ h, (s[q + 2]'h).toNat = 53
set_option maxHeartbeats 4000000 in
theorem zzNumber_pos (s : ByteArray) (q : Nat) (h : Cut25 s 0 q) (w : World) :
    Calls Tryd.prog 30 #[.string s] w fun e w' => e = .returned (.tuple #[.string (s.extract 0 q), .bool true]) ∧ w' = w := by
  have hsz := h.size
  have hq := h.small
  have hpq := h.pq
  have hs0 : 0 < s.size := by omega
  have HCUT := Lib.hid h
  have HSZ := Lib.hid hsz
  obtain ⟨k, hk⟩ : ∃ k, k = (s[0]'hs0).toNat := ⟨_, rfl⟩
  have b0 : ∀ h, (s[0]'h).toNat = k := fun h => hk.symm
  have hd0 := h.dig 0 hs0 (Nat.le_refl _) hpq
  rw [← hk] at hd0
  have z1 : (k == 43) = false := by simp <;> omega
  have z2 : (k == 45) = false := by simp <;> omega
  have z3 : ((k : Int) == 43) = false := by simp <;> omega
  have z4 : ((k : Int) == 45) = false := by simp <;> omega
  clear hk hd0
  have HPQ := Lib.hid hpq
  clear h hsz hpq
  go_enter Tryd.func30, Tryd.ntmps30
  go_wp2_with fail
  go_loopg [4] (q - 0) (fun kq v4 wr => ∃ i : Nat, v4 = .int .i64 (i : Int) ∧ 0 ≤ i ∧ i + kq = q ∧ wr = w)
  case atStart => exact ⟨0, rfl, Nat.le_refl _, by have := HPQ.out; omega, rfl⟩
  case round =>
    obtain ⟨i, rfl, hpi, hiq, rfl⟩ := hrel
    cases gk with
    | zero =>
      have hi : i = q := by omega
      subst hi
      have u1 : (i : Int) < (s.size : Int) := by have := HSZ.out; omega
      have u2 : i < s.size := by omega
      have c0 := HCUT.out.at0
      have u3 : (i : Int) ≤ (s.size : Int) := by omega
      clear hiq
      go_wp2_with fail
      go_loopg [4] 2 (fun kq v4 wq => ∃ j : Nat, v4 = .int .i64 (j : Int) ∧ i + 1 ≤ j ∧ j + kq = i + 3 ∧ wq = wr)
      case atStart => exact ⟨i + 1, by simp, Nat.le_refl _, by omega, rfl⟩
      case round =>
        obtain ⟨j, rfl, hpj, hjq, rfl⟩ := hrel
        cases gk with
        | zero =>
          have hj : j = s.size := by have := HSZ.out; omega
          have v1 : ¬ (j : Int) < (s.size : Int) := by omega
          have v2 : ((j : Int) == (s.size : Int)) = true := by simp; omega
          have HJ := Lib.hid hj
          clear hj hjq
          go_wp2_with fail
          go_ret2
          exact ⟨by first | rfl | simp, rfl⟩
        | succ m =>
          have v1 : (j : Int) < (s.size : Int) := by have := HSZ.out; omega
          have v1' : j < s.size := by omega
          obtain ⟨d, hd⟩ : ∃ d, d = (s[j]'v1').toNat := ⟨_, rfl⟩
          have cj : ∀ h, (s[j]'h).toNat = d := fun h => hd.symm
          have hdr : 48 ≤ d ∧ d ≤ 57 := by
            rcases (by omega : j = i + 1 ∨ j = i + 2) with e | e
            · subst e; rw [hd, HCUT.out.at1]; omega
            · subst e; rw [hd, HCUT.out.at2]; omega
          have x1 : (48 : Int) ≤ (d : Int) := by omega
          have x2 : (d : Int) ≤ 57 := by omega
          have HJ := Lib.hid (And.intro hpj hjq)
          have hj1 : j ≤ 2000 := by omega
          clear hd hdr hpj hjq
          go_wp2_with fail
          go_roundg m
          case measure => exact Nat.lt_succ_self m
          case rel => exact ⟨j + 1, by simp, by have := HJ.out; omega, by have := HJ.out; omega, rfl⟩
    | succ m =>
      have v1 : (i : Int) < (s.size : Int) := by have := HSZ.out; omega
      have v1' : i < s.size := by omega
      obtain ⟨d, hd⟩ : ∃ d, d = (s[i]'v1').toNat := ⟨_, rfl⟩
      have cj : ∀ h, (s[i]'h).toNat = d := fun h => hd.symm
      have hdr : 48 ≤ d ∧ d ≤ 57 := by rw [hd]; exact HCUT.out.dig i v1' hpi (by omega)
      have x1 : (48 : Int) ≤ (d : Int) := by omega
      have x2 : (d : Int) ≤ 57 := by omega
      have HJ := Lib.hid (And.intro hpi hiq)
      have hi1 : i ≤ 2000 := by omega
      clear hd hdr hpi hiq
      go_wp2_with fail
      go_roundg m
      case measure => exact Nat.lt_succ_self m
      case rel => exact ⟨i + 1, by simp, by have := HJ.out; omega, by have := HJ.out; omega, rfl⟩
set_option maxHeartbeats 4000000 in
theorem zzNumber_neg (s : ByteArray) (q : Nat) (h : Cut25 s 1 q) (hm : ∀ h, (s[0]'h).toNat = 45) (w : World) :
    Calls Tryd.prog 30 #[.string s] w fun e w' => e = .returned (.tuple #[.string (s.extract 0 q), .bool true]) ∧ w' = w := by
  have hsz := h.size
  have hq := h.small
  have hpq := h.pq
  have hs0 : 0 < s.size := by omega
  have HCUT := Lib.hid h
  have HSZ := Lib.hid hsz
  have b0 : ∀ h, (s[0]'h).toNat = 45 := hm
  clear hm
  have HPQ := Lib.hid hpq
  clear h hsz hpq
  go_enter Tryd.func30, Tryd.ntmps30
  go_wp2_with fail
  go_loopg [4] (q - 1) (fun kq v4 wr => ∃ i : Nat, v4 = .int .i64 (i : Int) ∧ 1 ≤ i ∧ i + kq = q ∧ wr = w)
  case atStart => exact ⟨1, rfl, Nat.le_refl _, by have := HPQ.out; omega, rfl⟩
  case round =>
    obtain ⟨i, rfl, hpi, hiq, rfl⟩ := hrel
    cases gk with
    | zero =>
      have hi : i = q := by omega
      subst hi
      have u1 : (i : Int) < (s.size : Int) := by have := HSZ.out; omega
      have u2 : i < s.size := by omega
      have c0 := HCUT.out.at0
      have u3 : (i : Int) ≤ (s.size : Int) := by omega
      clear hiq
      go_wp2_with fail
      go_loopg [4] 2 (fun kq v4 wq => ∃ j : Nat, v4 = .int .i64 (j : Int) ∧ i + 1 ≤ j ∧ j + kq = i + 3 ∧ wq = wr)
      case atStart => exact ⟨i + 1, by simp, Nat.le_refl _, by omega, rfl⟩
      case round =>
        obtain ⟨j, rfl, hpj, hjq, rfl⟩ := hrel
        cases gk with
        | zero =>
          have hj : j = s.size := by have := HSZ.out; omega
          have v1 : ¬ (j : Int) < (s.size : Int) := by omega
          have v2 : ((j : Int) == (s.size : Int)) = true := by simp; omega
          have HJ := Lib.hid hj
          clear hj hjq
          go_wp2_with fail
          go_ret2
          exact ⟨by first | rfl | simp, rfl⟩
        | succ m =>
          have v1 : (j : Int) < (s.size : Int) := by have := HSZ.out; omega
          have v1' : j < s.size := by omega
          obtain ⟨d, hd⟩ : ∃ d, d = (s[j]'v1').toNat := ⟨_, rfl⟩
          have cj : ∀ h, (s[j]'h).toNat = d := fun h => hd.symm
          have hdr : 48 ≤ d ∧ d ≤ 57 := by
            rcases (by omega : j = i + 1 ∨ j = i + 2) with e | e
            · subst e; rw [hd, HCUT.out.at1]; omega
            · subst e; rw [hd, HCUT.out.at2]; omega
          have x1 : (48 : Int) ≤ (d : Int) := by omega
          have x2 : (d : Int) ≤ 57 := by omega
          have HJ := Lib.hid (And.intro hpj hjq)
          have hj1 : j ≤ 2000 := by omega
          clear hd hdr hpj hjq
          go_wp2_with fail
          go_roundg m
          case measure => exact Nat.lt_succ_self m
          case rel => exact ⟨j + 1, by simp, by have := HJ.out; omega, by have := HJ.out; omega, rfl⟩
    | succ m =>
      have v1 : (i : Int) < (s.size : Int) := by have := HSZ.out; omega
      have v1' : i < s.size := by omega
      obtain ⟨d, hd⟩ : ∃ d, d = (s[i]'v1').toNat := ⟨_, rfl⟩
      have cj : ∀ h, (s[i]'h).toNat = d := fun h => hd.symm
      have hdr : 48 ≤ d ∧ d ≤ 57 := by rw [hd]; exact HCUT.out.dig i v1' hpi (by omega)
      have x1 : (48 : Int) ≤ (d : Int) := by omega
      have x2 : (d : Int) ≤ 57 := by omega
      have HJ := Lib.hid (And.intro hpi hiq)
      have hi1 : i ≤ 2000 := by omega
      clear hd hdr hpi hiq
      go_wp2_with fail
      go_roundg m
      case measure => exact Nat.lt_succ_self m
      case rel => exact ⟨i + 1, by simp, by have := HJ.out; omega, by have := HJ.out; omega, rfl⟩
/-- Where a point stands first. -/
def idx46 : List UInt8 → Nat → Int
  | [], _ => -1
  | c :: t, i => if c = 46 then (i : Int) else idx46 t (i + 1)
theorem idx46_no : ∀ (l : List UInt8) (i : Nat), (∀ c ∈ l, c ≠ 46) → idx46 l i = -1
  | [], _, _ => rfl
  | c :: t, i, h => by
    rw [idx46, if_neg (h c (by simp))]
    exact idx46_no t (i + 1) fun x hx => h x (by simp [hx])
theorem idx46_yes : ∀ (l : List UInt8) (i : Nat), 46 ∈ l → 0 ≤ idx46 l i
  | [], _, h => by cases h
  | c :: t, i, h => by
    rw [idx46]
    by_cases hc : c = 46
    · rw [if_pos hc]; omega
    · rw [if_neg hc]
      exact idx46_yes t (i + 1) ((List.mem_cons.1 h).resolve_left fun e => hc e.symm)
theorem index_ev (s : ByteArray) (hs : s.size ≤ 100000) : ∀ (d i : Nat), s.size - i = d → i ≤ s.size → Ev (fun k => cast_zzIndex.l0 k s ⟨#[46]⟩ (i : Int)) (idx46 (s.toList.drop i) i) := by
  have hl := len_eq s
  intro d
  induction d with
  | zero =>
    intro i hd hi
    rw [List.drop_eq_nil_of_le (by omega)]
    refine Ev.step (f := fun _ => some (-1)) (fun k => ?_) (Ev.now _)
    have e1 : wrap64 ((i : Int) + (((⟨#[46]⟩ : ByteArray).size : Nat) : Int)) = ((i + 1 : Nat) : Int) := wadd i 1 (by omega)
    simp only [cast_zzIndex.l0]
    rw [e1, if_neg (by omega)]
  | succ d ih =>
    intro i hd hi
    have hlt : i < s.toList.length := by omega
    have e1 : wrap64 ((i : Int) + (((⟨#[46]⟩ : ByteArray).size : Nat) : Int)) = ((i + 1 : Nat) : Int) := wadd i 1 (by omega)
    have e2 : (s.extract (i : Int).toNat (((i + 1 : Nat) : Int)).toNat).toList = [s.toList[i]] := by
      rw [Int.toNat_natCast, Int.toNat_natCast, tl_extract, List.drop_eq_getElem_cons hlt, show i + 1 - i = 1 by omega]; rfl
    have e3 : (⟨#[46]⟩ : ByteArray).toList = [46] := by rw [Lib.toList_data]
    rw [List.drop_eq_getElem_cons hlt, idx46]
    by_cases hc : s.toList[i] = 46
    · rw [if_pos hc]
      refine Ev.step (f := fun _ => some (i : Int)) (fun k => ?_) (Ev.now _)
      simp only [cast_zzIndex.l0]
      rw [e1, if_pos (by omega), if_pos (by omega), if_pos (by omega), e2, e3, if_pos (by rw [hc])]
    · rw [if_neg hc]
      refine Ev.step (f := fun k => cast_zzIndex.l0 k s ⟨#[46]⟩ ((i + 1 : Nat) : Int)) (fun k => ?_) (ih (i + 1) (by omega) (by omega))
      simp only [cast_zzIndex.l0]
      rw [e1, if_pos (by omega), if_pos (by omega), if_pos (by omega), e2, e3, if_neg (fun h => hc (by injection h)), wsucc _ (by omega)]
theorem contains_call (s : ByteArray) (hs : s.size ≤ 100000) (w : World) :
    Calls Tryd.prog 29 #[.string s, .string ⟨#[46]⟩] w fun e w' => e = .returned (.bool (decide (0 ≤ idx46 s.toList 0))) ∧ Below w.heap.size w w' := by
  obtain ⟨k, hk⟩ := index_ev s hs _ 0 rfl (Nat.zero_le _)
  have h := hk k (Nat.le_refl k)
  rw [List.drop_zero] at h
  refine (cast_zzContains.calls k s ⟨#[46]⟩ (decide (0 ≤ idx46 s.toList 0)) w ?_).mono fun e w' h => ⟨h.1, h.2.below⟩
  unfold cast_zzContains.f cast_zzIndex.f
  have h2 : cast_zzIndex.l0 k s ⟨#[46]⟩ 0 = some (idx46 s.toList 0) := h
  rw [h2]
  rfl
theorem trim_plain (s : ByteArray) (hs : s.size ≤ 1000) (h : ∀ c ∈ s.toList, c ≠ 46) (w : World) :
    Calls Tryd.prog 25 #[.string s] w fun e w' => e = .returned (.string s) ∧ Below w.heap.size w w' := by
  have hc := contains_call s (by omega) w
  rw [idx46_no _ 0 h] at hc
  have HC : Hid (Calls Tryd.prog 29 #[.string s, .string ⟨#[46]⟩] w fun e w' => e = .returned (.bool false) ∧ Below w.heap.size w w') := Lib.hid hc
  clear hc h
  go_enter Tryd.func25, Tryd.ntmps25
  go_wp2_with fail
  refine HC.out.mono ?_
  rintro e w1 ⟨rfl, hb⟩
  go_wp2_with fail
  go_ret
  exact ⟨rfl, hb⟩
theorem trim_cut (s u : ByteArray) (hs : s.size ≤ 1000) (h : 46 ∈ s.toList) (hu : 0 < u.size) (h45 : u.toList ≠ [45]) (h43 : u.toList ≠ [43])
    (NU : ∀ w, Calls Tryd.prog 30 #[.string s] w fun e w' => e = .returned (.tuple #[.string u, .bool true]) ∧ w' = w) (w : World) :
    Calls Tryd.prog 25 #[.string s] w fun e w' => e = .returned (.string u) ∧ Below w.heap.size w w' := by
  have hc := contains_call s (by omega) w
  rw [decide_eq_true (idx46_yes _ 0 h)] at hc
  have HC : Hid (Calls Tryd.prog 29 #[.string s, .string ⟨#[46]⟩] w fun e w' => e = .returned (.bool true) ∧ Below w.heap.size w w') := Lib.hid hc
  have HNU := Lib.hid NU
  have x1 : (u.toList == [45]) = false := by simpa using h45
  have x2 : (u.toList == [43]) = false := by simpa using h43
  have x1' : decide (u.toList = [45]) = false := by simpa using h45
  have x2' : decide (u.toList = [43]) = false := by simpa using h43
  have x3 : u.toList.isEmpty = false := by
    cases e : u.toList with
    | nil => rw [len_eq, e] at hu; simp at hu
    | cons a b => rfl
  clear hc h NU
  go_enter Tryd.func25, Tryd.ntmps25
  go_wp2_with fail
  refine HC.out.mono ?_
  rintro e w1 ⟨rfl, hb⟩
  have HB := Lib.hid hb
  clear hb
  go_wp2_with fail
  refine (HNU.out _).mono ?_
  rintro e w2 ⟨rfl, rfl⟩
  go_wp2_with fail
  go_ret
  exact ⟨rfl, HB.out⟩
end Go.Proofs.YtakogidcjjmihaaDoor.Pu
