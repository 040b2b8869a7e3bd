/- Semantic versions: NewVersion at the text of a version; digits as numbers. -/
import Derived.Test.YtmoilbhkjmhoaaaDoorSvNew
namespace Go.Proofs.YtmoilbhkjmhoaaaDoor.Sv
open Go.RowKit Go.Proofs.YtmoilbhkjmhoaaaDoor.PFnSemverOrderThree Go.Proofs.YtmoilbhkjmhoaaaDoorW.PrintWords Go.Proofs.YtmoilbhkjmhoaaaDoor.Txt Go.Proofs.YtmoilbhkjmhoaaaDoor
set_option linter.unusedVariables false
set_option linter.unusedSimpArgs false
set_option maxRecDepth 20000

/-- What digits say. -/
def val (acc : Nat) (d : List UInt8) : Nat := d.foldl (fun a c => a * 10 + (c.toNat - 48)) acc
theorem dig_range {c : UInt8} (h : isDig c = true) : 48 ≤ c.toNat ∧ c.toNat ≤ 57 := by
  simp only [isDig, Bool.and_eq_true, decide_eq_true_eq] at h; exact h
theorem val_le : ∀ (d : List UInt8) (acc k : Nat), d.all isDig = true → acc < 10 ^ k → val acc d < 10 ^ (k + d.length)
  | [], acc, k, _, h => h
  | c :: r, acc, k, hd, h => by
    simp only [List.all_cons, Bool.and_eq_true] at hd
    have hc := dig_range hd.1
    have e : val acc (c :: r) = val (acc * 10 + (c.toNat - 48)) r := rfl
    rw [e, List.length_cons, show k + (r.length + 1) = (k + 1) + r.length by omega]
    refine val_le r _ (k + 1) hd.2 ?_
    rw [Nat.pow_succ]; omega
theorem parseM_val : ∀ (d : List UInt8) (acc k : Nat), d.all isDig = true → acc < 10 ^ k → k + d.length ≤ 19 → Lib.parseUintM 18446744073709551615 acc d = .ok (val acc d)
  | [], acc, k, _, _, _ => rfl
  | c :: r, acc, k, hd, h, hk => by
    simp only [List.all_cons, Bool.and_eq_true] at hd
    have hc := dig_range hd.1
    rw [List.length_cons] at hk
    have h18 : 10 ^ k ≤ 10 ^ 18 := Nat.pow_le_pow_right (by omega) (by omega)
    have h18' : (10 : Nat) ^ 18 = 1000000000000000000 := by decide
    have e : val acc (c :: r) = val (acc * 10 + (c.toNat - 48)) r := rfl
    rw [e, Lib.parseUintM, if_pos hc, if_neg (by omega), if_neg (by omega)]
    exact parseM_val r _ (k + 1) hd.2 (by rw [Nat.pow_succ]; omega) (by omega)
theorem parse_val {d : List UInt8} (h0 : d ≠ []) (hd : d.all isDig = true) (hl : d.length ≤ 19) : Lib.parseUintB 64 d = .ok (val 0 d) := by
  unfold Lib.parseUintB
  rw [if_neg h0]
  exact parseM_val d 0 0 hd (by decide) (by omega)
theorem dec_all (n : Nat) : (Lib.decDigits n).all isDig = true := by
  induction n using Nat.strongRecOn with
  | _ n ih =>
    by_cases h : n < 10
    · rw [Lib.decDigits_one h]
      have : (UInt8.ofNat (48 + n)).toNat = 48 + n := by rw [UInt8.toNat_ofNat']; omega
      simp only [List.all_cons, List.all_nil, Bool.and_true, isDig, this, Bool.and_eq_true, decide_eq_true_eq]
      omega
    · have e : Lib.decDigits n = Lib.decDigits (n / 10) ++ [UInt8.ofNat (48 + n % 10)] := by rw [Lib.decDigits]; simp [h]
      rw [e, List.all_append, ih _ (by omega)]
      have : (UInt8.ofNat (48 + n % 10)).toNat = 48 + n % 10 := by rw [UInt8.toNat_ofNat']; omega
      simp only [List.all_cons, List.all_nil, Bool.and_true, Bool.true_and, isDig, this, Bool.and_eq_true, decide_eq_true_eq]
      omega
theorem dec_val (n : Nat) : val 0 (Lib.decDigits n) = n := by
  induction n using Nat.strongRecOn with
  | _ n ih =>
    by_cases h : n < 10
    · rw [Lib.decDigits_one h]
      have : (UInt8.ofNat (48 + n)).toNat = 48 + n := by rw [UInt8.toNat_ofNat']; omega
      show 0 * 10 + ((UInt8.ofNat (48 + n)).toNat - 48) = n
      rw [this]; omega
    · have e : Lib.decDigits n = Lib.decDigits (n / 10) ++ [UInt8.ofNat (48 + n % 10)] := by rw [Lib.decDigits]; simp [h]
      have : (UInt8.ofNat (48 + n % 10)).toNat = 48 + n % 10 := by rw [UInt8.toNat_ofNat']; omega
      unfold val at ih ⊢
      rw [e, List.foldl_append, ih _ (by omega)]
      show n / 10 * 10 + ((UInt8.ofNat (48 + n % 10)).toNat - 48) = n
      rw [this]; omega
theorem dec_ne (n : Nat) : Lib.decDigits n ≠ [] := by
  by_cases h : n < 10
  · rw [Lib.decDigits_one h]; simp
  · have e : Lib.decDigits n = Lib.decDigits (n / 10) ++ [UInt8.ofNat (48 + n % 10)] := by rw [Lib.decDigits]; simp [h]
    rw [e]; simp
theorem dec_len : ∀ (k n : Nat), n < 10 ^ (k + 1) → (Lib.decDigits n).length ≤ k + 1
  | 0, n, h => by
    have : n < 10 := by simpa using h
    rw [Lib.decDigits_one this]; simp
  | k + 1, n, h => by
    by_cases h10 : n < 10
    · rw [Lib.decDigits_one h10]; simp
    · have e : Lib.decDigits n = Lib.decDigits (n / 10) ++ [UInt8.ofNat (48 + n % 10)] := by rw [Lib.decDigits]; simp [h10]
      have := dec_len k (n / 10) (by rw [Nat.pow_succ] at h; omega)
      rw [e, List.length_append, List.length_singleton]; omega
theorem dec_parse (n : Nat) (h : n < 10 ^ 9) : Lib.parseUintB 64 (Lib.decDigits n) = .ok n := by
  have := parse_val (dec_ne n) (dec_all n) (by have := dec_len 8 n h; omega)
  rw [dec_val] at this
  exact this
/-- A list as a text. -/
def ba (l : List UInt8) : ByteArray := ⟨l.toArray⟩
theorem tl_ba (l : List UInt8) : (ba l).toList = l := tl_mk l
theorem ba_tl (s : ByteArray) : ba s.toList = s := ext_eq (tl_ba _)
theorem ba_size (l : List UInt8) : (ba l).size = l.length := by rw [len_eq, tl_ba]
/-- What a component that may lack says. -/
def NumOf (d : List UInt8) (n : Nat) : Prop := (d = [] ∧ n = 0) ∨ (d ≠ [] ∧ Lib.parseUintB 64 d = .ok n)
set_option maxHeartbeats 1000000 in
theorem newVersion_walk (t : Tx) (h : t.Ok) (v : ByteArray) (hv : v.toList = t.text) (hs : v.size ≤ 256) (a m p : Nat) (U1 : Lib.parseUintB 64 t.d1 = .ok a) (U2 : NumOf t.d2 m) (U3 : NumOf t.d3 p)
    (VP : t.pre ≠ [] → ∀ W, Calls Tryd.prog 45 #[.string (ba t.pre)] W fun e w' => e = .returned .nilIface ∧ Below W.heap.size W w')
    (VM : t.meta_ ≠ [] → ∀ W, Calls Tryd.prog 46 #[.string (ba t.meta_)] W fun e w' => e = .returned .nilIface ∧ Below W.heap.size W w') (w : World) :
    Calls Tryd.prog 22 #[.string v] w (VerRes a m p (ba t.pre) (ba t.meta_) v w) := by
  have hl := len_eq v
  have hC := cuts_of t h v hv (by omega)
  have hsz : v.size = t.d1.length + (sg 46 t.d2).length + (sg 46 t.d3).length + (sg 45 t.pre).length + (sg 43 t.meta_).length := by
    rw [hl, hv]; unfold Tx.text; simp only [List.length_append]; omega
  have HCC : Hid (Calls Tryd.prog 30 #[.string v] w (VerRes a m p (ba t.pre) (ba t.meta_) v w)) := Lib.hid (by
    have sz : ∀ d : List UInt8, d.length ≤ v.size → (ba d).size ≤ 1000 := fun d hd => by rw [ba_size]; omega
    have s2 : t.d2.length ≤ (sg 46 t.d2).length := by unfold sg; split <;> simp_all
    have s3 : t.d3.length ≤ (sg 46 t.d3).length := by unfold sg; split <;> simp_all
    have key : ∀ (c4 c7 : ByteArray), (∀ W, Calls Tryd.prog 41 #[.string v] W fun e w' => ∃ b, e = .returned (.slice (some ⟨b, 0, none⟩) 9 9) ∧ W.heap.size ≤ b ∧ Hid (Nine w' b (.string v) (.string (ba t.d1)) (.string (ba (sg 46 t.d2))) (.string (ba (sg 46 t.d3))) (.string c4) (.string (ba t.pre)) E0 (.string c7) (.string (ba t.meta_))) ∧ Hid (Below W.heap.size W w')) →
        Calls Tryd.prog 30 #[.string v] w (VerRes a m p (ba t.pre) (ba t.meta_) v w) := fun c4 c7 hL =>
      coerce_walk v (ba t.d1) (ba (sg 46 t.d2)) (ba (sg 46 t.d3)) (ba t.d2) (ba t.d3) (ba t.pre) (ba t.meta_) c4 c7 a m p ⟨sz _ (by omega), sz _ (by omega), sz _ (by omega)⟩ w hL (by rw [tl_ba]; exact U1)
        (by
          rcases U2 with ⟨h1, h2⟩ | ⟨h1, h2⟩
          · exact .inl ⟨by rw [tl_ba, h1]; rfl, h2⟩
          · exact .inr ⟨by rw [tl_ba, tl_ba]; unfold sg; rw [if_neg h1], sz _ (by omega), by rw [tl_ba]; exact h2⟩)
        (by
          rcases U3 with ⟨h1, h2⟩ | ⟨h1, h2⟩
          · exact .inl ⟨by rw [tl_ba, h1]; rfl, h2⟩
          · exact .inr ⟨by rw [tl_ba, tl_ba]; unfold sg; rw [if_neg h1], sz _ (by omega), by rw [tl_ba]; exact h2⟩)
        (fun hh => VP (by rw [tl_ba] at hh; exact hh)) (fun hh => VM (by rw [tl_ba] at hh; exact hh))
    refine key (ba (sg 45 t.pre)) (ba (sg 43 t.meta_)) fun W => ?_
    have hW := zzLoose_any t h v hv hs W
    exact hW.mono fun e w' ⟨b, he, hb, hn, hbb⟩ => ⟨b, he, hb, hn, hbb⟩)
  clear hC hsz U1 U2 U3 VP VM h hv hl
  go_enter Tryd.func22, Tryd.ntmps22
  go_wp2_with fail
  refine HCC.out.mono ?_
  rintro e w1 ⟨b, rfl, hb, HV, HB⟩
  go_wp2_with fail
  go_ret2
  exact ⟨b, rfl, hb, HV, HB⟩
end Go.Proofs.YtmoilbhkjmhoaaaDoor.Sv
