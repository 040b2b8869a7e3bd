/- Semantic versions, plain: what the specification's parser says of a text. -/
import Derived.Test.YtmoilbhkjmhoaaaDoorSvNv
import Derived.Test.YtmoilbhkjmhoaaaDoorSvOrd
namespace Go.Proofs.YtmoilbhkjmhoaaaDoor.Sv
open Go.RowKit Go.Proofs.YtmoilbhkjmhoaaaDoor.PFnSemverOrderThree Go.Proofs.YtmoilbhkjmhoaaaDoorW.PrintWords Go.Proofs.YtmoilbhkjmhoaaaDoor.Txt Go.Proofs.YtmoilbhkjmhoaaaDoor
set_option linter.unusedVariables false
set_option linter.unusedSimpArgs false

/-! ### digits -/
theorem only_ev (s : ByteArray) (hs : s.size ≤ 1000) : Ev (fun k => spec_onlyDigits.f k s) (s.toList.all isDig) := by
  have hl := len_eq s
  have key : ∀ (d i : Nat), s.size - i = d → i ≤ s.size → Ev (fun k => spec_onlyDigits.l0 k s (i : Int)) ((s.toList.drop i).all isDig) := by
    intro d
    induction d with
    | zero =>
      intro i hd hi
      rw [List.drop_eq_nil_of_le (by omega)]
      refine Ev.step (f := fun _ => some true) (fun k => ?_) (Ev.now _)
      simp only [spec_onlyDigits.l0]
      rw [if_neg (by omega)]
    | succ d ih =>
      intro i hd hi
      have hlt : i < s.toList.length := by omega
      have hb := bt_nat s i hlt
      rw [List.drop_eq_getElem_cons hlt, List.all_cons]
      cases hc : isDig (s.toList[i]) with
      | true =>
        have hr := dig_range hc
        rw [Bool.true_and]
        refine Ev.step (fun k => ?_) (ih (i + 1) (by omega) (by omega))
        simp only [spec_onlyDigits.l0]
        rw [hb, if_pos (by omega), if_pos (by omega), if_neg (by omega), if_neg (by omega), wsucc _ (by omega)]
      | false =>
        rw [Bool.false_and]
        simp only [isDig, Bool.and_eq_false_iff, decide_eq_false_iff_not] at hc
        refine Ev.step (f := fun _ => some false) (fun k => ?_) (Ev.now _)
        simp only [spec_onlyDigits.l0]
        rw [hb, if_pos (by omega), if_pos (by omega)]
        by_cases h : ((s.toList[i]).toNat : Int) < 48
        · rw [if_pos h]
        · rw [if_neg h, if_pos (by omega)]
  have := key _ 0 rfl (Nat.zero_le _)
  simpa [spec_onlyDigits.f] using this
/-- A numeral without zeros ahead. -/
def canon (d : List UInt8) : Prop := d.length = 1 ∨ d.head? ≠ some 48
theorem val_snoc (d : List UInt8) (c : UInt8) : val 0 (d ++ [c]) = val 0 d * 10 + (c.toNat - 48) := by unfold val; rw [List.foldl_append]; rfl
/-- Such numerals are what they say. -/
theorem canon_dec : ∀ (n : Nat) (d : List UInt8), d.length = n → d ≠ [] → d.all isDig = true → canon d → Lib.decDigits (val 0 d) = d ∧ (2 ≤ d.length → 10 ≤ val 0 d) ∧ (d.length = 1 → val 0 d < 10) ∧ (d.head? ≠ some 48 → 0 < val 0 d)
  | 0, d, hn, h0, _, _ => absurd (List.eq_nil_of_length_eq_zero hn) h0
  | n + 1, d, hn, h0, hd, hc => by
    obtain ⟨b, c, rfl⟩ : ∃ b c, d = b ++ [c] := ⟨d.dropLast, d.getLast h0, (List.dropLast_concat_getLast h0).symm⟩
    rw [List.all_append, Bool.and_eq_true] at hd
    have hcd := dig_range (c := c) (by simpa using hd.2)
    have hcb : UInt8.ofNat (48 + (c.toNat - 48)) = c := by
      rw [show 48 + (c.toNat - 48) = c.toNat by omega]; exact UInt8.ofNat_toNat
    rw [val_snoc]
    rcases List.eq_nil_or_concat b with rfl | ⟨b', c', hb⟩
    · have e : val 0 ([] : List UInt8) = 0 := rfl
      rw [e, Nat.zero_mul, Nat.zero_add]
      refine ⟨?_, by simp, by simp; omega, fun h => ?_⟩
      · rw [Lib.decDigits_one (by omega), hcb]; rfl
      · have : c ≠ 48 := by simpa using h
        have : c.toNat ≠ 48 := fun e => this (by rw [← hcb, e]; rfl)
        omega
    · have hb0 : b ≠ [] := by rw [hb]; simp
      have hhead : (b ++ [c]).head? = b.head? := by
        cases b with
        | nil => exact absurd rfl hb0
        | cons x r => rfl
      have hl2 : ¬ (b ++ [c]).length = 1 := by
        have := List.length_pos_iff.2 hb0
        simp; omega
      have hh : b.head? ≠ some 48 := by
        rcases hc with h | h
        · exact absurd h hl2
        · rw [hhead] at h; exact h
      obtain ⟨i1, i2, i3, i4⟩ := canon_dec n b (by simp at hn; exact hn) hb0 hd.1 (.inr hh)
      have hpos := i4 hh
      refine ⟨?_, fun _ => by omega, fun h => absurd h hl2, fun _ => by omega⟩
      have e : Lib.decDigits (val 0 b * 10 + (c.toNat - 48)) = Lib.decDigits (val 0 b) ++ [UInt8.ofNat (48 + (c.toNat - 48))] := by
        rw [Lib.decDigits]
        have h1 : ¬ val 0 b * 10 + (c.toNat - 48) < 10 := by omega
        have h2 : (val 0 b * 10 + (c.toNat - 48)) / 10 = val 0 b := by omega
        have h3 : (val 0 b * 10 + (c.toNat - 48)) % 10 = c.toNat - 48 := by omega
        simp [h1, h2, h3]
      rw [e, i1, hcb]
theorem canon_eq {a b : List UInt8} (ha0 : a ≠ []) (hb0 : b ≠ []) (ha : a.all isDig = true) (hb : b.all isDig = true) (ca : canon a) (cb : canon b) (h : val 0 a = val 0 b) : a = b := by
  rw [← (canon_dec _ a rfl ha0 ha ca).1, ← (canon_dec _ b rfl hb0 hb cb).1, h]
/-- What is a number is of digits. -/
theorem parseM_dig : ∀ (l : List UInt8) (acc u : Nat), Lib.parseUintM 18446744073709551615 acc l = .ok u → l.all isDig = true
  | [], _, _, _ => rfl
  | c :: r, acc, u, h => by
    rw [Lib.parseUintM] at h
    split at h
    · rename_i hc
      split at h
      · cases h
      · split at h
        · cases h
        · rw [List.all_cons, parseM_dig r _ u h, Bool.and_true]
          simp only [isDig, Bool.and_eq_true, decide_eq_true_eq]; exact hc
    · cases h
theorem num_dig {a : List UInt8} {x : Nat} (h : num a = some x) : a ≠ [] ∧ a.all isDig = true := by
  unfold num at h
  split at h
  · rename_i u hu
    unfold Lib.parseUintB at hu
    split at hu
    · cases hu
    · rename_i h0
      exact ⟨h0, parseM_dig a 0 u hu⟩
  · cases h
/-- An identifier behind a hyphen. -/
def IdOk (a : List UInt8) : Prop := a ≠ [] ∧ a.all isPart = true ∧ (a.all isDig = true → canon a ∧ a.length ≤ 15)
theorem idOk_plain : Plain IdOk := by
  intro a b x ha hb h1 h2
  obtain ⟨a0, ad⟩ := num_dig h1
  obtain ⟨b0, bd⟩ := num_dig h2
  obtain ⟨ca, la⟩ := ha.2.2 ad
  obtain ⟨cb, lb⟩ := hb.2.2 bd
  have e1 := parse_val a0 ad (by omega)
  have e2 := parse_val b0 bd (by omega)
  unfold num at h1 h2
  rw [e1] at h1
  rw [e2] at h2
  simp only [Option.some.injEq] at h1 h2
  exact canon_eq a0 b0 ad bd ca cb (by omega)
def NumRes (s : ByteArray) (n : Int) (rest : ByteArray) (ok : Bool) : Prop := rest.size ≤ s.size ∧
  (ok = true → ∃ d : List UInt8, d ≠ [] ∧ d.all isDig = true ∧ d.length ≤ 9 ∧ n = (val 0 d : Int) ∧ s.toList = d ++ rest.toList)
/-- A number, as the specification's parser reads it. -/
theorem number_ev (s : ByteArray) (hs : s.size ≤ 1000) : ∃ (n : Int) (rest : ByteArray) (ok : Bool), Ev (fun k => spec_number.f k s) (n, rest, ok) ∧ NumRes s n rest ok := by
  have hl := len_eq s
  -- where it ends
  have fin : ∀ i : Nat, i ≤ s.size → i ≤ 9 → (s.toList.take i).all isDig = true → ∃ (n : Int) (rest : ByteArray) (ok : Bool), Ev (fun k => spec_number.j1 k s (val 0 (s.toList.take i) : Int) (i : Int) false) (n, rest, ok) ∧ NumRes s n rest ok := by
    intro i hi h9 hd
    have hex : (s.extract i s.size).toList = s.toList.drop i := extract_self s i
    have hsz : (s.extract i s.size).size ≤ s.size := by rw [len_eq, hex, List.length_drop]; omega
    have hcut : s.toList = s.toList.take i ++ (s.extract i s.size).toList := by rw [hex, List.take_append_drop]
    have hlen : (s.toList.take i).length = i := by rw [List.length_take]; omega
    by_cases h0 : i = 0
    · refine ⟨_, _, _, Ev.step (f := fun _ => some ((val 0 (s.toList.take i) : Int), s.extract i s.size, false)) (fun k => ?_) (Ev.now _), hsz, fun h => by cases h⟩
      simp only [spec_number.j1]
      rw [if_neg (by decide), if_pos (by omega), if_pos (by omega), if_neg (by omega), Int.toNat_natCast]
    · have hne : s.toList.take i ≠ [] := fun e => by rw [e] at hlen; simp at hlen; omega
      have good : ∀ b : Bool, NumRes s (val 0 (s.toList.take i) : Int) (s.extract i s.size) b := fun b => ⟨hsz, fun _ => ⟨_, hne, hd, by omega, rfl, hcut⟩⟩
      by_cases h1 : i = 1
      · refine ⟨_, _, _, Ev.step (f := fun _ => some ((val 0 (s.toList.take i) : Int), s.extract i s.size, true)) (fun k => ?_) (Ev.now _), good true⟩
        simp only [spec_number.j1]
        rw [if_neg (by decide), if_pos (by omega), if_pos (by omega), if_pos (by omega), if_pos (by omega), Int.toNat_natCast]
      · refine ⟨_, _, _, Ev.step (f := fun _ => some ((val 0 (s.toList.take i) : Int), s.extract i s.size, (bt s 0 != 48))) (fun k => ?_) (Ev.now _), good _⟩
        simp only [spec_number.j1]
        rw [if_neg (by decide), if_pos (by omega), if_pos (by omega), if_pos (by omega), if_neg (by omega), if_pos (by omega), Int.toNat_natCast]
  have key : ∀ (j i : Nat), i + j = 9 → i ≤ s.size → (s.toList.take i).all isDig = true → ∃ (n : Int) (rest : ByteArray) (ok : Bool), Ev (fun k => spec_number.l0 k s (val 0 (s.toList.take i) : Int) (i : Int)) (n, rest, ok) ∧ NumRes s n rest ok := by
    intro j
    induction j with
    | zero =>
      intro i hij hi hd
      obtain ⟨n, rest, ok, hev, hr⟩ := fin i hi (by omega) hd
      by_cases hlt : i < s.toList.length
      · have hb := bt_nat s i hlt
        by_cases hc : isDig (s.toList[i]) = true
        · have hcd := dig_range hc
          refine ⟨0, s, false, Ev.step (f := fun k => spec_number.j1 k s (val 0 (s.toList.take i) : Int) (i : Int) true) (fun k => ?_) (Ev.step (f := fun _ => some (0, s, false)) (fun k => ?_) (Ev.now _)), Nat.le_refl _, fun h => by cases h⟩
          · simp only [spec_number.l0]
            rw [hb, if_pos (by omega), if_pos (by omega), if_pos (by omega), decide_eq_true (by omega)]
          · simp only [spec_number.j1]
            rw [if_pos trivial, if_pos (by omega), if_pos (by omega), if_pos (by rw [wsucc i (by omega)]; omega)]
        · have hc' : isDig (s.toList[i]) = false := by simpa using hc
          simp only [isDig, Bool.and_eq_false_iff, decide_eq_false_iff_not] at hc'
          refine ⟨n, rest, ok, Ev.step (fun k => ?_) hev, hr⟩
          simp only [spec_number.l0]
          rw [hb, if_pos (by omega), if_pos (by omega)]
          by_cases h48 : ((s.toList[i]).toNat : Int) ≥ 48
          · rw [if_pos h48, decide_eq_false (by omega)]
          · rw [if_neg h48]
      · refine ⟨n, rest, ok, Ev.step (fun k => ?_) hev, hr⟩
        simp only [spec_number.l0]
        rw [if_neg (by omega)]
    | succ j ih =>
      intro i hij hi hd
      obtain ⟨n, rest, ok, hev, hr⟩ := fin i hi (by omega) hd
      by_cases hlt : i < s.toList.length
      · have hb := bt_nat s i hlt
        by_cases hc : isDig (s.toList[i]) = true
        · have hcd := dig_range hc
          have htk : s.toList.take (i + 1) = s.toList.take i ++ [s.toList[i]] := List.take_succ_eq_append_getElem hlt
          obtain ⟨n, rest, ok, hev, hr⟩ := ih (i + 1) (by omega) (by omega) (by rw [htk, List.all_append, hd]; simp [hc])
          refine ⟨n, rest, ok, Ev.step (f := fun k => spec_number.j1 k s (val 0 (s.toList.take i) : Int) (i : Int) true) (fun k => ?_) (Ev.step (fun k => ?_) hev), hr⟩
          · simp only [spec_number.l0]
            rw [hb, if_pos (by omega), if_pos (by omega), if_pos (by omega), decide_eq_true (by omega)]
          · simp only [spec_number.j1]
            have hw := wsucc i (by omega)
            have hv : val 0 (s.toList.take (i + 1)) = val 0 (s.toList.take i) * 10 + ((s.toList[i]).toNat - 48) := by rw [htk, val_snoc]
            have hvl : val 0 (s.toList.take i) < 10 ^ 9 := by
              have := val_le (s.toList.take i) 0 0 hd (by decide)
              have h2 : 10 ^ (0 + (s.toList.take i).length) ≤ 10 ^ 9 := Nat.pow_le_pow_right (by omega) (by rw [List.length_take]; omega)
              omega
            have hp : (10 : Nat) ^ 9 = 1000000000 := by decide
            have e1 : IntKind.u64.wrap ((val 0 (s.toList.take i) : Int) * 10) = ((val 0 (s.toList.take i) * 10 : Nat) : Int) := by simp [IntKind.wrap, IntKind.signed, IntKind.bits]; omega
            have e2 : (((s.toList[i]).toNat : Int) - 48) % 256 = (((s.toList[i]).toNat - 48 : Nat) : Int) := by omega
            have e3 : IntKind.u64.wrap (((val 0 (s.toList.take i) * 10 : Nat) : Int) + (((s.toList[i]).toNat - 48 : Nat) : Int)) = ((val 0 (s.toList.take i) * 10 + ((s.toList[i]).toNat - 48) : Nat) : Int) := by simp [IntKind.wrap, IntKind.signed, IntKind.bits]; omega
            rw [if_pos trivial, if_pos (by omega), if_pos (by omega), hw, if_neg (by omega), hb, e1, e2, e3, hv]
        · have hc' : isDig (s.toList[i]) = false := by simpa using hc
          simp only [isDig, Bool.and_eq_false_iff, decide_eq_false_iff_not] at hc'
          refine ⟨n, rest, ok, Ev.step (fun k => ?_) hev, hr⟩
          simp only [spec_number.l0]
          rw [hb, if_pos (by omega), if_pos (by omega)]
          by_cases h48 : ((s.toList[i]).toNat : Int) ≥ 48
          · rw [if_pos h48, decide_eq_false (by omega)]
          · rw [if_neg h48]
      · refine ⟨n, rest, ok, Ev.step (fun k => ?_) hev, hr⟩
        simp only [spec_number.l0]
        rw [if_neg (by omega)]
  obtain ⟨n, rest, ok, h⟩ := key 9 0 rfl (Nat.zero_le _) rfl
  exact ⟨n, rest, ok, by simpa [spec_number.f, val] using h⟩

/-! ### parts -/
/-- Parts of numerals without zeros ahead, if that is asked for. -/
def Strict (b : Bool) (ps : List (List UInt8)) : Prop := b = true → ∀ p ∈ ps, p.all isDig = true → canon p
theorem part_cases (c : UInt8) : isPart c = true ∨ c = 46 ∨ (isPart c = false ∧ c ≠ 46) := by
  cases h : isPart c with
  | true => exact .inl rfl
  | false => by_cases e : c = 46; exact .inr (.inl e); exact .inr (.inr ⟨rfl, e⟩)
theorem j1_byte (k : Nat) (s : ByteArray) (st : Bool) (f i : Int) (c : UInt8) (h0 : 0 ≤ i) (h1 : i < (s.size : Int)) (hb : bt s i = (c.toNat : Int)) : spec_parts.j1 (k + 1) s st f i true = spec_parts.j2 k s st f i (!(isPart c)) := by
  simp only [spec_parts.j1]
  rw [if_pos trivial, if_pos h0, if_pos h1, hb]
  have hT : 48 ≤ c.toNat ∧ c.toNat ≤ 57 ∨ 97 ≤ c.toNat ∧ c.toNat ≤ 122 ∨ 65 ≤ c.toNat ∧ c.toNat ≤ 90 → isPart c = true := fun h => by
    simp only [isPart, isDig, Bool.or_eq_true, Bool.and_eq_true, decide_eq_true_eq]; omega
  have hE : ¬ (48 ≤ c.toNat ∧ c.toNat ≤ 57 ∨ 97 ≤ c.toNat ∧ c.toNat ≤ 122 ∨ 65 ≤ c.toNat ∧ c.toNat ≤ 90) → ((c.toNat : Int) == 45) = isPart c := fun h => by
    rw [Bool.eq_iff_iff]
    simp only [isPart, isDig, Bool.or_eq_true, Bool.and_eq_true, decide_eq_true_eq, beq_iff_eq]; omega
  by_cases hr : 48 ≤ c.toNat ∧ c.toNat ≤ 57 ∨ 97 ≤ c.toNat ∧ c.toNat ≤ 122 ∨ 65 ≤ c.toNat ∧ c.toNat ≤ 90
  · have e := hT hr
    rw [e]
    clear hT hE e
    repeat' split
    all_goals first
      | rfl
      | (exfalso; omega)
  · have e := hE hr
    rw [← e]
    clear hT hE e
    repeat' split
    all_goals first
      | rfl
      | (exfalso; omega)
end Go.Proofs.YtmoilbhkjmhoaaaDoor.Sv
