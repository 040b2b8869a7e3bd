/- Semantic versions, plain: spec.ParseVersion. Printed by gen_svpw.py. -/
import Derived.Test.YtoebognfkigooaaGreatDoorMB
import Derived.Test.YtoebognfkigooaaGreatDoorMC
import Derived.Test.YtoebognfkigooaaGreatDoorPFnSemverEitherx2
namespace Go.Proofs.YtoebognfkigooaaGreatDoor.Sv
open Go.RowKit Go.Proofs.YtoebognfkigooaaGreatDoor.PFnSemverEither Go.Proofs.YtoebognfkigooaaGreatDoorW.PrintWords Go.Proofs.YtoebognfkigooaaGreatDoor.Txt Go.Proofs.YtoebognfkigooaaGreatDoor
set_option linter.unusedVariables false
set_option linter.unusedSimpArgs false

/-! ### digits -/
theorem only_ev (s : ByteArray) (hs : s.size ≤ 1000) : Ev (fun k => spec_onlyDigits.f k s) (s.toList.all isDig) := by
  have hl := len_eq s
  have key : ∀ (d i : Nat), s.size - i = d → i ≤ s.size → Ev (fun k => spec_onlyDigits.l0 k s (i : Int)) ((s.toList.drop i).all isDig) := by
    intro d
    induction d with
    | zero =>
      intro i hd hi
      rw [List.drop_eq_nil_of_le (by omega)]
      refine Ev.step (f := fun _ => some true) (fun k => ?_) (Ev.now _)
      simp only [spec_onlyDigits.l0]
      rw [if_neg (by omega)]
    | succ d ih =>
      intro i hd hi
      have hlt : i < s.toList.length := by omega
      have hb := bt_nat s i hlt
      rw [List.drop_eq_getElem_cons hlt, List.all_cons]
      cases hc : isDig (s.toList[i]) with
      | true =>
        have hr := dig_range hc
        rw [Bool.true_and]
        refine Ev.step (fun k => ?_) (ih (i + 1) (by omega) (by omega))
        simp only [spec_onlyDigits.l0]
        rw [hb, if_pos (by omega), if_pos (by omega), if_neg (by omega), if_neg (by omega), wsucc _ (by omega)]
      | false =>
        rw [Bool.false_and]
        simp only [isDig, Bool.and_eq_false_iff, decide_eq_false_iff_not] at hc
        refine Ev.step (f := fun _ => some false) (fun k => ?_) (Ev.now _)
        simp only [spec_onlyDigits.l0]
        rw [hb, if_pos (by omega), if_pos (by omega)]
        by_cases h : ((s.toList[i]).toNat : Int) < 48
        · rw [if_pos h]
        · rw [if_neg h, if_pos (by omega)]
  have := key _ 0 rfl (Nat.zero_le _)
  simpa [spec_onlyDigits.f] using this
/-- A numeral without zeros ahead. -/
def canon (d : List UInt8) : Prop := d.length = 1 ∨ d.head? ≠ some 48
theorem val_snoc (d : List UInt8) (c : UInt8) : val 0 (d ++ [c]) = val 0 d * 10 + (c.toNat - 48) := by unfold val; rw [List.foldl_append]; rfl
/-- Such numerals are what they say. -/
theorem canon_dec : ∀ (n : Nat) (d : List UInt8), d.length = n → d ≠ [] → d.all isDig = true → canon d → Lib.decDigits (val 0 d) = d ∧ (2 ≤ d.length → 10 ≤ val 0 d) ∧ (d.length = 1 → val 0 d < 10) ∧ (d.head? ≠ some 48 → 0 < val 0 d)
  | 0, d, hn, h0, _, _ => absurd (List.eq_nil_of_length_eq_zero hn) h0
  | n + 1, d, hn, h0, hd, hc => by
    obtain ⟨b, c, rfl⟩ : ∃ b c, d = b ++ [c] := ⟨d.dropLast, d.getLast h0, (List.dropLast_concat_getLast h0).symm⟩
    rw [List.all_append, Bool.and_eq_true] at hd
    have hcd := dig_range (c := c) (by simpa using hd.2)
    have hcb : UInt8.ofNat (48 + (c.toNat - 48)) = c := by
      rw [show 48 + (c.toNat - 48) = c.toNat by omega]; exact UInt8.ofNat_toNat
    rw [val_snoc]
    rcases List.eq_nil_or_concat b with rfl | ⟨b', c', hb⟩
    · have e : val 0 ([] : List UInt8) = 0 := rfl
      rw [e, Nat.zero_mul, Nat.zero_add]
      refine ⟨?_, by simp, by simp; omega, fun h => ?_⟩
      · rw [Lib.decDigits_one (by omega), hcb]; rfl
      · have : c ≠ 48 := by simpa using h
        have : c.toNat ≠ 48 := fun e => this (by rw [← hcb, e]; rfl)
        omega
    · have hb0 : b ≠ [] := by rw [hb]; simp
      have hhead : (b ++ [c]).head? = b.head? := by
        cases b with
        | nil => exact absurd rfl hb0
        | cons x r => rfl
      have hl2 : ¬ (b ++ [c]).length = 1 := by
        have := List.length_pos_iff.2 hb0
        simp; omega
      have hh : b.head? ≠ some 48 := by
        rcases hc with h | h
        · exact absurd h hl2
        · rw [hhead] at h; exact h
      obtain ⟨i1, i2, i3, i4⟩ := canon_dec n b (by simp at hn; exact hn) hb0 hd.1 (.inr hh)
      have hpos := i4 hh
      refine ⟨?_, fun _ => by omega, fun h => absurd h hl2, fun _ => by omega⟩
      have e : Lib.decDigits (val 0 b * 10 + (c.toNat - 48)) = Lib.decDigits (val 0 b) ++ [UInt8.ofNat (48 + (c.toNat - 48))] := by
        rw [Lib.decDigits]
        have h1 : ¬ val 0 b * 10 + (c.toNat - 48) < 10 := by omega
        have h2 : (val 0 b * 10 + (c.toNat - 48)) / 10 = val 0 b := by omega
        have h3 : (val 0 b * 10 + (c.toNat - 48)) % 10 = c.toNat - 48 := by omega
        simp [h1, h2, h3]
      rw [e, i1, hcb]
theorem canon_eq {a b : List UInt8} (ha0 : a ≠ []) (hb0 : b ≠ []) (ha : a.all isDig = true) (hb : b.all isDig = true) (ca : canon a) (cb : canon b) (h : val 0 a = val 0 b) : a = b := by
  rw [← (canon_dec _ a rfl ha0 ha ca).1, ← (canon_dec _ b rfl hb0 hb cb).1, h]
/-- What is a number is of digits. -/
theorem parseM_dig : ∀ (l : List UInt8) (acc u : Nat), Lib.parseUintM 18446744073709551615 acc l = .ok u → l.all isDig = true
  | [], _, _, _ => rfl
  | c :: r, acc, u, h => by
    rw [Lib.parseUintM] at h
    split at h
    · rename_i hc
      split at h
      · cases h
      · split at h
        · cases h
        · rw [List.all_cons, parseM_dig r _ u h, Bool.and_true]
          simp only [isDig, Bool.and_eq_true, decide_eq_true_eq]; exact hc
    · cases h
theorem num_dig {a : List UInt8} {x : Nat} (h : num a = some x) : a ≠ [] ∧ a.all isDig = true := by
  unfold num at h
  split at h
  · rename_i u hu
    unfold Lib.parseUintB at hu
    split at hu
    · cases hu
    · rename_i h0
      exact ⟨h0, parseM_dig a 0 u hu⟩
  · cases h
/-- An identifier behind a hyphen. -/
def IdOk (a : List UInt8) : Prop := a ≠ [] ∧ a.all isPart = true ∧ (a.all isDig = true → canon a ∧ a.length ≤ 15)
theorem idOk_plain : Plain IdOk := by
  intro a b x ha hb h1 h2
  obtain ⟨a0, ad⟩ := num_dig h1
  obtain ⟨b0, bd⟩ := num_dig h2
  obtain ⟨ca, la⟩ := ha.2.2 ad
  obtain ⟨cb, lb⟩ := hb.2.2 bd
  have e1 := parse_val a0 ad (by omega)
  have e2 := parse_val b0 bd (by omega)
  unfold num at h1 h2
  rw [e1] at h1
  rw [e2] at h2
  simp only [Option.some.injEq] at h1 h2
  exact canon_eq a0 b0 ad bd ca cb (by omega)
def NumRes (s : ByteArray) (n : Int) (rest : ByteArray) (ok : Bool) : Prop := rest.size ≤ s.size ∧
  (ok = true → ∃ d : List UInt8, d ≠ [] ∧ d.all isDig = true ∧ d.length ≤ 9 ∧ n = (val 0 d : Int) ∧ s.toList = d ++ rest.toList)
/-- A number, as the specification's parser reads it. -/
theorem number_ev (s : ByteArray) (hs : s.size ≤ 1000) : ∃ (n : Int) (rest : ByteArray) (ok : Bool), Ev (fun k => spec_number.f k s) (n, rest, ok) ∧ NumRes s n rest ok := by
  have hl := len_eq s
  -- where it ends
  have fin : ∀ i : Nat, i ≤ s.size → i ≤ 9 → (s.toList.take i).all isDig = true → ∃ (n : Int) (rest : ByteArray) (ok : Bool), Ev (fun k => spec_number.j1 k s (val 0 (s.toList.take i) : Int) (i : Int) false) (n, rest, ok) ∧ NumRes s n rest ok := by
    intro i hi h9 hd
    have hex : (s.extract i s.size).toList = s.toList.drop i := extract_self s i
    have hsz : (s.extract i s.size).size ≤ s.size := by rw [len_eq, hex, List.length_drop]; omega
    have hcut : s.toList = s.toList.take i ++ (s.extract i s.size).toList := by rw [hex, List.take_append_drop]
    have hlen : (s.toList.take i).length = i := by rw [List.length_take]; omega
    by_cases h0 : i = 0
    · refine ⟨_, _, _, Ev.step (f := fun _ => some ((val 0 (s.toList.take i) : Int), s.extract i s.size, false)) (fun k => ?_) (Ev.now _), hsz, fun h => by cases h⟩
      simp only [spec_number.j1]
      rw [if_neg (by decide), if_pos (by omega), if_pos (by omega), if_neg (by omega), Int.toNat_natCast]
    · have hne : s.toList.take i ≠ [] := fun e => by rw [e] at hlen; simp at hlen; omega
      have good : ∀ b : Bool, NumRes s (val 0 (s.toList.take i) : Int) (s.extract i s.size) b := fun b => ⟨hsz, fun _ => ⟨_, hne, hd, by omega, rfl, hcut⟩⟩
      by_cases h1 : i = 1
      · refine ⟨_, _, _, Ev.step (f := fun _ => some ((val 0 (s.toList.take i) : Int), s.extract i s.size, true)) (fun k => ?_) (Ev.now _), good true⟩
        simp only [spec_number.j1]
        rw [if_neg (by decide), if_pos (by omega), if_pos (by omega), if_pos (by omega), if_pos (by omega), Int.toNat_natCast]
      · refine ⟨_, _, _, Ev.step (f := fun _ => some ((val 0 (s.toList.take i) : Int), s.extract i s.size, (bt s 0 != 48))) (fun k => ?_) (Ev.now _), good _⟩
        simp only [spec_number.j1]
        rw [if_neg (by decide), if_pos (by omega), if_pos (by omega), if_pos (by omega), if_neg (by omega), if_pos (by omega), Int.toNat_natCast]
  have key : ∀ (j i : Nat), i + j = 9 → i ≤ s.size → (s.toList.take i).all isDig = true → ∃ (n : Int) (rest : ByteArray) (ok : Bool), Ev (fun k => spec_number.l0 k s (val 0 (s.toList.take i) : Int) (i : Int)) (n, rest, ok) ∧ NumRes s n rest ok := by
    intro j
    induction j with
    | zero =>
      intro i hij hi hd
      obtain ⟨n, rest, ok, hev, hr⟩ := fin i hi (by omega) hd
      by_cases hlt : i < s.toList.length
      · have hb := bt_nat s i hlt
        by_cases hc : isDig (s.toList[i]) = true
        · have hcd := dig_range hc
          refine ⟨0, s, false, Ev.step (f := fun k => spec_number.j1 k s (val 0 (s.toList.take i) : Int) (i : Int) true) (fun k => ?_) (Ev.step (f := fun _ => some (0, s, false)) (fun k => ?_) (Ev.now _)), Nat.le_refl _, fun h => by cases h⟩
          · simp only [spec_number.l0]
            rw [hb, if_pos (by omega), if_pos (by omega), if_pos (by omega), decide_eq_true (by omega)]
          · simp only [spec_number.j1]
            rw [if_pos trivial, if_pos (by omega), if_pos (by omega), if_pos (by rw [wsucc i (by omega)]; omega)]
        · have hc' : isDig (s.toList[i]) = false := by simpa using hc
          simp only [isDig, Bool.and_eq_false_iff, decide_eq_false_iff_not] at hc'
          refine ⟨n, rest, ok, Ev.step (fun k => ?_) hev, hr⟩
          simp only [spec_number.l0]
          rw [hb, if_pos (by omega), if_pos (by omega)]
          by_cases h48 : ((s.toList[i]).toNat : Int) ≥ 48
          · rw [if_pos h48, decide_eq_false (by omega)]
          · rw [if_neg h48]
      · refine ⟨n, rest, ok, Ev.step (fun k => ?_) hev, hr⟩
        simp only [spec_number.l0]
        rw [if_neg (by omega)]
    | succ j ih =>
      intro i hij hi hd
      obtain ⟨n, rest, ok, hev, hr⟩ := fin i hi (by omega) hd
      by_cases hlt : i < s.toList.length
      · have hb := bt_nat s i hlt
        by_cases hc : isDig (s.toList[i]) = true
        · have hcd := dig_range hc
          have htk : s.toList.take (i + 1) = s.toList.take i ++ [s.toList[i]] := List.take_succ_eq_append_getElem hlt
          obtain ⟨n, rest, ok, hev, hr⟩ := ih (i + 1) (by omega) (by omega) (by rw [htk, List.all_append, hd]; simp [hc])
          refine ⟨n, rest, ok, Ev.step (f := fun k => spec_number.j1 k s (val 0 (s.toList.take i) : Int) (i : Int) true) (fun k => ?_) (Ev.step (fun k => ?_) hev), hr⟩
          · simp only [spec_number.l0]
            rw [hb, if_pos (by omega), if_pos (by omega), if_pos (by omega), decide_eq_true (by omega)]
          · simp only [spec_number.j1]
            have hw := wsucc i (by omega)
            have hv : val 0 (s.toList.take (i + 1)) = val 0 (s.toList.take i) * 10 + ((s.toList[i]).toNat - 48) := by rw [htk, val_snoc]
            have hvl : val 0 (s.toList.take i) < 10 ^ 9 := by
              have := val_le (s.toList.take i) 0 0 hd (by decide)
              have h2 : 10 ^ (0 + (s.toList.take i).length) ≤ 10 ^ 9 := Nat.pow_le_pow_right (by omega) (by rw [List.length_take]; omega)
              omega
            have hp : (10 : Nat) ^ 9 = 1000000000 := by decide
            have e1 : IntKind.u64.wrap ((val 0 (s.toList.take i) : Int) * 10) = ((val 0 (s.toList.take i) * 10 : Nat) : Int) := by simp [IntKind.wrap, IntKind.signed, IntKind.bits]; omega
            have e2 : (((s.toList[i]).toNat : Int) - 48) % 256 = (((s.toList[i]).toNat - 48 : Nat) : Int) := by omega
            have e3 : IntKind.u64.wrap (((val 0 (s.toList.take i) * 10 : Nat) : Int) + (((s.toList[i]).toNat - 48 : Nat) : Int)) = ((val 0 (s.toList.take i) * 10 + ((s.toList[i]).toNat - 48) : Nat) : Int) := by simp [IntKind.wrap, IntKind.signed, IntKind.bits]; omega
            rw [if_pos trivial, if_pos (by omega), if_pos (by omega), hw, if_neg (by omega), hb, e1, e2, e3, hv]
        · have hc' : isDig (s.toList[i]) = false := by simpa using hc
          simp only [isDig, Bool.and_eq_false_iff, decide_eq_false_iff_not] at hc'
          refine ⟨n, rest, ok, Ev.step (fun k => ?_) hev, hr⟩
          simp only [spec_number.l0]
          rw [hb, if_pos (by omega), if_pos (by omega)]
          by_cases h48 : ((s.toList[i]).toNat : Int) ≥ 48
          · rw [if_pos h48, decide_eq_false (by omega)]
          · rw [if_neg h48]
      · refine ⟨n, rest, ok, Ev.step (fun k => ?_) hev, hr⟩
        simp only [spec_number.l0]
        rw [if_neg (by omega)]
  obtain ⟨n, rest, ok, h⟩ := key 9 0 rfl (Nat.zero_le _) rfl
  exact ⟨n, rest, ok, by simpa [spec_number.f, val] using h⟩

/-! ### parts -/
/-- Parts of numerals without zeros ahead, if that is asked for. -/
def Strict (b : Bool) (ps : List (List UInt8)) : Prop := b = true → ∀ p ∈ ps, p.all isDig = true → canon p
theorem part_cases (c : UInt8) : isPart c = true ∨ c = 46 ∨ (isPart c = false ∧ c ≠ 46) := by
  cases h : isPart c with
  | true => exact .inl rfl
  | false => by_cases e : c = 46; exact .inr (.inl e); exact .inr (.inr ⟨rfl, e⟩)
theorem j1_byte (k : Nat) (s : ByteArray) (st : Bool) (f i : Int) (c : UInt8) (h0 : 0 ≤ i) (h1 : i < (s.size : Int)) (hb : bt s i = (c.toNat : Int)) : spec_parts.j1 (k + 1) s st f i true = spec_parts.j2 k s st f i (!(isPart c)) := by
  simp only [spec_parts.j1]
  rw [if_pos trivial, if_pos h0, if_pos h1, hb]
  have hT : 48 ≤ c.toNat ∧ c.toNat ≤ 57 ∨ 97 ≤ c.toNat ∧ c.toNat ≤ 122 ∨ 65 ≤ c.toNat ∧ c.toNat ≤ 90 → isPart c = true := fun h => by
    simp only [isPart, isDig, Bool.or_eq_true, Bool.and_eq_true, decide_eq_true_eq]; omega
  have hE : ¬ (48 ≤ c.toNat ∧ c.toNat ≤ 57 ∨ 97 ≤ c.toNat ∧ c.toNat ≤ 122 ∨ 65 ≤ c.toNat ∧ c.toNat ≤ 90) → ((c.toNat : Int) == 45) = isPart c := fun h => by
    rw [Bool.eq_iff_iff]
    simp only [isPart, isDig, Bool.or_eq_true, Bool.and_eq_true, decide_eq_true_eq, beq_iff_eq]; omega
  by_cases hr : 48 ≤ c.toNat ∧ c.toNat ≤ 57 ∨ 97 ≤ c.toNat ∧ c.toNat ≤ 122 ∨ 65 ≤ c.toNat ∧ c.toNat ≤ 90
  · have e := hT hr
    rw [e]
    clear hT hE e
    repeat' split
    all_goals first
      | rfl
      | (exfalso; omega)
  · have e := hE hr
    rw [← e]
    clear hT hE e
    repeat' split
    all_goals first
      | rfl
      | (exfalso; omega)
end Go.Proofs.YtoebognfkigooaaGreatDoor.Sv
namespace Go.Proofs.YtoebognfkigooaaGreatDoor.Sv
open Go.RowKit Go.Proofs.YtoebognfkigooaaGreatDoor.PFnSemverEither Go.Proofs.YtoebognfkigooaaGreatDoorW.PrintWords Go.Proofs.YtoebognfkigooaaGreatDoor.Txt Go.Proofs.YtoebognfkigooaaGreatDoor
set_option linter.unusedVariables false
set_option linter.unusedSimpArgs false

section
variable (k : Nat) (s : ByteArray) (f i : Int)
theorem end_none (st : Bool) (h : i = f) : spec_parts.j1 (k + 1) s st f i false = some false := by
  simp only [spec_parts.j1]
  rw [if_neg (by simp), if_pos h]
theorem end_loose (h : ¬ i = f) : spec_parts.j1 (k + 1) s false f i false = spec_parts.l0 k s false (wrap64 (i + 1)) (wrap64 (i + 1)) := by
  simp only [spec_parts.j1]
  rw [if_neg (by simp), if_neg h, if_neg (by simp)]
theorem end_one (h : ¬ i = f) (h1 : ¬ i > wrap64 (f + 1)) : spec_parts.j1 (k + 1) s true f i false = spec_parts.l0 k s true (wrap64 (i + 1)) (wrap64 (i + 1)) := by
  simp only [spec_parts.j1]
  rw [if_neg (by simp), if_neg h, if_pos trivial, if_neg h1]
theorem end_more (h : ¬ i = f) (h1 : i > wrap64 (f + 1)) (h2 : 0 ≤ f) (h3 : f < (s.size : Int)) (h4 : ¬ bt s f = 48) : spec_parts.j1 (k + 1) s true f i false = spec_parts.l0 k s true (wrap64 (i + 1)) (wrap64 (i + 1)) := by
  simp only [spec_parts.j1]
  rw [if_neg (by simp), if_neg h, if_pos trivial, if_pos h1, if_pos h2, if_pos h3, if_neg h4]
theorem end_zero (h : ¬ i = f) (h1 : i > wrap64 (f + 1)) (h2 : 0 ≤ f) (h3 : f < (s.size : Int)) (h4 : bt s f = 48) (h5 : f ≤ i) (h6 : i ≤ (s.size : Int)) :
    spec_parts.j1 (k + 1) s true f i false = (spec_onlyDigits.f k (s.extract f.toNat i.toNat)).bind fun t => if t = true then some false else spec_parts.l0 k s true (wrap64 (i + 1)) (wrap64 (i + 1)) := by
  simp only [spec_parts.j1]
  rw [if_neg (by simp), if_neg h, if_pos trivial, if_pos h1, if_pos h2, if_pos h3, if_pos h4, if_pos h5, if_pos h6]
theorem at_end (st : Bool) (h : ¬ i ≤ (s.size : Int)) : spec_parts.l0 (k + 1) s st f i = some true := by
  simp only [spec_parts.l0]
  rw [if_neg h]
theorem at_size (st : Bool) (h : i = (s.size : Int)) : spec_parts.l0 (k + 1) s st f i = spec_parts.j1 k s st f i false := by
  simp only [spec_parts.l0]
  rw [if_pos (by omega), if_neg (by omega)]
theorem at_byte (st : Bool) (h0 : 0 ≤ i) (h : i < (s.size : Int)) : spec_parts.l0 (k + 1) s st f i = spec_parts.j1 k s st f i (bt s i != 46) := by
  simp only [spec_parts.l0]
  rw [if_pos (by omega), if_pos h, if_pos h0]
theorem byte_bad (st : Bool) : spec_parts.j2 (k + 1) s st f i true = some false := by
  simp only [spec_parts.j2]
  rw [if_pos trivial]
theorem byte_on (st : Bool) : spec_parts.j2 (k + 1) s st f i false = spec_parts.l0 k s st f (wrap64 (i + 1)) := by
  simp only [spec_parts.j2]
  rw [if_neg (by simp)]
end
/-- A part of a text: its end. -/
def PartsAt (s : ByteArray) (st : Bool) (f : Nat) : Prop := ∃ ps, PartsOk ps ∧ s.toList.drop f = dots ps ∧ Strict st ps
theorem close_ev (s : ByteArray) (hs : s.size ≤ 1000) (st : Bool) (f i : Nat) (hfi : f ≤ i) (hile : i ≤ s.size) (cur : List UInt8) (hcur : (s.toList.drop f).take (i - f) = cur) (hall : cur.all isPart = true)
    (hpt : ∀ hlt : i < s.toList.length, s.toList[i] = 46) (b : Bool) (hb : Ev (fun k => spec_parts.l0 k s st ((i + 1 : Nat) : Int) ((i + 1 : Nat) : Int)) b) (hbt : b = true → i = s.size ∨ PartsAt s st (i + 1)) :
    ∃ b' : Bool, Ev (fun k => spec_parts.j1 k s st (f : Int) (i : Int) false) b' ∧ (b' = true → PartsAt s st f) := by
  have hl := len_eq s
  have hcl : cur.length = i - f := by rw [← hcur, List.length_take, List.length_drop]; omega
  have hw : wrap64 ((i : Int) + 1) = ((i + 1 : Nat) : Int) := wsucc i (by omega)
  have hwf : wrap64 ((f : Int) + 1) = ((f + 1 : Nat) : Int) := wsucc f (by omega)
  by_cases hfe : i = f
  · exact ⟨false, Ev.step (f := fun _ => some false) (fun k => end_none k s _ _ st (by omega)) (Ev.now _), fun h => by cases h⟩
  have hfl : f < s.toList.length := by omega
  have hbf := bt_nat s f hfl
  have hne : cur ≠ [] := fun e => by rw [e] at hcl; simp at hcl; omega
  have hext : (s.extract f i).toList = cur := by rw [tl_extract, hcur]
  have hhead : cur.head? = some (s.toList[f]) := by
    rw [← hcur, List.drop_eq_getElem_cons hfl]
    obtain ⟨n, hn⟩ : ∃ n, i - f = n + 1 := ⟨i - f - 1, by omega⟩
    rw [hn]; rfl
  have hsplit : s.toList.drop f = cur ++ s.toList.drop i := by
    have := (List.take_append_drop (i - f) (s.toList.drop f)).symm
    rw [List.drop_drop, show f + (i - f) = i by omega, hcur] at this
    exact this
  have build : (st = true → cur.all isDig = true → canon cur) → b = true → PartsAt s st f := fun hstr hbb => by
    rcases hbt hbb with e1 | ⟨ps, h1, h2, h3⟩
    · have hdi : s.toList.drop i = [] := List.drop_eq_nil_of_le (by omega)
      refine ⟨[cur], ⟨by simp, fun p hp => ?_⟩, by rw [hdi, List.append_nil] at hsplit; exact hsplit, fun hst p hp => ?_⟩
      · rw [List.mem_singleton.1 hp]; exact ⟨hne, hall⟩
      · rw [List.mem_singleton.1 hp]; exact hstr hst
    · have hil : i < s.toList.length := by
        have h4 := dots_ne h1
        rw [← h2] at h4
        have h5 := List.length_pos_iff.2 h4
        rw [List.length_drop] at h5
        omega
      have hdi : s.toList.drop i = 46 :: dots ps := by rw [List.drop_eq_getElem_cons hil, hpt hil, h2]
      obtain ⟨q, r, rfl⟩ : ∃ q r, ps = q :: r := by
        cases ps with
        | nil => exact absurd rfl h1.1
        | cons q r => exact ⟨q, r, rfl⟩
      refine ⟨cur :: q :: r, ⟨by simp, fun p hp => ?_⟩, by rw [hdi] at hsplit; exact hsplit, fun hst p hp => ?_⟩
      · rcases List.mem_cons.1 hp with rfl | hp
        · exact ⟨hne, hall⟩
        · exact h1.2 p hp
      · rcases List.mem_cons.1 hp with rfl | hp
        · exact hstr hst
        · exact h3 hst p hp
  cases st with
  | false => exact ⟨b, Ev.step (fun k => by rw [end_loose k s _ _ (by omega), hw]) hb, build (fun h => by cases h)⟩
  | true =>
    by_cases h1 : i = f + 1
    · exact ⟨b, Ev.step (fun k => by rw [end_one k s _ _ (by omega) (by rw [hwf]; omega), hw]) hb, build (fun _ _ => .inl (by omega))⟩
    · have hgt : (i : Int) > wrap64 ((f : Int) + 1) := by rw [hwf]; omega
      by_cases h48 : s.toList[f] = 48
      · have ho := only_ev (s.extract f i) (by rw [len_eq, hext, hcl]; omega)
        rw [hext] at ho
        have h4 : bt s (f : Int) = 48 := by rw [hbf, h48]; rfl
        have hst : ∀ k, spec_parts.j1 (k + 1) s true (f : Int) (i : Int) false = (spec_onlyDigits.f k (s.extract f i)).bind fun t => if t = true then some false else spec_parts.l0 k s true ((i + 1 : Nat) : Int) ((i + 1 : Nat) : Int) := fun k => by
          rw [end_zero k s _ _ (by omega) hgt (by omega) (by omega) h4 (by omega) (by omega), hw, Int.toNat_natCast, Int.toNat_natCast]
        cases hod : cur.all isDig with
        | true =>
          rw [hod] at ho
          exact ⟨false, Ev.step hst (Ev.andThen (f := fun k t => if t = true then some false else spec_parts.l0 k s true ((i + 1 : Nat) : Int) ((i + 1 : Nat) : Int)) ho (Ev.pos rfl (Ev.now _))), fun h => by cases h⟩
        | false =>
          rw [hod] at ho
          exact ⟨b, Ev.step hst (Ev.andThen (f := fun k t => if t = true then some false else spec_parts.l0 k s true ((i + 1 : Nat) : Int) ((i + 1 : Nat) : Int)) ho (Ev.neg (by decide) hb)), build (fun _ h => by rw [hod] at h; cases h)⟩
      · have hne' : ¬ ((s.toList[f]).toNat : Int) = ((48 : Nat) : Int) := byte_ne (by decide) h48
        refine ⟨b, Ev.step (fun k => by rw [end_more k s _ _ (by omega) hgt (by omega) (by omega) (by rw [hbf]; exact hne'), hw]) hb, build (fun _ _ => .inr ?_)⟩
        rw [hhead]; intro e; exact h48 (Option.some.inj e)
theorem parts_ev (s : ByteArray) (hs : s.size ≤ 1000) (st : Bool) : ∃ b : Bool, Ev (fun k => spec_parts.f k s st) b ∧ (b = true → PartsAt s st 0) := by
  have hl := len_eq s
  have key : ∀ (d f i : Nat), s.size + 1 - i = d → f ≤ i → i ≤ s.size + 1 → ((s.toList.drop f).take (i - f)).all isPart = true → (i = s.size + 1 → f = s.size + 1) →
      ∃ b : Bool, Ev (fun k => spec_parts.l0 k s st (f : Int) (i : Int)) b ∧ (b = true → f = s.size + 1 ∨ PartsAt s st f) := by
    intro d
    induction d with
    | zero =>
      intro f i hd hfi hi hall hend
      have e : i = s.size + 1 := by omega
      exact ⟨true, Ev.step (f := fun _ => some true) (fun k => at_end k s _ _ st (by omega)) (Ev.now _), fun _ => .inl (hend e)⟩
    | succ d ih =>
      intro f i hd hfi hi hall hend
      have hile : i ≤ s.size := by omega
      have hw : wrap64 ((i : Int) + 1) = ((i + 1 : Nat) : Int) := wsucc i (by omega)
      have close : (∀ hlt : i < s.toList.length, s.toList[i] = 46) → ∃ b' : Bool, Ev (fun k => spec_parts.j1 k s st (f : Int) (i : Int) false) b' ∧ (b' = true → PartsAt s st f) := fun hpt => by
        obtain ⟨b, hb, hbt⟩ := ih (i + 1) (i + 1) (by omega) (Nat.le_refl _) (by omega) (by simp) (fun _ => by omega)
        refine close_ev s hs st f i hfi hile _ rfl hall hpt b hb (fun h => ?_)
        rcases hbt h with e | h
        · exact .inl (by omega)
        · exact .inr h
      by_cases hlt : i < s.toList.length
      · have hb := bt_nat s i hlt
        have hi1 : (i : Int) < (s.size : Int) := by omega
        have hi2 : (0 : Int) ≤ (i : Int) := by omega
        rcases part_cases (s.toList[i]) with hp | h46 | ⟨hp, h46⟩
        · have h46 : s.toList[i] ≠ 46 := fun e => by rw [e] at hp; exact absurd hp (by decide)
          have hne : ¬ ((s.toList[i]).toNat : Int) = ((46 : Nat) : Int) := byte_ne (by decide) h46
          have hnb : (bt s (i : Int) != 46) = true := by rw [hb]; simpa [bne] using hne
          have hall' : ((s.toList.drop f).take (i + 1 - f)).all isPart = true := by
            have e : (s.toList.drop f).take (i + 1 - f) = (s.toList.drop f).take (i - f) ++ [s.toList[i]] := by
              rw [show i + 1 - f = (i - f) + 1 by omega, List.take_succ_eq_append_getElem (by rw [List.length_drop]; omega), List.getElem_drop]
              simp only [show f + (i - f) = i by omega]
            rw [e, List.all_append, hall]; simp [hp]
          obtain ⟨b, hev, hbt⟩ := ih f (i + 1) (by omega) (by omega) (by omega) hall' (fun h => by omega)
          exact ⟨b, Ev.step (fun k => by rw [at_byte k s _ _ st hi2 hi1, hnb]) (Ev.step (f := fun k => spec_parts.j2 k s st (f : Int) (i : Int) false) (fun k => by rw [j1_byte k s st _ _ _ hi2 hi1 hb, hp]; exact rfl) (Ev.step (fun k => by rw [byte_on, hw]) hev)), hbt⟩
        · obtain ⟨b, hev, hbt⟩ := close (fun _ => h46)
          have hnb : (bt s (i : Int) != 46) = false := by rw [hb, h46]; rfl
          exact ⟨b, Ev.step (fun k => by rw [at_byte k s _ _ st hi2 hi1, hnb]) hev, fun h => .inr (hbt h)⟩
        · have hne : ¬ ((s.toList[i]).toNat : Int) = ((46 : Nat) : Int) := byte_ne (by decide) h46
          have hnb : (bt s (i : Int) != 46) = true := by rw [hb]; simpa [bne] using hne
          exact ⟨false, Ev.step (fun k => by rw [at_byte k s _ _ st hi2 hi1, hnb]) (Ev.step (f := fun k => spec_parts.j2 k s st (f : Int) (i : Int) true) (fun k => by rw [j1_byte k s st _ _ _ hi2 hi1 hb, hp]; exact rfl) (Ev.step (f := fun _ => some false) (fun k => byte_bad k s _ _ st) (Ev.now _))), fun h => by cases h⟩
      · obtain ⟨b, hev, hbt⟩ := close (fun h => absurd h hlt)
        exact ⟨b, Ev.step (fun k => at_size k s _ _ st (by omega)) hev, fun h => .inr (hbt h)⟩
  obtain ⟨b, hev, hbt⟩ := key _ 0 0 rfl (Nat.le_refl _) (by omega) (by simp) (fun h => by omega)
  refine ⟨b, by simpa [spec_parts.f] using hev, fun h => ?_⟩
  rcases hbt h with e | h
  · omega
  · exact h
end Go.Proofs.YtoebognfkigooaaGreatDoor.Sv
namespace Go.Proofs.YtoebognfkigooaaGreatDoor.Sv
open Go.RowKit Go.Proofs.YtoebognfkigooaaGreatDoor.PFnSemverEither Go.Proofs.YtoebognfkigooaaGreatDoorW.PrintWords Go.Proofs.YtoebognfkigooaaGreatDoor.Txt Go.Proofs.YtoebognfkigooaaGreatDoor
set_option linter.unusedVariables false
set_option linter.unusedSimpArgs false

abbrev PvR := Int × Int × Int × ByteArray × ByteArray × Bool
def noV : PvR := (0, 0, 0, (⟨#[]⟩ : ByteArray), (⟨#[]⟩ : ByteArray), false)
def Num9 (d : List UInt8) : Prop := d ≠ [] ∧ d.all isDig = true ∧ d.length ≤ 9
/-- What is behind the third number. -/
def Tail3 (x : List UInt8) (r4 : ByteArray) : Prop := ∃ ps, (ps = [] ∨ PartsOk ps) ∧ Strict true ps ∧ x = sg 45 (dots ps) ∧ r4.toList = dots ps
theorem first_byte {r : ByteArray} {n : Nat} (hn : n < 256) (h0 : 0 < r.size) (h : bt r 0 = (n : Int)) : r.toList = UInt8.ofNat n :: (r.extract 1 r.size).toList := by
  have hl := len_eq r
  have hlt : 0 < r.toList.length := by omega
  have hb := bt_nat r 0 hlt
  have e : (r.toList[0]).toNat = n := by
    have : ((r.toList[0]).toNat : Int) = (n : Int) := by rw [← h]; exact hb.symm
    omega
  have e2 : r.toList[0] = UInt8.ofNat n := by rw [← e]; exact UInt8.ofNat_toNat.symm
  have h2 := List.drop_eq_getElem_cons hlt
  rw [List.drop_zero] at h2
  rw [extract_self, ← e2]
  exact h2
theorem j2_no (x : ByteArray) (a b c : Int) (p q : ByteArray) : Ev (fun k => spec_ParseVersion.j2 k x true a b c p q) noV :=
  Ev.step (f := fun _ => some noV) (fun k => by simp only [spec_ParseVersion.j2]; rw [if_pos trivial]; rfl) (Ev.now _)
theorem j3_no (x : ByteArray) (a b c : Int) (p q : ByteArray) : Ev (fun k => spec_ParseVersion.j3 k x true a b c p q) noV :=
  Ev.step (f := fun _ => some noV) (fun k => by simp only [spec_ParseVersion.j3]; rw [if_pos trivial]; rfl) (Ev.now _)
/-- The third number, and what is behind it. -/
theorem third_ev (x : ByteArray) (hx : x.size ≤ 1000) (h0 : 0 < x.size) (a b : Int) (mt : ByteArray) : ∃ r : PvR, Ev (fun k => spec_ParseVersion.j3 k x false a b 0 ⟨#[]⟩ mt) r ∧
    (r.2.2.2.2.2 = true → ∃ d tl, Num9 d ∧ (x.extract 1 x.size).toList = d ++ tl ∧ Tail3 tl r.2.2.2.1 ∧ r.1 = a ∧ r.2.1 = b ∧ r.2.2.1 = (val 0 d : Int) ∧ r.2.2.2.2.1 = mt) := by
  have hy : (x.extract 1 x.size).size ≤ 1000 := by rw [size_extract _ _ _ (by omega) (Nat.le_refl _)]; omega
  obtain ⟨n, rest, ok, hev, hrs, hok⟩ := number_ev (x.extract 1 x.size) hy
  have hstep : ∀ k, spec_ParseVersion.j3 (k + 1) x false a b 0 ⟨#[]⟩ mt = (spec_number.f k (x.extract 1 x.size)).bind fun bt110 => (if bt110.2.2 = true then (if (bt110.2.1.size : Int) > 0 then (if 0 < (bt110.2.1.size : Int) then (if (bt bt110.2.1 0) = 45 then (if 1 ≤ (bt110.2.1.size : Int) then ((spec_parts.f k (bt110.2.1.extract 1 bt110.2.1.size) true).bind fun t113 => (if t113 = true then (some (a, b, bt110.1, bt110.2.1.extract 1 bt110.2.1.size, mt, true)) else (some noV))) else (none)) else (some noV)) else (none)) else (some (a, b, bt110.1, (⟨#[]⟩ : ByteArray), mt, true))) else (some noV)) := fun k => by
    simp only [spec_ParseVersion.j3]
    rw [if_neg (by simp), if_pos (by omega)]
    rfl
  cases ok with
  | false =>
    exact ⟨noV, Ev.step hstep (Ev.andThen hev (Ev.neg (by simp) (Ev.now _))), fun h => by cases h⟩
  | true =>
    obtain ⟨d, h1, h2, h3, h4, h5⟩ := hok rfl
    by_cases hz : rest.size = 0
    · refine ⟨(a, b, n, (⟨#[]⟩ : ByteArray), mt, true), Ev.step hstep (Ev.andThen hev (Ev.pos rfl (Ev.neg (by show ¬ ((rest.size : Int) > 0); omega) (Ev.now _)))), fun _ => ⟨d, rest.toList, ⟨h1, h2, h3⟩, h5, ?_, rfl, rfl, h4, rfl⟩⟩
      have : rest.toList = [] := List.eq_nil_of_length_eq_zero (by rw [← len_eq]; exact hz)
      rw [this]
      exact ⟨[], .inl rfl, fun _ p hp => by simp at hp, by simp [dots, sg], by rw [tl_nil]; rfl⟩
    · by_cases hb : bt rest 0 = 45
      · have hfb := first_byte (n := 45) (by decide) (by omega) hb
        obtain ⟨pb, hpe, hpt⟩ := parts_ev (rest.extract 1 rest.size) (by rw [size_extract _ _ _ (by omega) (Nat.le_refl _)]; omega) true
        cases pb with
        | false =>
          exact ⟨noV, Ev.step hstep (Ev.andThen hev (Ev.pos rfl (Ev.pos (by simp; omega) (Ev.pos (by simp; omega) (Ev.pos hb (Ev.pos (by simp; omega) (Ev.andThen hpe (Ev.neg (by simp) (Ev.now _))))))))), fun h => by cases h⟩
        | true =>
          refine ⟨(a, b, n, rest.extract 1 rest.size, mt, true), Ev.step hstep (Ev.andThen hev (Ev.pos rfl (Ev.pos (by simp; omega) (Ev.pos (by simp; omega) (Ev.pos hb (Ev.pos (by simp; omega) (Ev.andThen hpe (Ev.pos rfl (Ev.now _))))))))), fun _ => ⟨d, rest.toList, ⟨h1, h2, h3⟩, h5, ?_, rfl, rfl, h4, rfl⟩⟩
          obtain ⟨ps, q1, q2, q3⟩ := hpt rfl
          rw [List.drop_zero] at q2
          refine ⟨ps, .inr q1, q3, ?_, q2⟩
          unfold sg
          rw [if_neg (dots_ne q1), hfb, q2]; rfl
      · exact ⟨noV, Ev.step hstep (Ev.andThen hev (Ev.pos rfl (Ev.pos (by simp; omega) (Ev.pos (by simp; omega) (Ev.neg hb (Ev.now _)))))), fun h => by cases h⟩
/-- The second number, and what is behind it. -/
theorem second_ev (x : ByteArray) (hx : x.size ≤ 1000) (h0 : 0 < x.size) (a : Int) (mt : ByteArray) : ∃ r : PvR, Ev (fun k => spec_ParseVersion.j2 k x false a 0 0 ⟨#[]⟩ mt) r ∧
    (r.2.2.2.2.2 = true → ∃ d d' tl, Num9 d ∧ Num9 d' ∧ (x.extract 1 x.size).toList = d ++ 46 :: (d' ++ tl) ∧ Tail3 tl r.2.2.2.1 ∧ r.1 = a ∧ r.2.1 = (val 0 d : Int) ∧ r.2.2.1 = (val 0 d' : Int) ∧ r.2.2.2.2.1 = mt) := by
  have hyz : (x.extract 1 x.size).size ≤ 1000 := by rw [size_extract _ _ _ (by omega) (Nat.le_refl _)]; omega
  obtain ⟨n, rest, ok, hev, hrs, hok⟩ := number_ev (x.extract 1 x.size) hyz
  have hstep : ∀ k, spec_ParseVersion.j2 (k + 1) x false a 0 0 ⟨#[]⟩ mt = (spec_number.f k (x.extract 1 x.size)).bind fun bt107 => (if bt107.2.2 = true then (if (bt107.2.1.size : Int) = 0 then (spec_ParseVersion.j3 k bt107.2.1 true a bt107.1 0 ⟨#[]⟩ mt) else (if 0 < (bt107.2.1.size : Int) then (spec_ParseVersion.j3 k bt107.2.1 ((bt bt107.2.1 0) != 46) a bt107.1 0 ⟨#[]⟩ mt) else (none))) else (spec_ParseVersion.j3 k bt107.2.1 true a bt107.1 0 ⟨#[]⟩ mt)) := fun k => by
    simp only [spec_ParseVersion.j2]
    rw [if_neg (by simp), if_pos (by omega)]
  cases ok with
  | false => exact ⟨noV, Ev.step hstep (Ev.andThen hev (Ev.neg (by simp) (j3_no _ _ _ _ _ _))), fun h => by cases h⟩
  | true =>
    obtain ⟨d, h1, h2, h3, h4, h5⟩ := hok rfl
    by_cases hz : rest.size = 0
    · exact ⟨noV, Ev.step hstep (Ev.andThen hev (Ev.pos rfl (Ev.pos (by show ((rest.size : Int) = 0); omega) (j3_no _ _ _ _ _ _)))), fun h => by cases h⟩
    · by_cases hb : bt rest 0 = 46
      · have hfb := first_byte (n := 46) (by decide) (by omega) hb
        have hnb : (bt rest 0 != 46) = false := by rw [hb]; rfl
        obtain ⟨r, hr, hrt⟩ := third_ev rest (by omega) (by omega) a n mt
        refine ⟨r, Ev.step hstep (Ev.andThen hev (Ev.pos rfl (Ev.neg (by show ¬ ((rest.size : Int) = 0); omega) (Ev.pos (by show (0 < (rest.size : Int)); omega) ?_)))), fun h => ?_⟩
        · show Ev (fun k => spec_ParseVersion.j3 k rest (bt rest 0 != 46) a n 0 ⟨#[]⟩ mt) r
          rw [hnb]; exact hr
        · obtain ⟨d', tl, g1, g2, g3, g4, g5, g6, g7⟩ := hrt h
          exact ⟨d, d', tl, ⟨h1, h2, h3⟩, g1, by rw [h5, hfb, g2]; rfl, g3, g4, by rw [g5, h4], g6, g7⟩
      · have hnb : (bt rest 0 != 46) = true := by simpa [bne] using hb
        refine ⟨noV, Ev.step hstep (Ev.andThen hev (Ev.pos rfl (Ev.neg (by show ¬ ((rest.size : Int) = 0); omega) (Ev.pos (by show (0 < (rest.size : Int)); omega) ?_)))), fun h => by cases h⟩
        show Ev (fun k => spec_ParseVersion.j3 k rest (bt rest 0 != 46) a n 0 ⟨#[]⟩ mt) noV
        rw [hnb]; exact j3_no _ _ _ _ _ _
/-- The numbers, and what is behind them. -/
theorem first_ev (x : ByteArray) (hx : x.size ≤ 1000) (mt : ByteArray) : ∃ r : PvR, Ev (fun k => spec_ParseVersion.j1 k x 0 0 0 ⟨#[]⟩ mt) r ∧
    (r.2.2.2.2.2 = true → ∃ d1 d2 d3 tl, Num9 d1 ∧ Num9 d2 ∧ Num9 d3 ∧ x.toList = d1 ++ 46 :: (d2 ++ 46 :: (d3 ++ tl)) ∧ Tail3 tl r.2.2.2.1 ∧ r.1 = (val 0 d1 : Int) ∧ r.2.1 = (val 0 d2 : Int) ∧ r.2.2.1 = (val 0 d3 : Int) ∧ r.2.2.2.2.1 = mt) := by
  obtain ⟨n, rest, ok, hev, hrs, hok⟩ := number_ev x hx
  have hstep : ∀ k, spec_ParseVersion.j1 (k + 1) x 0 0 0 ⟨#[]⟩ mt = (spec_number.f k x).bind fun bt104 => (if bt104.2.2 = true then (if (bt104.2.1.size : Int) = 0 then (spec_ParseVersion.j2 k bt104.2.1 true bt104.1 0 0 ⟨#[]⟩ mt) else (if 0 < (bt104.2.1.size : Int) then (spec_ParseVersion.j2 k bt104.2.1 ((bt bt104.2.1 0) != 46) bt104.1 0 0 ⟨#[]⟩ mt) else (none))) else (spec_ParseVersion.j2 k bt104.2.1 true bt104.1 0 0 ⟨#[]⟩ mt)) := fun k => by
    simp only [spec_ParseVersion.j1]
  cases ok with
  | false => exact ⟨noV, Ev.step hstep (Ev.andThen hev (Ev.neg (by simp) (j2_no _ _ _ _ _ _))), fun h => by cases h⟩
  | true =>
    obtain ⟨d, h1, h2, h3, h4, h5⟩ := hok rfl
    by_cases hz : rest.size = 0
    · exact ⟨noV, Ev.step hstep (Ev.andThen hev (Ev.pos rfl (Ev.pos (by show ((rest.size : Int) = 0); omega) (j2_no _ _ _ _ _ _)))), fun h => by cases h⟩
    · by_cases hb : bt rest 0 = 46
      · have hfb := first_byte (n := 46) (by decide) (by omega) hb
        have hnb : (bt rest 0 != 46) = false := by rw [hb]; rfl
        obtain ⟨r, hr, hrt⟩ := second_ev rest (by omega) (by omega) n mt
        refine ⟨r, Ev.step hstep (Ev.andThen hev (Ev.pos rfl (Ev.neg (by show ¬ ((rest.size : Int) = 0); omega) (Ev.pos (by show (0 < (rest.size : Int)); omega) ?_)))), fun h => ?_⟩
        · show Ev (fun k => spec_ParseVersion.j2 k rest (bt rest 0 != 46) n 0 0 ⟨#[]⟩ mt) r
          rw [hnb]; exact hr
        · obtain ⟨d2, d3, tl, g1, g2, g3, g4, g5, g6, g7, g8⟩ := hrt h
          exact ⟨d, d2, d3, tl, ⟨h1, h2, h3⟩, g1, g2, by rw [h5, hfb, g3]; rfl, g4, by rw [g5, h4], g6, g7, g8⟩
      · have hnb : (bt rest 0 != 46) = true := by simpa [bne] using hb
        refine ⟨noV, Ev.step hstep (Ev.andThen hev (Ev.pos rfl (Ev.neg (by show ¬ ((rest.size : Int) = 0); omega) (Ev.pos (by show (0 < (rest.size : Int)); omega) ?_)))), fun h => by cases h⟩
        show Ev (fun k => spec_ParseVersion.j2 k rest (bt rest 0 != 46) n 0 0 ⟨#[]⟩ mt) noV
        rw [hnb]; exact j2_no _ _ _ _ _ _
end Go.Proofs.YtoebognfkigooaaGreatDoor.Sv
namespace Go.Proofs.YtoebognfkigooaaGreatDoor.Sv
open Go.RowKit Go.Proofs.YtoebognfkigooaaGreatDoor.PFnSemverEither Go.Proofs.YtoebognfkigooaaGreatDoorW.PrintWords Go.Proofs.YtoebognfkigooaaGreatDoor.Txt Go.Proofs.YtoebognfkigooaaGreatDoor
set_option linter.unusedVariables false
set_option linter.unusedSimpArgs false

/-- What a version's text is. -/
def VerOk (s : ByteArray) (r : PvR) : Prop := s.size ≤ 100 ∧ ∃ t : Tx, Num9 t.d1 ∧ Num9 t.d2 ∧ Num9 t.d3 ∧ (t.ps = [] ∨ PartsOk t.ps) ∧ Strict true t.ps ∧ (t.ms = [] ∨ PartsOk t.ms) ∧ s.toList = t.text ∧
  r.1 = (val 0 t.d1 : Int) ∧ r.2.1 = (val 0 t.d2 : Int) ∧ r.2.2.1 = (val 0 t.d3 : Int) ∧ r.2.2.2.1.toList = t.pre ∧ r.2.2.2.2.1.toList = t.meta_
theorem sg_num {d : List UInt8} (h : Num9 d) : sg 46 d = 46 :: d := by unfold sg; rw [if_neg h.1]
theorem version_ev (s : ByteArray) (hs : s.size ≤ 4294967296) : ∃ r : PvR, Ev (fun k => spec_ParseVersion.f k s) r ∧ (r.2.2.2.2.2 = true → VerOk s r) := by
  have hl := len_eq s
  by_cases h100 : s.size > 100
  · refine ⟨noV, ?_, fun h => by cases h⟩
    unfold spec_ParseVersion.f
    exact Ev.pos (by omega) (Ev.now _)
  have key : ∀ (d i : Nat), s.size - i = d → i ≤ s.size → ∃ r : PvR, Ev (fun k => spec_ParseVersion.l0 k s (i : Int) 0 0 0 ⟨#[]⟩ ⟨#[]⟩) r ∧ (r.2.2.2.2.2 = true → VerOk s r) := by
    intro d
    induction d with
    | zero =>
      intro i hd hi
      obtain ⟨r, hr, hrt⟩ := first_ev s (by omega) ⟨#[]⟩
      refine ⟨r, Ev.step (fun k => ?_) hr, fun h => ?_⟩
      · simp only [spec_ParseVersion.l0]
        rw [if_neg (by omega)]
      · obtain ⟨d1, d2, d3, tl, n1, n2, n3, g1, ⟨ps, q1, q2, q3, q4⟩, g3, g4, g5, g6⟩ := hrt h
        refine ⟨by omega, ⟨d1, d2, d3, ps, []⟩, n1, n2, n3, q1, q2, .inl rfl, ?_, g3, g4, g5, q4, by rw [g6, tl_nil]; rfl⟩
        rw [g1, q3]
        unfold Tx.text Tx.pre Tx.meta_
        simp only [sg_num n2, sg_num n3]
        simp [dots, sg]
    | succ d ih =>
      intro i hd hi
      have hlt : i < s.toList.length := by omega
      have hb := bt_nat s i hlt
      have hw := wsucc i (by omega)
      by_cases h43 : bt s (i : Int) = 43
      · have hc : s.toList[i] = 43 := by
          have : ((s.toList[i]).toNat : Int) = 43 := by rw [← hb]; exact h43
          exact UInt8.toNat_inj.1 (by show (s.toList[i]).toNat = 43; omega)
        obtain ⟨pb, hpe, hpt⟩ := parts_ev (s.extract (i + 1) s.size) (by rw [size_extract _ _ _ (by omega) (Nat.le_refl _)]; omega) false
        have hstep : ∀ k, spec_ParseVersion.l0 (k + 1) s (i : Int) 0 0 0 ⟨#[]⟩ ⟨#[]⟩ = (spec_parts.f k (s.extract (i + 1) s.size) false).bind fun t103 => (if t103 = true then (spec_ParseVersion.j1 k (s.extract 0 i) 0 0 0 ⟨#[]⟩ (s.extract (i + 1) s.size)) else (some noV)) := fun k => by
          simp only [spec_ParseVersion.l0]
          rw [if_pos (by omega), if_pos (by omega), if_pos h43, hw, if_pos (by omega), if_pos (by omega), if_pos (by omega), Int.toNat_natCast, Int.toNat_natCast]
          rfl
        cases pb with
        | false => exact ⟨noV, Ev.step hstep (Ev.andThen hpe (Ev.neg (by simp) (Ev.now _))), fun h => by cases h⟩
        | true =>
          obtain ⟨ms, m1, m2, _⟩ := hpt rfl
          rw [List.drop_zero] at m2
          obtain ⟨r, hr, hrt⟩ := first_ev (s.extract 0 i) (by rw [size_extract _ _ _ (Nat.zero_le _) hi]; omega) (s.extract (i + 1) s.size)
          refine ⟨r, Ev.step hstep (Ev.andThen hpe (Ev.pos rfl hr)), fun h => ?_⟩
          obtain ⟨d1, d2, d3, tl, n1, n2, n3, g1, ⟨ps, q1, q2, q3, q4⟩, g3, g4, g5, g6⟩ := hrt h
          refine ⟨by omega, ⟨d1, d2, d3, ps, ms⟩, n1, n2, n3, q1, q2, .inr m1, ?_, g3, g4, g5, q4, by rw [g6, m2]; rfl⟩
          have hcut : s.toList = (s.extract 0 i).toList ++ 43 :: (s.extract (i + 1) s.size).toList := by
            rw [extract_upto, extract_self, ← hc, ← List.drop_eq_getElem_cons hlt, List.take_append_drop]
          rw [hcut, g1, q3, m2]
          unfold Tx.text Tx.pre Tx.meta_
          simp only [sg_num n2, sg_num n3]
          have e : sg 43 (dots ms) = 43 :: dots ms := by unfold sg; rw [if_neg (dots_ne m1)]
          rw [e]
          simp
      · obtain ⟨r, hr, hrt⟩ := ih (i + 1) (by omega) (by omega)
        refine ⟨r, Ev.step (fun k => ?_) hr, hrt⟩
        simp only [spec_ParseVersion.l0]
        rw [if_pos (by omega), if_pos (by omega), if_neg h43, hw]
  obtain ⟨r, hr, hrt⟩ := key _ 0 rfl (Nat.zero_le _)
  refine ⟨r, ?_, hrt⟩
  unfold spec_ParseVersion.f
  exact Ev.neg (by omega) hr

/-! ### identifiers -/

end Go.Proofs.YtoebognfkigooaaGreatDoor.Sv
