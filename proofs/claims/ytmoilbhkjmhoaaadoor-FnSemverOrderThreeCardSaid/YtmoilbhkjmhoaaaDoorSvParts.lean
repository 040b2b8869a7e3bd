/- Semantic versions, plain: parts with points between, as the specification's parser reads them. -/
import Derived.Test.YtmoilbhkjmhoaaaDoorSvParse
namespace Go.Proofs.YtmoilbhkjmhoaaaDoor.Sv
open Go.RowKit Go.Proofs.YtmoilbhkjmhoaaaDoor.PFnSemverOrderThree Go.Proofs.YtmoilbhkjmhoaaaDoorW.PrintWords Go.Proofs.YtmoilbhkjmhoaaaDoor.Txt Go.Proofs.YtmoilbhkjmhoaaaDoor
set_option linter.unusedVariables false
set_option linter.unusedSimpArgs false

section
variable (k : Nat) (s : ByteArray) (f i : Int)
theorem end_none (st : Bool) (h : i = f) : spec_parts.j1 (k + 1) s st f i false = some false := by
  simp only [spec_parts.j1]
  rw [if_neg (by simp), if_pos h]
theorem end_loose (h : ¬ i = f) : spec_parts.j1 (k + 1) s false f i false = spec_parts.l0 k s false (wrap64 (i + 1)) (wrap64 (i + 1)) := by
  simp only [spec_parts.j1]
  rw [if_neg (by simp), if_neg h, if_neg (by simp)]
theorem end_one (h : ¬ i = f) (h1 : ¬ i > wrap64 (f + 1)) : spec_parts.j1 (k + 1) s true f i false = spec_parts.l0 k s true (wrap64 (i + 1)) (wrap64 (i + 1)) := by
  simp only [spec_parts.j1]
  rw [if_neg (by simp), if_neg h, if_pos trivial, if_neg h1]
theorem end_more (h : ¬ i = f) (h1 : i > wrap64 (f + 1)) (h2 : 0 ≤ f) (h3 : f < (s.size : Int)) (h4 : ¬ bt s f = 48) : spec_parts.j1 (k + 1) s true f i false = spec_parts.l0 k s true (wrap64 (i + 1)) (wrap64 (i + 1)) := by
  simp only [spec_parts.j1]
  rw [if_neg (by simp), if_neg h, if_pos trivial, if_pos h1, if_pos h2, if_pos h3, if_neg h4]
theorem end_zero (h : ¬ i = f) (h1 : i > wrap64 (f + 1)) (h2 : 0 ≤ f) (h3 : f < (s.size : Int)) (h4 : bt s f = 48) (h5 : f ≤ i) (h6 : i ≤ (s.size : Int)) :
    spec_parts.j1 (k + 1) s true f i false = (spec_onlyDigits.f k (s.extract f.toNat i.toNat)).bind fun t => if t = true then some false else spec_parts.l0 k s true (wrap64 (i + 1)) (wrap64 (i + 1)) := by
  simp only [spec_parts.j1]
  rw [if_neg (by simp), if_neg h, if_pos trivial, if_pos h1, if_pos h2, if_pos h3, if_pos h4, if_pos h5, if_pos h6]
theorem at_end (st : Bool) (h : ¬ i ≤ (s.size : Int)) : spec_parts.l0 (k + 1) s st f i = some true := by
  simp only [spec_parts.l0]
  rw [if_neg h]
theorem at_size (st : Bool) (h : i = (s.size : Int)) : spec_parts.l0 (k + 1) s st f i = spec_parts.j1 k s st f i false := by
  simp only [spec_parts.l0]
  rw [if_pos (by omega), if_neg (by omega)]
theorem at_byte (st : Bool) (h0 : 0 ≤ i) (h : i < (s.size : Int)) : spec_parts.l0 (k + 1) s st f i = spec_parts.j1 k s st f i (bt s i != 46) := by
  simp only [spec_parts.l0]
  rw [if_pos (by omega), if_pos h, if_pos h0]
theorem byte_bad (st : Bool) : spec_parts.j2 (k + 1) s st f i true = some false := by
  simp only [spec_parts.j2]
  rw [if_pos trivial]
theorem byte_on (st : Bool) : spec_parts.j2 (k + 1) s st f i false = spec_parts.l0 k s st f (wrap64 (i + 1)) := by
  simp only [spec_parts.j2]
  rw [if_neg (by simp)]
end
/-- A part of a text: its end. -/
def PartsAt (s : ByteArray) (st : Bool) (f : Nat) : Prop := ∃ ps, PartsOk ps ∧ s.toList.drop f = dots ps ∧ Strict st ps
theorem close_ev (s : ByteArray) (hs : s.size ≤ 1000) (st : Bool) (f i : Nat) (hfi : f ≤ i) (hile : i ≤ s.size) (cur : List UInt8) (hcur : (s.toList.drop f).take (i - f) = cur) (hall : cur.all isPart = true)
    (hpt : ∀ hlt : i < s.toList.length, s.toList[i] = 46) (b : Bool) (hb : Ev (fun k => spec_parts.l0 k s st ((i + 1 : Nat) : Int) ((i + 1 : Nat) : Int)) b) (hbt : b = true → i = s.size ∨ PartsAt s st (i + 1)) :
    ∃ b' : Bool, Ev (fun k => spec_parts.j1 k s st (f : Int) (i : Int) false) b' ∧ (b' = true → PartsAt s st f) := by
  have hl := len_eq s
  have hcl : cur.length = i - f := by rw [← hcur, List.length_take, List.length_drop]; omega
  have hw : wrap64 ((i : Int) + 1) = ((i + 1 : Nat) : Int) := wsucc i (by omega)
  have hwf : wrap64 ((f : Int) + 1) = ((f + 1 : Nat) : Int) := wsucc f (by omega)
  by_cases hfe : i = f
  · exact ⟨false, Ev.step (f := fun _ => some false) (fun k => end_none k s _ _ st (by omega)) (Ev.now _), fun h => by cases h⟩
  have hfl : f < s.toList.length := by omega
  have hbf := bt_nat s f hfl
  have hne : cur ≠ [] := fun e => by rw [e] at hcl; simp at hcl; omega
  have hext : (s.extract f i).toList = cur := by rw [tl_extract, hcur]
  have hhead : cur.head? = some (s.toList[f]) := by
    rw [← hcur, List.drop_eq_getElem_cons hfl]
    obtain ⟨n, hn⟩ : ∃ n, i - f = n + 1 := ⟨i - f - 1, by omega⟩
    rw [hn]; rfl
  have hsplit : s.toList.drop f = cur ++ s.toList.drop i := by
    have := (List.take_append_drop (i - f) (s.toList.drop f)).symm
    rw [List.drop_drop, show f + (i - f) = i by omega, hcur] at this
    exact this
  have build : (st = true → cur.all isDig = true → canon cur) → b = true → PartsAt s st f := fun hstr hbb => by
    rcases hbt hbb with e1 | ⟨ps, h1, h2, h3⟩
    · have hdi : s.toList.drop i = [] := List.drop_eq_nil_of_le (by omega)
      refine ⟨[cur], ⟨by simp, fun p hp => ?_⟩, by rw [hdi, List.append_nil] at hsplit; exact hsplit, fun hst p hp => ?_⟩
      · rw [List.mem_singleton.1 hp]; exact ⟨hne, hall⟩
      · rw [List.mem_singleton.1 hp]; exact hstr hst
    · have hil : i < s.toList.length := by
        have h4 := dots_ne h1
        rw [← h2] at h4
        have h5 := List.length_pos_iff.2 h4
        rw [List.length_drop] at h5
        omega
      have hdi : s.toList.drop i = 46 :: dots ps := by rw [List.drop_eq_getElem_cons hil, hpt hil, h2]
      obtain ⟨q, r, rfl⟩ : ∃ q r, ps = q :: r := by
        cases ps with
        | nil => exact absurd rfl h1.1
        | cons q r => exact ⟨q, r, rfl⟩
      refine ⟨cur :: q :: r, ⟨by simp, fun p hp => ?_⟩, by rw [hdi] at hsplit; exact hsplit, fun hst p hp => ?_⟩
      · rcases List.mem_cons.1 hp with rfl | hp
        · exact ⟨hne, hall⟩
        · exact h1.2 p hp
      · rcases List.mem_cons.1 hp with rfl | hp
        · exact hstr hst
        · exact h3 hst p hp
  cases st with
  | false => exact ⟨b, Ev.step (fun k => by rw [end_loose k s _ _ (by omega), hw]) hb, build (fun h => by cases h)⟩
  | true =>
    by_cases h1 : i = f + 1
    · exact ⟨b, Ev.step (fun k => by rw [end_one k s _ _ (by omega) (by rw [hwf]; omega), hw]) hb, build (fun _ _ => .inl (by omega))⟩
    · have hgt : (i : Int) > wrap64 ((f : Int) + 1) := by rw [hwf]; omega
      by_cases h48 : s.toList[f] = 48
      · have ho := only_ev (s.extract f i) (by rw [len_eq, hext, hcl]; omega)
        rw [hext] at ho
        have h4 : bt s (f : Int) = 48 := by rw [hbf, h48]; rfl
        have hst : ∀ k, spec_parts.j1 (k + 1) s true (f : Int) (i : Int) false = (spec_onlyDigits.f k (s.extract f i)).bind fun t => if t = true then some false else spec_parts.l0 k s true ((i + 1 : Nat) : Int) ((i + 1 : Nat) : Int) := fun k => by
          rw [end_zero k s _ _ (by omega) hgt (by omega) (by omega) h4 (by omega) (by omega), hw, Int.toNat_natCast, Int.toNat_natCast]
        cases hod : cur.all isDig with
        | true =>
          rw [hod] at ho
          exact ⟨false, Ev.step hst (Ev.andThen (f := fun k t => if t = true then some false else spec_parts.l0 k s true ((i + 1 : Nat) : Int) ((i + 1 : Nat) : Int)) ho (Ev.pos rfl (Ev.now _))), fun h => by cases h⟩
        | false =>
          rw [hod] at ho
          exact ⟨b, Ev.step hst (Ev.andThen (f := fun k t => if t = true then some false else spec_parts.l0 k s true ((i + 1 : Nat) : Int) ((i + 1 : Nat) : Int)) ho (Ev.neg (by decide) hb)), build (fun _ h => by rw [hod] at h; cases h)⟩
      · have hne' : ¬ ((s.toList[f]).toNat : Int) = ((48 : Nat) : Int) := byte_ne (by decide) h48
        refine ⟨b, Ev.step (fun k => by rw [end_more k s _ _ (by omega) hgt (by omega) (by omega) (by rw [hbf]; exact hne'), hw]) hb, build (fun _ _ => .inr ?_)⟩
        rw [hhead]; intro e; exact h48 (Option.some.inj e)
theorem parts_ev (s : ByteArray) (hs : s.size ≤ 1000) (st : Bool) : ∃ b : Bool, Ev (fun k => spec_parts.f k s st) b ∧ (b = true → PartsAt s st 0) := by
  have hl := len_eq s
  have key : ∀ (d f i : Nat), s.size + 1 - i = d → f ≤ i → i ≤ s.size + 1 → ((s.toList.drop f).take (i - f)).all isPart = true → (i = s.size + 1 → f = s.size + 1) →
      ∃ b : Bool, Ev (fun k => spec_parts.l0 k s st (f : Int) (i : Int)) b ∧ (b = true → f = s.size + 1 ∨ PartsAt s st f) := by
    intro d
    induction d with
    | zero =>
      intro f i hd hfi hi hall hend
      have e : i = s.size + 1 := by omega
      exact ⟨true, Ev.step (f := fun _ => some true) (fun k => at_end k s _ _ st (by omega)) (Ev.now _), fun _ => .inl (hend e)⟩
    | succ d ih =>
      intro f i hd hfi hi hall hend
      have hile : i ≤ s.size := by omega
      have hw : wrap64 ((i : Int) + 1) = ((i + 1 : Nat) : Int) := wsucc i (by omega)
      have close : (∀ hlt : i < s.toList.length, s.toList[i] = 46) → ∃ b' : Bool, Ev (fun k => spec_parts.j1 k s st (f : Int) (i : Int) false) b' ∧ (b' = true → PartsAt s st f) := fun hpt => by
        obtain ⟨b, hb, hbt⟩ := ih (i + 1) (i + 1) (by omega) (Nat.le_refl _) (by omega) (by simp) (fun _ => by omega)
        refine close_ev s hs st f i hfi hile _ rfl hall hpt b hb (fun h => ?_)
        rcases hbt h with e | h
        · exact .inl (by omega)
        · exact .inr h
      by_cases hlt : i < s.toList.length
      · have hb := bt_nat s i hlt
        have hi1 : (i : Int) < (s.size : Int) := by omega
        have hi2 : (0 : Int) ≤ (i : Int) := by omega
        rcases part_cases (s.toList[i]) with hp | h46 | ⟨hp, h46⟩
        · have h46 : s.toList[i] ≠ 46 := fun e => by rw [e] at hp; exact absurd hp (by decide)
          have hne : ¬ ((s.toList[i]).toNat : Int) = ((46 : Nat) : Int) := byte_ne (by decide) h46
          have hnb : (bt s (i : Int) != 46) = true := by rw [hb]; simpa [bne] using hne
          have hall' : ((s.toList.drop f).take (i + 1 - f)).all isPart = true := by
            have e : (s.toList.drop f).take (i + 1 - f) = (s.toList.drop f).take (i - f) ++ [s.toList[i]] := by
              rw [show i + 1 - f = (i - f) + 1 by omega, List.take_succ_eq_append_getElem (by rw [List.length_drop]; omega), List.getElem_drop]
              simp only [show f + (i - f) = i by omega]
            rw [e, List.all_append, hall]; simp [hp]
          obtain ⟨b, hev, hbt⟩ := ih f (i + 1) (by omega) (by omega) (by omega) hall' (fun h => by omega)
          exact ⟨b, Ev.step (fun k => by rw [at_byte k s _ _ st hi2 hi1, hnb]) (Ev.step (f := fun k => spec_parts.j2 k s st (f : Int) (i : Int) false) (fun k => by rw [j1_byte k s st _ _ _ hi2 hi1 hb, hp]; exact rfl) (Ev.step (fun k => by rw [byte_on, hw]) hev)), hbt⟩
        · obtain ⟨b, hev, hbt⟩ := close (fun _ => h46)
          have hnb : (bt s (i : Int) != 46) = false := by rw [hb, h46]; rfl
          exact ⟨b, Ev.step (fun k => by rw [at_byte k s _ _ st hi2 hi1, hnb]) hev, fun h => .inr (hbt h)⟩
        · have hne : ¬ ((s.toList[i]).toNat : Int) = ((46 : Nat) : Int) := byte_ne (by decide) h46
          have hnb : (bt s (i : Int) != 46) = true := by rw [hb]; simpa [bne] using hne
          exact ⟨false, Ev.step (fun k => by rw [at_byte k s _ _ st hi2 hi1, hnb]) (Ev.step (f := fun k => spec_parts.j2 k s st (f : Int) (i : Int) true) (fun k => by rw [j1_byte k s st _ _ _ hi2 hi1 hb, hp]; exact rfl) (Ev.step (f := fun _ => some false) (fun k => byte_bad k s _ _ st) (Ev.now _))), fun h => by cases h⟩
      · obtain ⟨b, hev, hbt⟩ := close (fun h => absurd h hlt)
        exact ⟨b, Ev.step (fun k => at_size k s _ _ st (by omega)) hev, fun h => .inr (hbt h)⟩
  obtain ⟨b, hev, hbt⟩ := key _ 0 0 rfl (Nat.le_refl _) (by omega) (by simp) (fun h => by omega)
  refine ⟨b, by simpa [spec_parts.f] using hev, fun h => ?_⟩
  rcases hbt h with e | h
  · omega
  · exact h
end Go.Proofs.YtmoilbhkjmhoaaaDoor.Sv
