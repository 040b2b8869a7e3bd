/- Semantic versions, plain: where runs of digits, and of parts, end in a text; the printed scanning functions. -/
import Derived.Test.YtmoilbhkjmhoaaaDoorTxt
import Derived.Test.YtmoilbhkjmhoaaaDoorPFnSemverOrderThreex2
import Derived.Lib.ParseIntB
import Derived.Lib.ItoaNum
namespace Go.Proofs.YtmoilbhkjmhoaaaDoor.Sv
open Go.RowKit Go.Proofs.YtmoilbhkjmhoaaaDoor.PFnSemverOrderThree Go.Proofs.YtmoilbhkjmhoaaaDoorW.PrintWords Go.Proofs.YtmoilbhkjmhoaaaDoor.Txt Go.Proofs.YtmoilbhkjmhoaaaDoor
set_option linter.unusedVariables false
set_option linter.unusedSimpArgs false

def isDig (c : UInt8) : Bool := decide (48 ≤ c.toNat) && decide (c.toNat ≤ 57)
def isPart (c : UInt8) : Bool := isDig c || (decide (97 ≤ c.toNat) && decide (c.toNat ≤ 122)) || (decide (65 ≤ c.toNat) && decide (c.toNat ≤ 90)) || decide (c.toNat = 45)
/-- Where a run that begins at a place ends. -/
def scan (p : UInt8 → Bool) (l : List UInt8) (i : Nat) : Nat := i + ((l.drop i).takeWhile p).length
theorem scan_le (p : UInt8 → Bool) (l : List UInt8) (i : Nat) (h : i ≤ l.length) : i ≤ scan p l i ∧ scan p l i ≤ l.length := by
  unfold scan
  have := (List.takeWhile_sublist p (l := l.drop i)).length_le
  rw [List.length_drop] at this
  omega
theorem scan_step {p : UInt8 → Bool} {l : List UInt8} {i : Nat} (h : i < l.length) (hp : p l[i] = true) : scan p l i = scan p l (i + 1) := by
  unfold scan
  rw [List.drop_eq_getElem_cons h, List.takeWhile_cons, if_pos hp, List.length_cons]
  omega
theorem scan_stop {p : UInt8 → Bool} {l : List UInt8} {i : Nat} (h : ∀ h : i < l.length, p l[i] = false) : scan p l i = i := by
  unfold scan
  by_cases hi : i < l.length
  · rw [List.drop_eq_getElem_cons hi, List.takeWhile_cons, if_neg (by rw [h hi]; decide)]; rfl
  · rw [List.drop_eq_nil_of_le (by omega)]; rfl
theorem takeWhile_all {p : UInt8 → Bool} : ∀ {b c : List UInt8}, b.all p = true → (c = [] ∨ ∃ x r, c = x :: r ∧ p x = false) → (b ++ c).takeWhile p = b
  | [], c, _, h => by
    rcases h with rfl | ⟨x, r, rfl, h⟩
    · rfl
    · simp [h]
  | a :: b, c, hb, h => by
    simp only [List.all_cons, Bool.and_eq_true] at hb
    rw [List.cons_append, List.takeWhile_cons, if_pos hb.1, takeWhile_all hb.2 h]
/-- A run, then something else. -/
theorem scan_app {p : UInt8 → Bool} (a : List UInt8) {b c : List UInt8} (hb : b.all p = true) (h : c = [] ∨ ∃ x r, c = x :: r ∧ p x = false) : scan p (a ++ b ++ c) a.length = a.length + b.length := by
  unfold scan
  rw [List.append_assoc, List.drop_left, takeWhile_all hb h]
theorem bt_nat (s : ByteArray) (i : Nat) (h : i < s.toList.length) : bt s (i : Int) = ((s.toList[i]'h).toNat : Int) := by
  have := bt_get s (i : Int) (by simpa using h)
  simpa using this
theorem digits_ev (s : ByteArray) (hs : s.size ≤ 1000) : ∀ (d i : Nat), s.size - i = d → i ≤ s.size → Ev (fun k => semver_zzDigits.f k s (i : Int)) ((scan isDig s.toList i : Nat) : Int) := by
  have hl := len_eq s
  intro d
  induction d with
  | zero =>
    intro i hd hi
    rw [scan_stop (fun h => by omega)]
    refine Ev.step (f := fun _ => some (i : Int)) (fun k => ?_) (Ev.now _)
    unfold semver_zzDigits.f
    simp only [semver_zzDigits.l0]
    rw [if_neg (by omega)]
  | succ d ih =>
    intro i hd hi
    have hlt : i < s.toList.length := by omega
    have hb := bt_nat s i hlt
    cases hc : isDig (s.toList[i]) with
    | true =>
      rw [scan_step hlt hc]
      simp only [isDig, Bool.and_eq_true, decide_eq_true_eq] at hc
      refine Ev.step (fun k => ?_) (ih (i + 1) (by omega) (by omega))
      unfold semver_zzDigits.f
      simp only [semver_zzDigits.l0]
      rw [hb, if_pos (by omega), if_pos (by omega), if_pos (by omega), if_pos (by omega), w64 (by omega) (by omega)]
      rfl
    | false =>
      rw [scan_stop (fun _ => hc)]
      simp only [isDig, Bool.and_eq_false_iff, decide_eq_false_iff_not] at hc
      refine Ev.step (f := fun _ => some (i : Int)) (fun k => ?_) (Ev.now _)
      unfold semver_zzDigits.f
      simp only [semver_zzDigits.l0]
      rw [hb, if_pos (by omega), if_pos (by omega)]
      by_cases h48 : ((s.toList[i]).toNat : Int) ≥ 48
      · rw [if_pos h48, if_neg (by omega)]
      · rw [if_neg h48]
theorem part_ev (s : ByteArray) (hs : s.size ≤ 1000) : ∀ (d i : Nat), s.size - i = d → i ≤ s.size → Ev (fun k => semver_zzPart.f k s (i : Int)) ((scan isPart s.toList i : Nat) : Int) := by
  have hl := len_eq s
  intro d
  induction d with
  | zero =>
    intro i hd hi
    rw [scan_stop (fun h => by omega)]
    refine Ev.step (f := fun _ => some (i : Int)) (fun k => ?_) (Ev.now _)
    unfold semver_zzPart.f
    simp only [semver_zzPart.l0]
    rw [if_neg (by omega)]
  | succ d ih =>
    intro i hd hi
    have hlt : i < s.toList.length := by omega
    have hb := bt_nat s i hlt
    have hi1 : (i : Int) < (s.size : Int) := by omega
    have hi2 : (0 : Int) ≤ (i : Int) := by omega
    have hw : wrap64 ((i : Int) + 1) = ((i + 1 : Nat) : Int) := wsucc i (by omega)
    generalize hcc : s.toList[i] = c at hb
    cases hc : isPart c with
    | true =>
      rw [scan_step hlt (by rw [hcc]; exact hc)]
      refine Ev.step (fun k => ?_) (ih (i + 1) (by omega) (by omega))
      unfold semver_zzPart.f
      simp only [semver_zzPart.l0]
      rw [hb, if_pos hi1, if_pos hi2, hw]
      simp only [isPart, isDig, Bool.or_eq_true, Bool.and_eq_true, decide_eq_true_eq] at hc
      by_cases a1 : (c.toNat : Int) ≥ 48 <;> by_cases a2 : (c.toNat : Int) ≤ 57 <;> by_cases a3 : (c.toNat : Int) ≥ 97 <;> by_cases a4 : (c.toNat : Int) ≤ 122 <;> by_cases a5 : (c.toNat : Int) ≥ 65 <;> by_cases a6 : (c.toNat : Int) ≤ 90 <;> by_cases a7 : (c.toNat : Int) = 45 <;> first | (exfalso; omega) | simp only [a1, a2, a3, a4, a5, a6, eq_false a7, if_true, if_false] | simp only [a1, a2, a3, a4, a5, a6, eq_true a7, if_true, if_false]
    | false =>
      rw [scan_stop (fun _ => by rw [hcc]; exact hc)]
      refine Ev.step (f := fun _ => some (i : Int)) (fun k => ?_) (Ev.now _)
      unfold semver_zzPart.f
      simp only [semver_zzPart.l0]
      rw [hb, if_pos hi1, if_pos hi2]
      simp only [isPart, isDig, Bool.or_eq_false_iff, Bool.and_eq_false_iff, decide_eq_false_iff_not] at hc
      by_cases a1 : (c.toNat : Int) ≥ 48 <;> by_cases a2 : (c.toNat : Int) ≤ 57 <;> by_cases a3 : (c.toNat : Int) ≥ 97 <;> by_cases a4 : (c.toNat : Int) ≤ 122 <;> by_cases a5 : (c.toNat : Int) ≥ 65 <;> by_cases a6 : (c.toNat : Int) ≤ 90 <;> by_cases a7 : (c.toNat : Int) = 45 <;> first | (exfalso; omega) | simp only [a1, a2, a3, a4, a5, a6, eq_false a7, if_true, if_false] | simp only [a1, a2, a3, a4, a5, a6, eq_true a7, if_true, if_false]
/-- No sign there: nothing. -/
theorem parts_none (s : ByteArray) (hs : s.size ≤ 1000) (i c : Nat) (hi : i ≤ s.size) (h : ∀ h : i < s.toList.length, (s.toList[i]).toNat ≠ c) : Ev (fun k => semver_zzParts.f k s (i : Int) (c : Int)) (i : Int) := by
  have hl := len_eq s
  unfold semver_zzParts.f
  by_cases hlt : i < s.toList.length
  · have hb := bt_nat s i hlt
    have hn := h hlt
    have e : (bt s (i : Int) != (c : Int)) = true := by rw [hb]; simp; omega
    refine Ev.neg (by omega) (Ev.pos (by omega) (Ev.pos (by omega) ?_))
    rw [e]
    exact Ev.step (f := fun _ => some (i : Int)) (fun k => by simp only [semver_zzParts.j0, if_true]) (Ev.now _)
  · refine Ev.pos (by omega) ?_
    exact Ev.step (f := fun _ => some (i : Int)) (fun k => by simp only [semver_zzParts.j0, if_true]) (Ev.now _)

theorem byte_ne {x : UInt8} {n : Nat} (hn : n < 256) (h : x ≠ UInt8.ofNat n) : ¬ (x.toNat : Int) = (n : Int) := fun e => h (by
  have e' : x.toNat = n := by omega
  rw [← e']; exact UInt8.ofNat_toNat.symm)
/-! ### dotted parts -/
/-- Parts with points between. -/
def dots : List (List UInt8) → List UInt8
  | [] => []
  | [a] => a
  | a :: b :: r => a ++ 46 :: dots (b :: r)
def rest : List (List UInt8) → List UInt8
  | [] => []
  | y :: r => 46 :: dots (y :: r)
theorem dots_cons (p : List UInt8) (r : List (List UInt8)) : dots (p :: r) = p ++ rest r := by cases r <;> simp [dots, rest]
theorem rest_stop {r : List (List UInt8)} {c : List UInt8} (hd : isPart 46 = false) (hc : c = [] ∨ ∃ x q, c = x :: q ∧ isPart x = false ∧ x ≠ 46) : rest r ++ c = [] ∨ ∃ x q, rest r ++ c = x :: q ∧ isPart x = false := by
  cases r with
  | nil =>
    rcases hc with rfl | ⟨x, q, rfl, hx, _⟩
    · exact .inl rfl
    · exact .inr ⟨x, q, rfl, hx⟩
  | cons y r => exact .inr ⟨46, _, rfl, hd⟩
def PartsOk (ps : List (List UInt8)) : Prop := ps ≠ [] ∧ ∀ p ∈ ps, p ≠ [] ∧ p.all isPart = true
theorem dot_no : isPart 46 = false := by decide
/-- Behind the first part: the rest of them. -/
theorem more_ev (s : ByteArray) (hs : s.size ≤ 1000) : ∀ (ps : List (List UInt8)) (a c : List UInt8), PartsOk ps → s.toList = a ++ dots ps ++ c → (c = [] ∨ ∃ x r, c = x :: r ∧ isPart x = false ∧ x ≠ 46) →
    Ev (fun k => semver_zzParts.l0 k s ((a.length + (ps.headD []).length : Nat) : Int)) ((a.length + (dots ps).length : Nat) : Int)
  | [], a, c, h, _, _ => absurd rfl h.1
  | [p], a, c, h, hsl, hc => by
    have hl := len_eq s
    have hln : s.size = a.length + p.length + c.length := by rw [hl, hsl]; simp [dots]; omega
    simp only [List.headD_cons, dots]
    refine Ev.step (f := fun _ => some ((a.length + p.length : Nat) : Int)) (fun k => ?_) (Ev.now _)
    simp only [semver_zzParts.l0]
    rcases hc with rfl | ⟨x, r, rfl, _, h46⟩
    · rw [if_neg (by simp at hln; omega)]
    · have hlt : a.length + p.length < s.toList.length := by rw [← hl, hln]; simp
      have hx : s.toList[a.length + p.length] = x := by
        have : s.toList[a.length + p.length]? = some x := by
          rw [hsl]; simp only [dots]
          rw [List.getElem?_append_right (by simp)]
          simp
        rw [List.getElem?_eq_getElem hlt] at this
        exact Option.some.inj this
      have hb := bt_nat s _ hlt
      rw [hx] at hb
      have hne : ¬ (x.toNat : Int) = ((46 : Nat) : Int) := byte_ne (by decide) h46
      have hne' : ¬ (x.toNat : Int) = 46 := hne
      rw [if_pos (by omega), if_pos (by omega), hb, if_neg hne']
  | p :: q :: r, a, c, h, hsl, hc => by
    have hl := len_eq s
    have hq := h.2 q (by simp)
    have hql := List.length_pos_iff.2 hq.1
    have hsl' : s.toList = (a ++ p ++ [46]) ++ dots (q :: r) ++ c := by rw [hsl]; simp [dots]
    have ih := more_ev s hs (q :: r) (a ++ p ++ [46]) c ⟨by simp, fun x hx => h.2 x (by simp [hx])⟩ hsl' hc
    have hln : s.size = a.length + p.length + 1 + (dots (q :: r)).length + c.length := by rw [hl, hsl']; simp; omega
    have hdq : q.length ≤ (dots (q :: r)).length := by cases r with
      | nil => simp [dots]
      | cons y r => simp [dots]
    have hlt : a.length + p.length < s.toList.length := by rw [← hl, hln]; omega
    have hx : s.toList[a.length + p.length] = 46 := by
      have : s.toList[a.length + p.length]? = some 46 := by
        rw [hsl']
        rw [List.append_assoc, List.append_assoc, List.append_assoc, ← List.append_assoc a p, List.getElem?_append_right (by simp)]
        simp
      rw [List.getElem?_eq_getElem hlt] at this
      exact Option.some.inj this
    have hb := bt_nat s _ hlt
    rw [hx] at hb
    have hsc : scan isPart s.toList (a.length + p.length + 1) = a.length + p.length + 1 + q.length := by
      have e : s.toList = (a ++ p ++ [46]) ++ q ++ (rest r ++ c) := by
        rw [hsl', dots_cons]; simp
      have e2 : (a ++ p ++ [46]).length = a.length + p.length + 1 := by simp; omega
      rw [e]
      have := scan_app (p := isPart) (a ++ p ++ [46]) (b := q) (c := rest r ++ c) hq.2 (rest_stop dot_no hc)
      rw [e2] at this
      exact this
    have hpe := part_ev s hs _ (a.length + p.length + 1) rfl (by omega)
    rw [hsc] at hpe
    simp only [List.headD_cons]
    have hfin : a.length + (dots (p :: q :: r)).length = (a ++ p ++ [46]).length + (dots (q :: r)).length := by simp [dots]; omega
    rw [hfin]
    have hst : (a ++ p ++ [46]).length + ((q :: r).headD []).length = a.length + p.length + 1 + q.length := by simp; omega
    rw [hst] at ih
    refine Ev.step (fun k => by simp only [semver_zzParts.l0]; rw [if_pos (by omega), if_pos (by omega), hb, if_pos (by rfl), wsucc _ (by omega)]) ?_
    exact Ev.andThen hpe (Ev.pos (by omega) (Ev.andThen hpe ih))
/-- A sign, then parts. -/
theorem parts_dots (s : ByteArray) (hs : s.size ≤ 1000) (a c : List UInt8) (g : UInt8) (ps : List (List UInt8)) (h : PartsOk ps) (hsl : s.toList = a ++ g :: dots ps ++ c) (hc : c = [] ∨ ∃ x r, c = x :: r ∧ isPart x = false ∧ x ≠ 46) :
    Ev (fun k => semver_zzParts.f k s (a.length : Int) (g.toNat : Int)) ((a.length + 1 + (dots ps).length : Nat) : Int) := by
  have hl := len_eq s
  obtain ⟨p, r, rfl⟩ : ∃ p r, ps = p :: r := by
    cases ps with
    | nil => exact absurd rfl h.1
    | cons p r => exact ⟨p, r, rfl⟩
  have hp := h.2 p (by simp)
  have hpl := List.length_pos_iff.2 hp.1
  have hdq : p.length ≤ (dots (p :: r)).length := by cases r with
    | nil => simp [dots]
    | cons y r => simp [dots]
  have hsl' : s.toList = (a ++ [g]) ++ dots (p :: r) ++ c := by rw [hsl]; simp
  have hln : s.size = a.length + 1 + (dots (p :: r)).length + c.length := by rw [hl, hsl']; simp; omega
  have hlt : a.length < s.toList.length := by rw [← hl, hln]; omega
  have hx : s.toList[a.length] = g := by
    have : s.toList[a.length]? = some g := by rw [hsl]; simp
    rw [List.getElem?_eq_getElem hlt] at this
    exact Option.some.inj this
  have hb := bt_nat s _ hlt
  rw [hx] at hb
  have hsc : scan isPart s.toList (a.length + 1) = a.length + 1 + p.length := by
    have e : s.toList = (a ++ [g]) ++ p ++ (rest r ++ c) := by
      rw [hsl', dots_cons]; simp
    have e2 : (a ++ [g]).length = a.length + 1 := by simp
    rw [e]
    have := scan_app (p := isPart) (a ++ [g]) (b := p) (c := rest r ++ c) hp.2 (rest_stop dot_no hc)
    rw [e2] at this
    exact this
  have hpe := part_ev s hs _ (a.length + 1) rfl (by omega)
  rw [hsc] at hpe
  have hm := more_ev s hs (p :: r) (a ++ [g]) c h hsl' hc
  have e3 : (a ++ [g]).length = a.length + 1 := by simp
  rw [e3] at hm
  simp only [List.headD_cons] at hm
  unfold semver_zzParts.f
  have e : (bt s (a.length : Int) != (g.toNat : Int)) = false := by rw [hb]; simp
  refine Ev.neg (by omega) (Ev.pos (by omega) (Ev.pos (by omega) ?_))
  rw [e]
  refine Ev.step (fun k => by simp only [semver_zzParts.j0]; rw [if_neg (by decide), wsucc _ (by omega)]) ?_
  exact Ev.andThen hpe (Ev.neg (by omega) hm)
end Go.Proofs.YtmoilbhkjmhoaaaDoor.Sv
