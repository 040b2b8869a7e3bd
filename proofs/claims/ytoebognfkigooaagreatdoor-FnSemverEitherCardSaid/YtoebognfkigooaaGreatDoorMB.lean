/- Semantic versions, plain: where runs of digits, and of parts, end in a text; the printed scanning functions. -/
import Derived.Test.YtoebognfkigooaaGreatDoorTxt
import Derived.Test.YtoebognfkigooaaGreatDoorPFnSemverEitherx1
import Derived.Lib.ParseIntB
import Derived.Lib.ItoaNum
import Derived.WalkKit
import Derived.WalkLawsBesides
import Derived.WalkSpells
import Derived.Outline
import Derived.BigCall
import Derived.LoopN
import Derived.Lib.Hide
import Derived.OwnWalk
import Derived.IntWalk
import Derived.Test.YtoebognfkigooaaGreatDoorShelf
import Derived.Lib.ConvBytes
import Derived.Lib.LazyBuf
namespace Go.Proofs.YtoebognfkigooaaGreatDoor.Sv
open Go.RowKit Go.Proofs.YtoebognfkigooaaGreatDoor.PFnSemverEither Go.Proofs.YtoebognfkigooaaGreatDoorW.PrintWords Go.Proofs.YtoebognfkigooaaGreatDoor.Txt Go.Proofs.YtoebognfkigooaaGreatDoor
set_option linter.unusedVariables false
set_option linter.unusedSimpArgs false

def isDig (c : UInt8) : Bool := decide (48 ≤ c.toNat) && decide (c.toNat ≤ 57)
def isPart (c : UInt8) : Bool := isDig c || (decide (97 ≤ c.toNat) && decide (c.toNat ≤ 122)) || (decide (65 ≤ c.toNat) && decide (c.toNat ≤ 90)) || decide (c.toNat = 45)
/-- Where a run that begins at a place ends. -/
def scan (p : UInt8 → Bool) (l : List UInt8) (i : Nat) : Nat := i + ((l.drop i).takeWhile p).length
theorem scan_le (p : UInt8 → Bool) (l : List UInt8) (i : Nat) (h : i ≤ l.length) : i ≤ scan p l i ∧ scan p l i ≤ l.length := by
  unfold scan
  have := (List.takeWhile_sublist p (l := l.drop i)).length_le
  rw [List.length_drop] at this
  omega
theorem scan_step {p : UInt8 → Bool} {l : List UInt8} {i : Nat} (h : i < l.length) (hp : p l[i] = true) : scan p l i = scan p l (i + 1) := by
  unfold scan
  rw [List.drop_eq_getElem_cons h, List.takeWhile_cons, if_pos hp, List.length_cons]
  omega
theorem scan_stop {p : UInt8 → Bool} {l : List UInt8} {i : Nat} (h : ∀ h : i < l.length, p l[i] = false) : scan p l i = i := by
  unfold scan
  by_cases hi : i < l.length
  · rw [List.drop_eq_getElem_cons hi, List.takeWhile_cons, if_neg (by rw [h hi]; decide)]; rfl
  · rw [List.drop_eq_nil_of_le (by omega)]; rfl
theorem takeWhile_all {p : UInt8 → Bool} : ∀ {b c : List UInt8}, b.all p = true → (c = [] ∨ ∃ x r, c = x :: r ∧ p x = false) → (b ++ c).takeWhile p = b
  | [], c, _, h => by
    rcases h with rfl | ⟨x, r, rfl, h⟩
    · rfl
    · simp [h]
  | a :: b, c, hb, h => by
    simp only [List.all_cons, Bool.and_eq_true] at hb
    rw [List.cons_append, List.takeWhile_cons, if_pos hb.1, takeWhile_all hb.2 h]
/-- A run, then something else. -/
theorem scan_app {p : UInt8 → Bool} (a : List UInt8) {b c : List UInt8} (hb : b.all p = true) (h : c = [] ∨ ∃ x r, c = x :: r ∧ p x = false) : scan p (a ++ b ++ c) a.length = a.length + b.length := by
  unfold scan
  rw [List.append_assoc, List.drop_left, takeWhile_all hb h]
theorem bt_nat (s : ByteArray) (i : Nat) (h : i < s.toList.length) : bt s (i : Int) = ((s.toList[i]'h).toNat : Int) := by
  have := bt_get s (i : Int) (by simpa using h)
  simpa using this
theorem digits_ev (s : ByteArray) (hs : s.size ≤ 1000) : ∀ (d i : Nat), s.size - i = d → i ≤ s.size → Ev (fun k => semver_zzDigits.f k s (i : Int)) ((scan isDig s.toList i : Nat) : Int) := by
  have hl := len_eq s
  intro d
  induction d with
  | zero =>
    intro i hd hi
    rw [scan_stop (fun h => by omega)]
    refine Ev.step (f := fun _ => some (i : Int)) (fun k => ?_) (Ev.now _)
    unfold semver_zzDigits.f
    simp only [semver_zzDigits.l0]
    rw [if_neg (by omega)]
  | succ d ih =>
    intro i hd hi
    have hlt : i < s.toList.length := by omega
    have hb := bt_nat s i hlt
    cases hc : isDig (s.toList[i]) with
    | true =>
      rw [scan_step hlt hc]
      simp only [isDig, Bool.and_eq_true, decide_eq_true_eq] at hc
      refine Ev.step (fun k => ?_) (ih (i + 1) (by omega) (by omega))
      unfold semver_zzDigits.f
      simp only [semver_zzDigits.l0]
      rw [hb, if_pos (by omega), if_pos (by omega), if_pos (by omega), if_pos (by omega), w64 (by omega) (by omega)]
      rfl
    | false =>
      rw [scan_stop (fun _ => hc)]
      simp only [isDig, Bool.and_eq_false_iff, decide_eq_false_iff_not] at hc
      refine Ev.step (f := fun _ => some (i : Int)) (fun k => ?_) (Ev.now _)
      unfold semver_zzDigits.f
      simp only [semver_zzDigits.l0]
      rw [hb, if_pos (by omega), if_pos (by omega)]
      by_cases h48 : ((s.toList[i]).toNat : Int) ≥ 48
      · rw [if_pos h48, if_neg (by omega)]
      · rw [if_neg h48]
theorem part_ev (s : ByteArray) (hs : s.size ≤ 1000) : ∀ (d i : Nat), s.size - i = d → i ≤ s.size → Ev (fun k => semver_zzPart.f k s (i : Int)) ((scan isPart s.toList i : Nat) : Int) := by
  have hl := len_eq s
  intro d
  induction d with
  | zero =>
    intro i hd hi
    rw [scan_stop (fun h => by omega)]
    refine Ev.step (f := fun _ => some (i : Int)) (fun k => ?_) (Ev.now _)
    unfold semver_zzPart.f
    simp only [semver_zzPart.l0]
    rw [if_neg (by omega)]
  | succ d ih =>
    intro i hd hi
    have hlt : i < s.toList.length := by omega
    have hb := bt_nat s i hlt
    have hi1 : (i : Int) < (s.size : Int) := by omega
    have hi2 : (0 : Int) ≤ (i : Int) := by omega
    have hw : wrap64 ((i : Int) + 1) = ((i + 1 : Nat) : Int) := wsucc i (by omega)
    generalize hcc : s.toList[i] = c at hb
    cases hc : isPart c with
    | true =>
      rw [scan_step hlt (by rw [hcc]; exact hc)]
      refine Ev.step (fun k => ?_) (ih (i + 1) (by omega) (by omega))
      unfold semver_zzPart.f
      simp only [semver_zzPart.l0]
      rw [hb, if_pos hi1, if_pos hi2, hw]
      simp only [isPart, isDig, Bool.or_eq_true, Bool.and_eq_true, decide_eq_true_eq] at hc
      by_cases a1 : (c.toNat : Int) ≥ 48 <;> by_cases a2 : (c.toNat : Int) ≤ 57 <;> by_cases a3 : (c.toNat : Int) ≥ 97 <;> by_cases a4 : (c.toNat : Int) ≤ 122 <;> by_cases a5 : (c.toNat : Int) ≥ 65 <;> by_cases a6 : (c.toNat : Int) ≤ 90 <;> by_cases a7 : (c.toNat : Int) = 45 <;> first | (exfalso; omega) | simp only [a1, a2, a3, a4, a5, a6, eq_false a7, if_true, if_false] | simp only [a1, a2, a3, a4, a5, a6, eq_true a7, if_true, if_false]
    | false =>
      rw [scan_stop (fun _ => by rw [hcc]; exact hc)]
      refine Ev.step (f := fun _ => some (i : Int)) (fun k => ?_) (Ev.now _)
      unfold semver_zzPart.f
      simp only [semver_zzPart.l0]
      rw [hb, if_pos hi1, if_pos hi2]
      simp only [isPart, isDig, Bool.or_eq_false_iff, Bool.and_eq_false_iff, decide_eq_false_iff_not] at hc
      by_cases a1 : (c.toNat : Int) ≥ 48 <;> by_cases a2 : (c.toNat : Int) ≤ 57 <;> by_cases a3 : (c.toNat : Int) ≥ 97 <;> by_cases a4 : (c.toNat : Int) ≤ 122 <;> by_cases a5 : (c.toNat : Int) ≥ 65 <;> by_cases a6 : (c.toNat : Int) ≤ 90 <;> by_cases a7 : (c.toNat : Int) = 45 <;> first | (exfalso; omega) | simp only [a1, a2, a3, a4, a5, a6, eq_false a7, if_true, if_false] | simp only [a1, a2, a3, a4, a5, a6, eq_true a7, if_true, if_false]
/-- No sign there: nothing. -/
theorem parts_none (s : ByteArray) (hs : s.size ≤ 1000) (i c : Nat) (hi : i ≤ s.size) (h : ∀ h : i < s.toList.length, (s.toList[i]).toNat ≠ c) : Ev (fun k => semver_zzParts.f k s (i : Int) (c : Int)) (i : Int) := by
  have hl := len_eq s
  unfold semver_zzParts.f
  by_cases hlt : i < s.toList.length
  · have hb := bt_nat s i hlt
    have hn := h hlt
    have e : (bt s (i : Int) != (c : Int)) = true := by rw [hb]; simp; omega
    refine Ev.neg (by omega) (Ev.pos (by omega) (Ev.pos (by omega) ?_))
    rw [e]
    exact Ev.step (f := fun _ => some (i : Int)) (fun k => by simp only [semver_zzParts.j0, if_true]) (Ev.now _)
  · refine Ev.pos (by omega) ?_
    exact Ev.step (f := fun _ => some (i : Int)) (fun k => by simp only [semver_zzParts.j0, if_true]) (Ev.now _)

theorem byte_ne {x : UInt8} {n : Nat} (hn : n < 256) (h : x ≠ UInt8.ofNat n) : ¬ (x.toNat : Int) = (n : Int) := fun e => h (by
  have e' : x.toNat = n := by omega
  rw [← e']; exact UInt8.ofNat_toNat.symm)
/-! ### dotted parts -/
/-- Parts with points between. -/
def dots : List (List UInt8) → List UInt8
  | [] => []
  | [a] => a
  | a :: b :: r => a ++ 46 :: dots (b :: r)
def rest : List (List UInt8) → List UInt8
  | [] => []
  | y :: r => 46 :: dots (y :: r)
theorem dots_cons (p : List UInt8) (r : List (List UInt8)) : dots (p :: r) = p ++ rest r := by cases r <;> simp [dots, rest]
theorem rest_stop {r : List (List UInt8)} {c : List UInt8} (hd : isPart 46 = false) (hc : c = [] ∨ ∃ x q, c = x :: q ∧ isPart x = false ∧ x ≠ 46) : rest r ++ c = [] ∨ ∃ x q, rest r ++ c = x :: q ∧ isPart x = false := by
  cases r with
  | nil =>
    rcases hc with rfl | ⟨x, q, rfl, hx, _⟩
    · exact .inl rfl
    · exact .inr ⟨x, q, rfl, hx⟩
  | cons y r => exact .inr ⟨46, _, rfl, hd⟩
def PartsOk (ps : List (List UInt8)) : Prop := ps ≠ [] ∧ ∀ p ∈ ps, p ≠ [] ∧ p.all isPart = true
theorem dot_no : isPart 46 = false := by decide
/-- Behind the first part: the rest of them. -/
theorem more_ev (s : ByteArray) (hs : s.size ≤ 1000) : ∀ (ps : List (List UInt8)) (a c : List UInt8), PartsOk ps → s.toList = a ++ dots ps ++ c → (c = [] ∨ ∃ x r, c = x :: r ∧ isPart x = false ∧ x ≠ 46) →
    Ev (fun k => semver_zzParts.l0 k s ((a.length + (ps.headD []).length : Nat) : Int)) ((a.length + (dots ps).length : Nat) : Int)
  | [], a, c, h, _, _ => absurd rfl h.1
  | [p], a, c, h, hsl, hc => by
    have hl := len_eq s
    have hln : s.size = a.length + p.length + c.length := by rw [hl, hsl]; simp [dots]; omega
    simp only [List.headD_cons, dots]
    refine Ev.step (f := fun _ => some ((a.length + p.length : Nat) : Int)) (fun k => ?_) (Ev.now _)
    simp only [semver_zzParts.l0]
    rcases hc with rfl | ⟨x, r, rfl, _, h46⟩
    · rw [if_neg (by simp at hln; omega)]
    · have hlt : a.length + p.length < s.toList.length := by rw [← hl, hln]; simp
      have hx : s.toList[a.length + p.length] = x := by
        have : s.toList[a.length + p.length]? = some x := by
          rw [hsl]; simp only [dots]
          rw [List.getElem?_append_right (by simp)]
          simp
        rw [List.getElem?_eq_getElem hlt] at this
        exact Option.some.inj this
      have hb := bt_nat s _ hlt
      rw [hx] at hb
      have hne : ¬ (x.toNat : Int) = ((46 : Nat) : Int) := byte_ne (by decide) h46
      have hne' : ¬ (x.toNat : Int) = 46 := hne
      rw [if_pos (by omega), if_pos (by omega), hb, if_neg hne']
  | p :: q :: r, a, c, h, hsl, hc => by
    have hl := len_eq s
    have hq := h.2 q (by simp)
    have hql := List.length_pos_iff.2 hq.1
    have hsl' : s.toList = (a ++ p ++ [46]) ++ dots (q :: r) ++ c := by rw [hsl]; simp [dots]
    have ih := more_ev s hs (q :: r) (a ++ p ++ [46]) c ⟨by simp, fun x hx => h.2 x (by simp [hx])⟩ hsl' hc
    have hln : s.size = a.length + p.length + 1 + (dots (q :: r)).length + c.length := by rw [hl, hsl']; simp; omega
    have hdq : q.length ≤ (dots (q :: r)).length := by cases r with
      | nil => simp [dots]
      | cons y r => simp [dots]
    have hlt : a.length + p.length < s.toList.length := by rw [← hl, hln]; omega
    have hx : s.toList[a.length + p.length] = 46 := by
      have : s.toList[a.length + p.length]? = some 46 := by
        rw [hsl']
        rw [List.append_assoc, List.append_assoc, List.append_assoc, ← List.append_assoc a p, List.getElem?_append_right (by simp)]
        simp
      rw [List.getElem?_eq_getElem hlt] at this
      exact Option.some.inj this
    have hb := bt_nat s _ hlt
    rw [hx] at hb
    have hsc : scan isPart s.toList (a.length + p.length + 1) = a.length + p.length + 1 + q.length := by
      have e : s.toList = (a ++ p ++ [46]) ++ q ++ (rest r ++ c) := by
        rw [hsl', dots_cons]; simp
      have e2 : (a ++ p ++ [46]).length = a.length + p.length + 1 := by simp; omega
      rw [e]
      have := scan_app (p := isPart) (a ++ p ++ [46]) (b := q) (c := rest r ++ c) hq.2 (rest_stop dot_no hc)
      rw [e2] at this
      exact this
    have hpe := part_ev s hs _ (a.length + p.length + 1) rfl (by omega)
    rw [hsc] at hpe
    simp only [List.headD_cons]
    have hfin : a.length + (dots (p :: q :: r)).length = (a ++ p ++ [46]).length + (dots (q :: r)).length := by simp [dots]; omega
    rw [hfin]
    have hst : (a ++ p ++ [46]).length + ((q :: r).headD []).length = a.length + p.length + 1 + q.length := by simp; omega
    rw [hst] at ih
    refine Ev.step (fun k => by simp only [semver_zzParts.l0]; rw [if_pos (by omega), if_pos (by omega), hb, if_pos (by rfl), wsucc _ (by omega)]) ?_
    exact Ev.andThen hpe (Ev.pos (by omega) (Ev.andThen hpe ih))
/-- A sign, then parts. -/
theorem parts_dots (s : ByteArray) (hs : s.size ≤ 1000) (a c : List UInt8) (g : UInt8) (ps : List (List UInt8)) (h : PartsOk ps) (hsl : s.toList = a ++ g :: dots ps ++ c) (hc : c = [] ∨ ∃ x r, c = x :: r ∧ isPart x = false ∧ x ≠ 46) :
    Ev (fun k => semver_zzParts.f k s (a.length : Int) (g.toNat : Int)) ((a.length + 1 + (dots ps).length : Nat) : Int) := by
  have hl := len_eq s
  obtain ⟨p, r, rfl⟩ : ∃ p r, ps = p :: r := by
    cases ps with
    | nil => exact absurd rfl h.1
    | cons p r => exact ⟨p, r, rfl⟩
  have hp := h.2 p (by simp)
  have hpl := List.length_pos_iff.2 hp.1
  have hdq : p.length ≤ (dots (p :: r)).length := by cases r with
    | nil => simp [dots]
    | cons y r => simp [dots]
  have hsl' : s.toList = (a ++ [g]) ++ dots (p :: r) ++ c := by rw [hsl]; simp
  have hln : s.size = a.length + 1 + (dots (p :: r)).length + c.length := by rw [hl, hsl']; simp; omega
  have hlt : a.length < s.toList.length := by rw [← hl, hln]; omega
  have hx : s.toList[a.length] = g := by
    have : s.toList[a.length]? = some g := by rw [hsl]; simp
    rw [List.getElem?_eq_getElem hlt] at this
    exact Option.some.inj this
  have hb := bt_nat s _ hlt
  rw [hx] at hb
  have hsc : scan isPart s.toList (a.length + 1) = a.length + 1 + p.length := by
    have e : s.toList = (a ++ [g]) ++ p ++ (rest r ++ c) := by
      rw [hsl', dots_cons]; simp
    have e2 : (a ++ [g]).length = a.length + 1 := by simp
    rw [e]
    have := scan_app (p := isPart) (a ++ [g]) (b := p) (c := rest r ++ c) hp.2 (rest_stop dot_no hc)
    rw [e2] at this
    exact this
  have hpe := part_ev s hs _ (a.length + 1) rfl (by omega)
  rw [hsc] at hpe
  have hm := more_ev s hs (p :: r) (a ++ [g]) c h hsl' hc
  have e3 : (a ++ [g]).length = a.length + 1 := by simp
  rw [e3] at hm
  simp only [List.headD_cons] at hm
  unfold semver_zzParts.f
  have e : (bt s (a.length : Int) != (g.toNat : Int)) = false := by rw [hb]; simp
  refine Ev.neg (by omega) (Ev.pos (by omega) (Ev.pos (by omega) ?_))
  rw [e]
  refine Ev.step (fun k => by simp only [semver_zzParts.j0]; rw [if_neg (by decide), wsucc _ (by omega)]) ?_
  exact Ev.andThen hpe (Ev.neg (by omega) hm)
end Go.Proofs.YtoebognfkigooaaGreatDoor.Sv
namespace Go.Proofs.YtoebognfkigooaaGreatDoor.Sv
open Go.RowKit Go.Proofs.YtoebognfkigooaaGreatDoor.PFnSemverEither Go.Proofs.YtoebognfkigooaaGreatDoorW.PrintWords Go.Proofs.YtoebognfkigooaaGreatDoor.Txt Go.Proofs.YtoebognfkigooaaGreatDoor
set_option linter.unusedVariables false
set_option linter.unusedSimpArgs false
set_option maxRecDepth 20000

/-- A version's text: digits (the second and third may lack), parts behind a hyphen, parts behind a plus sign. -/
structure Tx where
  d1 : List UInt8
  d2 : List UInt8
  d3 : List UInt8
  ps : List (List UInt8)
  ms : List (List UInt8)
def sg (c : UInt8) (l : List UInt8) : List UInt8 := if l = [] then [] else c :: l
def Tx.pre (t : Tx) : List UInt8 := dots t.ps
def Tx.meta_ (t : Tx) : List UInt8 := dots t.ms
def Tx.text (t : Tx) : List UInt8 := t.d1 ++ (sg 46 t.d2 ++ (sg 46 t.d3 ++ (sg 45 t.pre ++ sg 43 t.meta_)))
structure Tx.Ok (t : Tx) : Prop where
  h1 : t.d1 ≠ []
  g1 : t.d1.all isDig = true
  g2 : t.d2.all isDig = true
  g3 : t.d3.all isDig = true
  h23 : t.d2 = [] → t.d3 = []
  hp : t.ps = [] ∨ PartsOk t.ps
  hm : t.ms = [] ∨ PartsOk t.ms
theorem dots_ne {ps : List (List UInt8)} (h : PartsOk ps) : dots ps ≠ [] := by
  obtain ⟨p, r, rfl⟩ : ∃ p r, ps = p :: r := by
    cases ps with
    | nil => exact absurd rfl h.1
    | cons p r => exact ⟨p, r, rfl⟩
  have := (h.2 p (by simp)).1
  rw [dots_cons]
  intro e
  exact this (List.append_eq_nil_iff.1 e).1
theorem sg_head {c : UInt8} {l b : List UInt8} {p : UInt8 → Bool} (hc : p c = false) (hb : b = [] ∨ ∃ x r, b = x :: r ∧ p x = false) : sg c l ++ b = [] ∨ ∃ x r, sg c l ++ b = x :: r ∧ p x = false := by
  unfold sg
  split
  · simpa using hb
  · exact .inr ⟨c, _, rfl, hc⟩
theorem sg_head1 {c : UInt8} {l : List UInt8} {p : UInt8 → Bool} (hc : p c = false) : sg c l = [] ∨ ∃ x r, sg c l = x :: r ∧ p x = false := by
  have := sg_head (l := l) (b := []) hc (.inl rfl)
  simpa using this
/-- The places where the parts end. -/
structure Cuts (v : ByteArray) (b2 b3 bp bm : Bool) (p1 p2 p3 p4 : Nat) : Prop where
  h1 : 0 < p1
  h12 : p1 ≤ p2
  h23 : p2 ≤ p3
  h34 : p3 ≤ p4
  h45 : p4 ≤ v.size
  c0 : ∀ h : 0 < v.size, (v[0]'h).toNat ≠ 118
  e1 : Ev (fun k => semver_zzDigits.f k v 0) (p1 : Int)
  two : b2 = true → ∃ h : p1 < v.size, (v[p1]'h).toNat = 46 ∧ p1 + 1 < p2 ∧ Ev (fun k => semver_zzDigits.f k v ((p1 + 1 : Nat) : Int)) (p2 : Int)
  notwo : b2 = false → p2 = p1 ∧ ∀ h : p1 < v.size, (v[p1]'h).toNat ≠ 46
  three : b3 = true → ∃ h : p2 < v.size, (v[p2]'h).toNat = 46 ∧ p2 + 1 < p3 ∧ Ev (fun k => semver_zzDigits.f k v ((p2 + 1 : Nat) : Int)) (p3 : Int)
  nothree : b3 = false → p3 = p2 ∧ ∀ h : p2 < v.size, (v[p2]'h).toNat ≠ 46
  e4 : Ev (fun k => semver_zzParts.f k v (p3 : Int) 45) (p4 : Int)
  pp : if bp then p3 < p4 else p4 = p3
  e5 : Ev (fun k => semver_zzParts.f k v (p4 : Int) 43) (v.size : Int)
  pm : if bm then p4 < v.size else p4 = v.size
theorem at_pos {v : ByteArray} {a r : List UInt8} {x : UInt8} (h : v.toList = a ++ x :: r) : ∃ hh : a.length < v.size, (v[a.length]'hh) = x := by
  have hl := len_eq v
  have hlt : a.length < v.toList.length := by rw [h]; simp
  refine ⟨by omega, ?_⟩
  have h1 : v.toList[a.length] = x := by
    have : v.toList[a.length]? = some x := by rw [h]; simp
    rw [List.getElem?_eq_getElem hlt] at this
    exact Option.some.inj this
  rw [← h1]
  have e : v.toList = v.data.toList := Lib.toList_data v
  simp only [e]
  rfl
/-- What stands at a place, if something does. -/
theorem at_head {v : ByteArray} {a b : List UInt8} (h : v.toList = a ++ b) {n : Nat} (hb : b = [] ∨ ∃ x r, b = x :: r ∧ x.toNat ≠ n) : ∀ hh : a.length < v.size, (v[a.length]'hh).toNat ≠ n := by
  intro hh
  rcases hb with rfl | ⟨x, r, rfl, hx⟩
  · have := len_eq v
    rw [h] at this
    simp at this
    omega
  · obtain ⟨h', e⟩ := at_pos h
    rw [e]
    exact hx
theorem head_ne {p : UInt8 → Bool} {b : List UInt8} {n : Nat} (hp : ∀ x : UInt8, p x = false → x.toNat ≠ n) (hb : b = [] ∨ ∃ x r, b = x :: r ∧ p x = false) : b = [] ∨ ∃ x r, b = x :: r ∧ x.toNat ≠ n := by
  rcases hb with h | ⟨x, r, h, hx⟩
  · exact .inl h
  · exact .inr ⟨x, r, h, hp x hx⟩
/-- The places of a version's text. -/
theorem cuts_of (t : Tx) (h : t.Ok) (v : ByteArray) (hv : v.toList = t.text) (hs : v.size ≤ 1000) : Cuts v (decide (t.d2 ≠ [])) (decide (t.d3 ≠ [])) (decide (t.ps ≠ [])) (decide (t.ms ≠ []))
    t.d1.length (t.d1.length + (sg 46 t.d2).length) (t.d1.length + (sg 46 t.d2).length + (sg 46 t.d3).length) (t.d1.length + (sg 46 t.d2).length + (sg 46 t.d3).length + (sg 45 t.pre).length) := by
  obtain ⟨h1, g1, g2, g3, h23, hp, hm⟩ := h
  have hl := len_eq v
  have hl1 := List.length_pos_iff.2 h1
  have hsz : v.size = t.d1.length + (sg 46 t.d2).length + (sg 46 t.d3).length + (sg 45 t.pre).length + (sg 43 t.meta_).length := by
    rw [hl, hv]; unfold Tx.text; simp only [List.length_append]; omega
  have e0 : v.toList = [] ++ t.d1 ++ (sg 46 t.d2 ++ (sg 46 t.d3 ++ (sg 45 t.pre ++ sg 43 t.meta_))) := by rw [hv]; rfl
  have e1 : v.toList = t.d1 ++ (sg 46 t.d2 ++ (sg 46 t.d3 ++ (sg 45 t.pre ++ sg 43 t.meta_))) := hv
  have e2 : v.toList = (t.d1 ++ sg 46 t.d2) ++ (sg 46 t.d3 ++ (sg 45 t.pre ++ sg 43 t.meta_)) := by rw [hv]; unfold Tx.text; simp
  have e3 : v.toList = (t.d1 ++ sg 46 t.d2 ++ sg 46 t.d3) ++ (sg 45 t.pre ++ sg 43 t.meta_) := by rw [hv]; unfold Tx.text; simp
  have e4 : v.toList = (t.d1 ++ sg 46 t.d2 ++ sg 46 t.d3 ++ sg 45 t.pre) ++ sg 43 t.meta_ := by rw [hv]; unfold Tx.text; simp
  have s4 : sg 43 t.meta_ = [] ∨ ∃ x r, sg 43 t.meta_ = x :: r ∧ isDig x = false := sg_head1 (by decide)
  have s3 : sg 45 t.pre ++ sg 43 t.meta_ = [] ∨ ∃ x r, sg 45 t.pre ++ sg 43 t.meta_ = x :: r ∧ isDig x = false := sg_head (by decide) s4
  have s2 := sg_head (c := 46) (l := t.d3) (p := isDig) (by decide) s3
  have s1 := sg_head (c := 46) (l := t.d2) (p := isDig) (by decide) s2
  have p4 : sg 43 t.meta_ = [] ∨ ∃ x r, sg 43 t.meta_ = x :: r ∧ (fun x => decide (x.toNat = 46)) x = false := sg_head1 (by decide)
  have p3 : sg 45 t.pre ++ sg 43 t.meta_ = [] ∨ ∃ x r, sg 45 t.pre ++ sg 43 t.meta_ = x :: r ∧ (fun x => decide (x.toNat = 46)) x = false := sg_head (by decide) p4
  have f46 : ∀ x : UInt8, (fun x : UInt8 => decide (x.toNat = 46)) x = false → x.toNat ≠ 46 := fun x h => by simpa using h
  have q4 : sg 43 t.meta_ = [] ∨ ∃ x r, sg 43 t.meta_ = x :: r ∧ (fun x => decide (x.toNat = 45)) x = false := sg_head1 (by decide)
  have f45 : ∀ x : UInt8, (fun x : UInt8 => decide (x.toNat = 45)) x = false → x.toNat ≠ 45 := fun x h => by simpa using h
  have cons_sg : ∀ (c : UInt8) {l : List UInt8}, l ≠ [] → sg c l = c :: l := fun c {l} h => by unfold sg; rw [if_neg h]
  have nil_sg : ∀ (c : UInt8) {l : List UInt8}, l = [] → sg c l = [] := fun c {l} h => by unfold sg; rw [if_pos h]
  refine ⟨hl1, by omega, by omega, by omega, by omega, ?_, ?_, ?_, ?_, ?_, ?_, ?_, ?_, ?_, ?_⟩
  · intro h0
    obtain ⟨x, r, hx⟩ : ∃ x r, t.d1 = x :: r := by
      cases hd : t.d1 with
      | nil => exact absurd hd h1
      | cons x r => exact ⟨x, r, rfl⟩
    have ex : v.toList = [] ++ x :: (r ++ (sg 46 t.d2 ++ (sg 46 t.d3 ++ (sg 45 t.pre ++ sg 43 t.meta_)))) := by rw [e1, hx]; rfl
    obtain ⟨hh, e⟩ := at_pos ex
    have hx2 : isDig x = true := by rw [hx] at g1; simp only [List.all_cons, Bool.and_eq_true] at g1; exact g1.1
    simp only [isDig, Bool.and_eq_true, decide_eq_true_eq] at hx2
    have e' : v[0] = x := e
    rw [e']
    omega
  · have := digits_ev v hs _ 0 rfl (Nat.zero_le _)
    rw [e0] at this
    have hsc := scan_app (p := isDig) [] (b := t.d1) g1 s1
    simp only [List.length_nil, Nat.zero_add] at hsc
    rw [hsc] at this
    exact this
  · intro hb
    have hd2 : t.d2 ≠ [] := by simpa using hb
    have hl2 := List.length_pos_iff.2 hd2
    rw [cons_sg 46 hd2] at e1 ⊢
    obtain ⟨hh, e⟩ := at_pos (v := v) (a := t.d1) (x := 46) (r := t.d2 ++ (sg 46 t.d3 ++ (sg 45 t.pre ++ sg 43 t.meta_))) (by rw [e1]; rfl)
    refine ⟨hh, by rw [e]; rfl, by simp; omega, ?_⟩
    have := digits_ev v hs _ (t.d1.length + 1) rfl (by omega)
    have ex : v.toList = (t.d1 ++ [46]) ++ t.d2 ++ (sg 46 t.d3 ++ (sg 45 t.pre ++ sg 43 t.meta_)) := by rw [e1]; simp
    rw [ex] at this
    have hsc := scan_app (p := isDig) (t.d1 ++ [46]) (b := t.d2) g2 s2
    rw [show (t.d1 ++ [46] : List UInt8).length = t.d1.length + 1 by simp] at hsc
    rw [hsc] at this
    rw [show t.d1.length + (46 :: t.d2).length = t.d1.length + 1 + t.d2.length by simp; omega]
    exact this
  · intro hb
    have hd2 : t.d2 = [] := by simpa using hb
    rw [nil_sg 46 hd2, nil_sg 46 (h23 hd2)] at e1
    refine ⟨by rw [nil_sg 46 hd2]; rfl, ?_⟩
    exact at_head (by rw [e1]; rfl) (head_ne f46 p3)
  · intro hb
    have hd3 : t.d3 ≠ [] := by simpa using hb
    have hl3 := List.length_pos_iff.2 hd3
    rw [cons_sg 46 hd3] at e2 ⊢
    obtain ⟨hh, e⟩ := at_pos (v := v) (a := t.d1 ++ sg 46 t.d2) (x := 46) (r := t.d3 ++ (sg 45 t.pre ++ sg 43 t.meta_)) (by rw [e2]; rfl)
    rw [List.length_append] at hh
    refine ⟨hh, ?_, by simp; omega, ?_⟩
    · simp only [List.length_append] at e
      rw [e]; rfl
    · have := digits_ev v hs _ (t.d1.length + (sg 46 t.d2).length + 1) rfl (by omega)
      have ex : v.toList = (t.d1 ++ sg 46 t.d2 ++ [46]) ++ t.d3 ++ (sg 45 t.pre ++ sg 43 t.meta_) := by rw [e2]; simp
      rw [ex] at this
      have hsc := scan_app (p := isDig) (t.d1 ++ sg 46 t.d2 ++ [46]) (b := t.d3) g3 s3
      rw [show (t.d1 ++ sg 46 t.d2 ++ [46] : List UInt8).length = t.d1.length + (sg 46 t.d2).length + 1 by simp; omega] at hsc
      rw [hsc] at this
      rw [show t.d1.length + (sg 46 t.d2).length + (46 :: t.d3).length = t.d1.length + (sg 46 t.d2).length + 1 + t.d3.length by simp; omega]
      exact this
  · intro hb
    have hd3 : t.d3 = [] := by simpa using hb
    rw [nil_sg 46 hd3] at e2
    refine ⟨by rw [nil_sg 46 hd3]; rfl, ?_⟩
    have := at_head (a := t.d1 ++ sg 46 t.d2) (by rw [e2]; rfl) (head_ne f46 p3)
    simp only [List.length_append] at this
    exact this
  · have hlen : (t.d1 ++ sg 46 t.d2 ++ sg 46 t.d3).length = t.d1.length + (sg 46 t.d2).length + (sg 46 t.d3).length := by simp only [List.length_append]
    by_cases hps : t.ps = []
    · have hpre : t.pre = [] := by unfold Tx.pre; rw [hps]; rfl
      rw [nil_sg 45 hpre] at e3 ⊢
      have := parts_none v hs (t.d1.length + (sg 46 t.d2).length + (sg 46 t.d3).length) 45 (by omega) (fun hh => by
        have h2 := at_head (a := t.d1 ++ sg 46 t.d2 ++ sg 46 t.d3) (by rw [e3]; rfl) (head_ne f45 q4)
        rw [hlen] at h2
        have h3 := h2 (by omega)
        have e : v.toList = v.data.toList := Lib.toList_data v
        simp only [e]
        exact h3)
      exact this
    · have hpo := hp.resolve_left hps
      have hpre : t.pre ≠ [] := dots_ne hpo
      rw [cons_sg 45 hpre] at e3 ⊢
      have := parts_dots v hs (t.d1 ++ sg 46 t.d2 ++ sg 46 t.d3) (sg 43 t.meta_) 45 t.ps hpo (by rw [e3]; unfold Tx.pre; simp) (by
        unfold sg; split
        · exact .inl rfl
        · exact .inr ⟨43, _, rfl, by decide, by decide⟩)
      rw [hlen] at this
      rw [show t.d1.length + (sg 46 t.d2).length + (sg 46 t.d3).length + (45 :: t.pre).length = t.d1.length + (sg 46 t.d2).length + (sg 46 t.d3).length + 1 + t.pre.length by simp; omega]
      exact this
  · by_cases hps : t.ps = []
    · have hpre : t.pre = [] := by unfold Tx.pre; rw [hps]; rfl
      rw [nil_sg 45 hpre, if_neg (by simp [hps])]; rfl
    · have hpre : t.pre ≠ [] := dots_ne (hp.resolve_left hps)
      rw [cons_sg 45 hpre, if_pos (by simp [hps])]; simp
  · have hlen : (t.d1 ++ sg 46 t.d2 ++ sg 46 t.d3 ++ sg 45 t.pre).length = t.d1.length + (sg 46 t.d2).length + (sg 46 t.d3).length + (sg 45 t.pre).length := by simp only [List.length_append]
    by_cases hms : t.ms = []
    · have hmt : t.meta_ = [] := by unfold Tx.meta_; rw [hms]; rfl
      rw [nil_sg 43 hmt] at hsz
      simp only [List.length_nil, Nat.add_zero] at hsz
      rw [← hsz]
      exact parts_none v hs v.size 43 (Nat.le_refl _) (fun hh => absurd hh (by omega))
    · have hpo := hm.resolve_left hms
      have hmt : t.meta_ ≠ [] := dots_ne hpo
      rw [cons_sg 43 hmt] at e4 hsz
      have := parts_dots v hs (t.d1 ++ sg 46 t.d2 ++ sg 46 t.d3 ++ sg 45 t.pre) [] 43 t.ms hpo (by rw [e4]; unfold Tx.meta_; simp) (.inl rfl)
      rw [hlen] at this
      rw [show v.size = t.d1.length + (sg 46 t.d2).length + (sg 46 t.d3).length + (sg 45 t.pre).length + 1 + (dots t.ms).length by rw [hsz]; unfold Tx.meta_; simp; omega]
      exact this
  · by_cases hms : t.ms = []
    · have hmt : t.meta_ = [] := by unfold Tx.meta_; rw [hms]; rfl
      rw [nil_sg 43 hmt] at hsz
      rw [if_neg (by simp [hms])]
      simpa using hsz.symm
    · have hmt : t.meta_ ≠ [] := dots_ne (hm.resolve_left hms)
      rw [cons_sg 43 hmt] at hsz
      rw [if_pos (by simp [hms])]
      simp at hsz
      omega
end Go.Proofs.YtoebognfkigooaaGreatDoor.Sv
namespace Go.Proofs.YtoebognfkigooaaGreatDoor.Sv
open Go.RowKit Go.Proofs.YtoebognfkigooaaGreatDoor.PFnSemverEither Go.Proofs.YtoebognfkigooaaGreatDoorW.PrintWords Go.Proofs.YtoebognfkigooaaGreatDoor.Txt Go.Proofs.YtoebognfkigooaaGreatDoor
set_option linter.unusedVariables false
set_option linter.unusedSimpArgs false
set_option maxRecDepth 20000

theorem ext_self {v : ByteArray} (p : Nat) : v.extract p p = ⟨#[]⟩ := by apply ext_eq; rw [tl_extract, Nat.sub_self, List.take_zero, tl_nil]
theorem ext_gt {v : ByteArray} (p : Nat) : v.extract (p + 1) p = ⟨#[]⟩ := by apply ext_eq; rw [tl_extract, show p - (p + 1) = 0 by omega, List.take_zero, tl_nil]
abbrev E0 : Value := .string ⟨#[]⟩
/-- A block of nine texts. -/
def Nine (w : World) (b : Nat) (c0 c1 c2 c3 c4 c5 c6 c7 c8 : Value) : Prop := w.heap[b]? = some (.cells #[c0, c1, c2, c3, c4, c5, c6, c7, c8] 9 (0, 0))
theorem Nine.below {w w' : World} {b : Nat} {c0 c1 c2 c3 c4 c5 c6 c7 c8 : Value} (h : Nine w b c0 c1 c2 c3 c4 c5 c6 c7 c8) (hb : Below w.heap.size w w') : Nine w' b c0 c1 c2 c3 c4 c5 c6 c7 c8 := (hb.block _ (blk_lt h)).trans h
theorem Nine.cell {w : World} {b : Nat} {c0 c1 c2 c3 c4 c5 c6 c7 c8 : Value} (h : Nine w b c0 c1 c2 c3 c4 c5 c6 c7 c8) (j : Nat) : w.cell? ⟨b, j, none⟩ = #[c0, c1, c2, c3, c4, c5, c6, c7, c8][j]? ∧ w.frozen? ⟨b, j, none⟩ = false := by
  unfold Nine at h
  exact ⟨by rw [blk_cell h], by simp [World.frozen?, h]⟩
theorem digits_calls {v : ByteArray} {i : Int} {r : Int} (h : Ev (fun k => semver_zzDigits.f k v i) r) (w : World) : Calls Tryz.prog 64 #[.string v, .int .i64 i] w fun e w' => e = .returned (.int .i64 r) ∧ Drawn0 w w' := by
  obtain ⟨k, hk⟩ := Ev.rounds h
  exact semver_zzDigits.calls k v i r w hk
theorem parts_calls {v : ByteArray} {i c : Int} {r : Int} (h : Ev (fun k => semver_zzParts.f k v i c) r) (w : World) : Calls Tryz.prog 44 #[.string v, .int .i64 i, .int .u8 c] w fun e w' => e = .returned (.int .i64 r) ∧ Drawn0 w w' := by
  obtain ⟨k, hk⟩ := Ev.rounds h
  exact semver_zzParts.calls k v i c r w hk
/-- What zzLoose makes. -/
def LooseRes (v : ByteArray) (p1 p2 p3 p4 : Nat) (w : World) (e : Ending) (w' : World) : Prop := ∃ b, e = .returned (.slice (some ⟨b, 0, none⟩) 9 9) ∧ w.heap.size ≤ b ∧
  Hid (Nine w' b (.string v) (.string (v.extract 0 p1)) (.string (v.extract p1 p2)) (.string (v.extract p2 p3)) (.string (v.extract p3 p4)) (.string (v.extract (p3 + 1) p4)) E0 (.string (v.extract p4 v.size)) (.string (v.extract (p4 + 1) v.size))) ∧ Hid (Below w.heap.size w w')
set_option maxHeartbeats 4000000 in
theorem zzLoose_1 (v : ByteArray) (hv : v.size ≤ 256) (bp bm : Bool) (p1 p2 p3 p4 : Nat) (C : Cuts v false false bp bm p1 p2 p3 p4) (w : World) :
    Calls Tryz.prog 55 #[.string v] w (LooseRes v p1 p2 p3 p4 w) := by
  have HPP : Hid (if bp = true then p3 < p4 else p4 = p3) := Lib.hid C.pp
  have HPM : Hid (if bm = true then p4 < v.size else p4 = v.size) := Lib.hid C.pm
  have h1 := C.h1
  have hv0 : 0 < v.size := by have := C.h12; have := C.h23; have := C.h34; have := C.h45; omega
  have h12 := C.h12
  have h23 := C.h23
  have h34 := C.h34
  have h45 := C.h45
  have c0 : (((v[0]'hv0).toNat : Int) == 118) = false := by have := C.c0 hv0; simp; omega
  have HD1 := Lib.hid (fun W => digits_calls C.e1 W)
  have HP4 := Lib.hid (fun W => parts_calls C.e4 W)
  have HP5 := Lib.hid (fun W => parts_calls C.e5 W)
  obtain ⟨e2, x2⟩ := C.notwo rfl
  obtain ⟨e3, _⟩ := C.nothree rfl
  have e2' := e2.symm
  subst e2'
  have e3' := e3.symm
  subst e3'
  have X2 := Lib.hid x2
  clear x2
  have hmk : ∀ W, (Instr.makeSlice 22 (.int .i64 9) (.int .i64 9)).run Tryz.prog W = .ok (.slice (some ⟨W.heap.size, 0, none⟩) 9 9) (W.alloc (.cells #[E0, E0, E0, E0, E0, E0, E0, E0, E0] 9)) := fun W => by kernel_rfl
  have hp1 : ((p1 : Int) == 0) = false := by simp; omega
  have n0 : Nine (w.alloc (.cells #[.string v, E0, E0, E0, E0, E0, E0, E0, E0] 9)) w.heap.size (.string v) E0 E0 E0 E0 E0 E0 E0 E0 := heap_alloc_new w _
  have HN0 := Lib.hid n0
  have HB0 := Lib.hid ((Below.refl w.heap.size w).alloc (Nat.le_refl _) (.cells #[.string v, E0, E0, E0, E0, E0, E0, E0, E0] 9))
  clear C n0
  go_enter Tryz.func55, Tryz.ntmps55
  go_wp2_with fail
  refine (HD1.out _).mono ?_
  rintro e w1 ⟨rfl, hd_⟩
  have hn_ := HN0.out.below hd_.below
  have HB1 := Lib.hid (HB0.out.trans (hd_.below.mono HB0.out.size))
  have HN1 := Lib.hid hn_
  obtain ⟨kk_, f1⟩ := hn_.cell 1
  have k1 : w1.cell? ⟨w.heap.size, 1, none⟩ = some E0 := kk_
  clear kk_
  clear hn_ hd_
  go_wp2_with fail
  obtain ⟨w2, hw_⟩ : ∃ w2, w2 = w1.setCell ⟨w.heap.size, 1, none⟩ (.string (v.extract 0 p1)) := ⟨_, rfl⟩
  have hn_ : Nine w2 w.heap.size (.string v) (.string (v.extract 0 p1)) E0 E0 E0 E0 E0 E0 E0 := by rw [hw_]; exact blk_set HN1.out 1 _
  have HB2 : Hid (Below w.heap.size w w2) := Lib.hid (by rw [hw_]; exact HB1.out.setCell (p := ⟨w.heap.size, 1, none⟩) (Nat.le_refl _) _)
  have HN2 := Lib.hid hn_
  rw [← hw_]
  clear hn_ hw_
  clear k1 f1
  refine wp_loop_rounds 1 ?_
  rcases Nat.lt_or_ge p1 v.size with hlt | hge
  · have x2 : (((v[p1]'hlt).toNat : Int) == 46) = false := by have := X2.out hlt; simp; omega
    have hlt' : (p1 : Int) < (v.size : Int) := by omega
    rw [rounds_succ]
    go_wp2_with fail
    refine (HP4.out _).mono ?_
    rintro e w3 ⟨rfl, hd_⟩
    have hn_ := HN2.out.below hd_.below
    have HB3 := Lib.hid (HB2.out.trans (hd_.below.mono HB2.out.size))
    have HN3 := Lib.hid hn_
    obtain ⟨kk_, f4⟩ := hn_.cell 4
    have k4 : w3.cell? ⟨w.heap.size, 4, none⟩ = some E0 := kk_
    clear kk_
    obtain ⟨kk_, f5⟩ := hn_.cell 5
    have k5 : w3.cell? ⟨w.heap.size, 5, none⟩ = some E0 := kk_
    clear kk_
    clear hn_ hd_
    cases bp with
    | false =>
      have e4 : p4 = p1 := HPP.out
      have e4' := e4.symm
      subst e4'
      have g4 : decide ((p1 : Int) < (p1 : Int)) = false := by simp
      clear k4 f4 k5 f5
      go_wp2_with fail
      refine (HP5.out _).mono ?_
      rintro e w6 ⟨rfl, hd_⟩
      have hn_ := HN3.out.below hd_.below
      have HB6 := Lib.hid (HB3.out.trans (hd_.below.mono HB3.out.size))
      have HN6 := Lib.hid hn_
      obtain ⟨kk_, f7⟩ := hn_.cell 7
      have k7 : w6.cell? ⟨w.heap.size, 7, none⟩ = some E0 := kk_
      clear kk_
      obtain ⟨kk_, f8⟩ := hn_.cell 8
      have k8 : w6.cell? ⟨w.heap.size, 8, none⟩ = some E0 := kk_
      clear kk_
      clear hn_ hd_
      have gv : ((v.size : Int) == (v.size : Int)) = true := by simp
      have gv' : ((v.size : Int) != (v.size : Int)) = false := by simp
      cases bm with
      | false =>
        have e5 : p1 = v.size := HPM.out
        exact absurd e5 (by omega)
      | true =>
        have e5 : p1 < v.size := HPM.out
        have g5 : decide ((p1 : Int) < (v.size : Int)) = true := by simp; omega
        have g5' : decide (p1 < v.size) = true := by simp; omega
        have hw_ : IntKind.i64.wrap ((p1 : Int) + 1) = (p1 : Int) + 1 := IntWalk.i64_in _ (by omega)
        have ht_ : ((p1 : Int) + 1).toNat = p1 + 1 := by omega
        have hb1_ : (0 : Int) ≤ (p1 : Int) + 1 := by omega
        have hb2_ : (p1 : Int) + 1 ≤ (v.size : Int) := by omega
        have hb3_ : (p1 : Int) ≤ (v.size : Int) := by omega
        go_upto_region 21 with fail
        go_region
        clear hw_ ht_ hb1_ hb2_ hb3_
        obtain ⟨w7, hw_⟩ : ∃ w7, w7 = ((w6.setCell ⟨w.heap.size, 7, none⟩ (.string (v.extract p1 v.size))).setCell ⟨w.heap.size, 8, none⟩ (.string (v.extract (p1 + 1) v.size))).drew := ⟨_, rfl⟩
        have hn_ : Nine w7 w.heap.size (.string v) (.string (v.extract 0 p1)) E0 E0 E0 E0 E0 (.string (v.extract p1 v.size)) (.string (v.extract (p1 + 1) v.size)) := by rw [hw_]; exact blk_set (blk_set HN6.out 7 _) 8 _
        have HB7 : Hid (Below w.heap.size w w7) := Lib.hid (by rw [hw_]; exact Below.trans ((HB6.out.setCell (p := ⟨w.heap.size, 7, none⟩) (Nat.le_refl _) _).setCell (p := ⟨w.heap.size, 8, none⟩) (Nat.le_refl _) _) ⟨rfl, rfl, rfl, Nat.le_refl _, fun _ _ => rfl⟩)
        have HN7 := Lib.hid hn_
        rw [← hw_]
        clear hn_ hw_
        go_wp2_with fail
        go_ret
        refine ⟨w.heap.size, rfl, Nat.le_refl _, Lib.hid ?_, HB7⟩
        try simp only [ext_self, ext_gt]
        exact HN7.out
    | true =>
      have e4 : p1 < p4 := HPP.out
      have g4 : decide ((p1 : Int) < (p4 : Int)) = true := by simp; omega
      have g4' : decide (p1 < p4) = true := by simp; omega
      have hw_ : IntKind.i64.wrap ((p1 : Int) + 1) = (p1 : Int) + 1 := IntWalk.i64_in _ (by omega)
      have ht_ : ((p1 : Int) + 1).toNat = p1 + 1 := by omega
      have hb1_ : (0 : Int) ≤ (p1 : Int) + 1 := by omega
      have hb2_ : (p1 : Int) + 1 ≤ (p4 : Int) := by omega
      have hb3_ : (p1 : Int) ≤ (p4 : Int) := by omega
      have hb4_ : (p4 : Int) ≤ (v.size : Int) := by omega
      go_upto_region 18 with fail
      go_region
      clear hw_ ht_ hb1_ hb2_ hb3_ hb4_
      obtain ⟨w5, hw_⟩ : ∃ w5, w5 = ((w3.setCell ⟨w.heap.size, 4, none⟩ (.string (v.extract p1 p4))).setCell ⟨w.heap.size, 5, none⟩ (.string (v.extract (p1 + 1) p4))).drew := ⟨_, rfl⟩
      have hn_ : Nine w5 w.heap.size (.string v) (.string (v.extract 0 p1)) E0 E0 (.string (v.extract p1 p4)) (.string (v.extract (p1 + 1) p4)) E0 E0 E0 := by rw [hw_]; exact blk_set (blk_set HN3.out 4 _) 5 _
      have HB5 : Hid (Below w.heap.size w w5) := Lib.hid (by rw [hw_]; exact Below.trans ((HB3.out.setCell (p := ⟨w.heap.size, 4, none⟩) (Nat.le_refl _) _).setCell (p := ⟨w.heap.size, 5, none⟩) (Nat.le_refl _) _) ⟨rfl, rfl, rfl, Nat.le_refl _, fun _ _ => rfl⟩)
      have HN5 := Lib.hid hn_
      rw [← hw_]
      clear hn_ hw_
      go_wp2_with fail
      refine (HP5.out _).mono ?_
      rintro e w6 ⟨rfl, hd_⟩
      have hn_ := HN5.out.below hd_.below
      have HB6 := Lib.hid (HB5.out.trans (hd_.below.mono HB5.out.size))
      have HN6 := Lib.hid hn_
      obtain ⟨kk_, f7⟩ := hn_.cell 7
      have k7 : w6.cell? ⟨w.heap.size, 7, none⟩ = some E0 := kk_
      clear kk_
      obtain ⟨kk_, f8⟩ := hn_.cell 8
      have k8 : w6.cell? ⟨w.heap.size, 8, none⟩ = some E0 := kk_
      clear kk_
      clear hn_ hd_
      have gv : ((v.size : Int) == (v.size : Int)) = true := by simp
      have gv' : ((v.size : Int) != (v.size : Int)) = false := by simp
      cases bm with
      | false =>
        have e5 : p4 = v.size := HPM.out
        have g5 : decide ((p4 : Int) < (v.size : Int)) = false := by rw [e5]; simp
        have g5' : decide (p4 < v.size) = false := by rw [e5]; simp
        have g6 : ((p4 : Int) != (v.size : Int)) = false := by rw [e5]; simp
        have g7 : ((p4 : Int) == (v.size : Int)) = true := by rw [e5]; simp
        have E5 := Lib.hid e5
        clear e5 k7 f7 k8 f8
        go_wp2_with fail
        go_ret
        refine ⟨w.heap.size, rfl, Nat.le_refl _, Lib.hid ?_, HB6⟩
        have q1 : v.extract p4 v.size = ⟨#[]⟩ := by rw [← E5.out]; exact ext_self _
        have q2 : v.extract (p4 + 1) v.size = ⟨#[]⟩ := by rw [← E5.out]; exact ext_gt _
        simp only [ext_self, ext_gt, q1, q2]
        exact HN6.out
      | true =>
        have e5 : p4 < v.size := HPM.out
        have g5 : decide ((p4 : Int) < (v.size : Int)) = true := by simp; omega
        have g5' : decide (p4 < v.size) = true := by simp; omega
        have hw_ : IntKind.i64.wrap ((p4 : Int) + 1) = (p4 : Int) + 1 := IntWalk.i64_in _ (by omega)
        have ht_ : ((p4 : Int) + 1).toNat = p4 + 1 := by omega
        have hb1_ : (0 : Int) ≤ (p4 : Int) + 1 := by omega
        have hb2_ : (p4 : Int) + 1 ≤ (v.size : Int) := by omega
        have hb3_ : (p4 : Int) ≤ (v.size : Int) := by omega
        go_upto_region 21 with fail
        go_region
        clear hw_ ht_ hb1_ hb2_ hb3_
        obtain ⟨w7, hw_⟩ : ∃ w7, w7 = ((w6.setCell ⟨w.heap.size, 7, none⟩ (.string (v.extract p4 v.size))).setCell ⟨w.heap.size, 8, none⟩ (.string (v.extract (p4 + 1) v.size))).drew := ⟨_, rfl⟩
        have hn_ : Nine w7 w.heap.size (.string v) (.string (v.extract 0 p1)) E0 E0 (.string (v.extract p1 p4)) (.string (v.extract (p1 + 1) p4)) E0 (.string (v.extract p4 v.size)) (.string (v.extract (p4 + 1) v.size)) := by rw [hw_]; exact blk_set (blk_set HN6.out 7 _) 8 _
        have HB7 : Hid (Below w.heap.size w w7) := Lib.hid (by rw [hw_]; exact Below.trans ((HB6.out.setCell (p := ⟨w.heap.size, 7, none⟩) (Nat.le_refl _) _).setCell (p := ⟨w.heap.size, 8, none⟩) (Nat.le_refl _) _) ⟨rfl, rfl, rfl, Nat.le_refl _, fun _ _ => rfl⟩)
        have HN7 := Lib.hid hn_
        rw [← hw_]
        clear hn_ hw_
        go_wp2_with fail
        go_ret
        refine ⟨w.heap.size, rfl, Nat.le_refl _, Lib.hid ?_, HB7⟩
        try simp only [ext_self, ext_gt]
        exact HN7.out
  · have hge' : ¬ (p1 : Int) < (v.size : Int) := by omega
    rw [rounds_succ]
    go_wp2_with fail
    refine (HP4.out _).mono ?_
    rintro e w3 ⟨rfl, hd_⟩
    have hn_ := HN2.out.below hd_.below
    have HB3 := Lib.hid (HB2.out.trans (hd_.below.mono HB2.out.size))
    have HN3 := Lib.hid hn_
    obtain ⟨kk_, f4⟩ := hn_.cell 4
    have k4 : w3.cell? ⟨w.heap.size, 4, none⟩ = some E0 := kk_
    clear kk_
    obtain ⟨kk_, f5⟩ := hn_.cell 5
    have k5 : w3.cell? ⟨w.heap.size, 5, none⟩ = some E0 := kk_
    clear kk_
    clear hn_ hd_
    cases bp with
    | false =>
      have e4 : p4 = p1 := HPP.out
      have e4' := e4.symm
      subst e4'
      have g4 : decide ((p1 : Int) < (p1 : Int)) = false := by simp
      clear k4 f4 k5 f5
      go_wp2_with fail
      refine (HP5.out _).mono ?_
      rintro e w6 ⟨rfl, hd_⟩
      have hn_ := HN3.out.below hd_.below
      have HB6 := Lib.hid (HB3.out.trans (hd_.below.mono HB3.out.size))
      have HN6 := Lib.hid hn_
      obtain ⟨kk_, f7⟩ := hn_.cell 7
      have k7 : w6.cell? ⟨w.heap.size, 7, none⟩ = some E0 := kk_
      clear kk_
      obtain ⟨kk_, f8⟩ := hn_.cell 8
      have k8 : w6.cell? ⟨w.heap.size, 8, none⟩ = some E0 := kk_
      clear kk_
      clear hn_ hd_
      have gv : ((v.size : Int) == (v.size : Int)) = true := by simp
      have gv' : ((v.size : Int) != (v.size : Int)) = false := by simp
      cases bm with
      | false =>
        have e5 : p1 = v.size := HPM.out
        have g5 : decide ((p1 : Int) < (v.size : Int)) = false := by rw [e5]; simp
        have g5' : decide (p1 < v.size) = false := by rw [e5]; simp
        have g6 : ((p1 : Int) != (v.size : Int)) = false := by rw [e5]; simp
        have g7 : ((p1 : Int) == (v.size : Int)) = true := by rw [e5]; simp
        have E5 := Lib.hid e5
        clear e5 k7 f7 k8 f8
        go_wp2_with fail
        go_ret
        refine ⟨w.heap.size, rfl, Nat.le_refl _, Lib.hid ?_, HB6⟩
        have q1 : v.extract p1 v.size = ⟨#[]⟩ := by rw [← E5.out]; exact ext_self _
        have q2 : v.extract (p1 + 1) v.size = ⟨#[]⟩ := by rw [← E5.out]; exact ext_gt _
        simp only [ext_self, ext_gt, q1, q2]
        exact HN6.out
      | true =>
        have e5 : p1 < v.size := HPM.out
        exact absurd e5 (by omega)
    | true =>
      have e4 : p1 < p4 := HPP.out
      exact absurd e4 (by omega)
set_option maxHeartbeats 4000000 in
theorem zzLoose_2 (v : ByteArray) (hv : v.size ≤ 256) (bp bm : Bool) (p1 p2 p3 p4 : Nat) (C : Cuts v true false bp bm p1 p2 p3 p4) (w : World) :
    Calls Tryz.prog 55 #[.string v] w (LooseRes v p1 p2 p3 p4 w) := by
  have HPP : Hid (if bp = true then p3 < p4 else p4 = p3) := Lib.hid C.pp
  have HPM : Hid (if bm = true then p4 < v.size else p4 = v.size) := Lib.hid C.pm
  have h1 := C.h1
  have hv0 : 0 < v.size := by have := C.h12; have := C.h23; have := C.h34; have := C.h45; omega
  have h12 := C.h12
  have h23 := C.h23
  have h34 := C.h34
  have h45 := C.h45
  have c0 : (((v[0]'hv0).toNat : Int) == 118) = false := by have := C.c0 hv0; simp; omega
  have HD1 := Lib.hid (fun W => digits_calls C.e1 W)
  have HP4 := Lib.hid (fun W => parts_calls C.e4 W)
  have HP5 := Lib.hid (fun W => parts_calls C.e5 W)
  have HT2 := Lib.hid (C.two rfl)
  obtain ⟨e3, x2⟩ := C.nothree rfl
  have e3' := e3.symm
  subst e3'
  have X2 := Lib.hid x2
  clear x2
  have hmk : ∀ W, (Instr.makeSlice 22 (.int .i64 9) (.int .i64 9)).run Tryz.prog W = .ok (.slice (some ⟨W.heap.size, 0, none⟩) 9 9) (W.alloc (.cells #[E0, E0, E0, E0, E0, E0, E0, E0, E0] 9)) := fun W => by kernel_rfl
  have hp1 : ((p1 : Int) == 0) = false := by simp; omega
  have n0 : Nine (w.alloc (.cells #[.string v, E0, E0, E0, E0, E0, E0, E0, E0] 9)) w.heap.size (.string v) E0 E0 E0 E0 E0 E0 E0 E0 := heap_alloc_new w _
  have HN0 := Lib.hid n0
  have HB0 := Lib.hid ((Below.refl w.heap.size w).alloc (Nat.le_refl _) (.cells #[.string v, E0, E0, E0, E0, E0, E0, E0, E0] 9))
  clear C n0
  go_enter Tryz.func55, Tryz.ntmps55
  go_wp2_with fail
  refine (HD1.out _).mono ?_
  rintro e w1 ⟨rfl, hd_⟩
  have hn_ := HN0.out.below hd_.below
  have HB1 := Lib.hid (HB0.out.trans (hd_.below.mono HB0.out.size))
  have HN1 := Lib.hid hn_
  obtain ⟨kk_, f1⟩ := hn_.cell 1
  have k1 : w1.cell? ⟨w.heap.size, 1, none⟩ = some E0 := kk_
  clear kk_
  clear hn_ hd_
  go_wp2_with fail
  obtain ⟨w2, hw_⟩ : ∃ w2, w2 = w1.setCell ⟨w.heap.size, 1, none⟩ (.string (v.extract 0 p1)) := ⟨_, rfl⟩
  have hn_ : Nine w2 w.heap.size (.string v) (.string (v.extract 0 p1)) E0 E0 E0 E0 E0 E0 E0 := by rw [hw_]; exact blk_set HN1.out 1 _
  have HB2 : Hid (Below w.heap.size w w2) := Lib.hid (by rw [hw_]; exact HB1.out.setCell (p := ⟨w.heap.size, 1, none⟩) (Nat.le_refl _) _)
  have HN2 := Lib.hid hn_
  rw [← hw_]
  clear hn_ hw_
  clear k1 f1
  refine wp_loop_rounds 2 ?_
  obtain ⟨hlt_, xb_, hq_, hE_⟩ := HT2.out
  have xb : (((v[p1]'hlt_).toNat : Int) == 46) = true := by simp; omega
  have hlt' : (p1 : Int) < (v.size : Int) := by omega
  have hgt : decide ((p1 : Int) + 1 < (p2 : Int)) = true := by simp; omega
  have hQ : (p2 : Int) ≤ (v.size : Int) := by omega
  have hPQ : (p1 : Int) ≤ (p2 : Int) := by omega
  have HQ : Hid (∀ W, Calls Tryz.prog 64 #[.string v, .int .i64 ((p1 : Int) + 1)] W fun e w' => e = .returned (.int .i64 (p2 : Int)) ∧ Drawn0 W w') := Lib.hid (fun W => digits_calls hE_ W)
  clear xb_ hq_ hE_
  rw [rounds_succ]
  go_wp2_with fail
  refine (HQ.out _).mono ?_
  rintro e w2a ⟨rfl, hd_⟩
  have hn_ := HN2.out.below hd_.below
  have HB2a := Lib.hid (HB2.out.trans (hd_.below.mono HB2.out.size))
  have HN2a := Lib.hid hn_
  clear hn_ hd_
  go_wp2_with fail
  refine (HQ.out _).mono ?_
  rintro e w2b ⟨rfl, hd_⟩
  have hn_ := HN2a.out.below hd_.below
  have HB2b := Lib.hid (HB2a.out.trans (hd_.below.mono HB2a.out.size))
  have HN2b := Lib.hid hn_
  obtain ⟨kk_, f2⟩ := hn_.cell 2
  have k2 : w2b.cell? ⟨w.heap.size, 2, none⟩ = some E0 := kk_
  clear kk_
  clear hn_ hd_
  go_wp2_with fail
  obtain ⟨w2, hw_⟩ : ∃ w2, w2 = w2b.setCell ⟨w.heap.size, 2, none⟩ (.string (v.extract p1 p2)) := ⟨_, rfl⟩
  have hn_ : Nine w2 w.heap.size (.string v) (.string (v.extract 0 p1)) (.string (v.extract p1 p2)) E0 E0 E0 E0 E0 E0 := by rw [hw_]; exact blk_set HN2b.out 2 _
  have HB2 : Hid (Below w.heap.size w w2) := Lib.hid (by rw [hw_]; exact HB2b.out.setCell (p := ⟨w.heap.size, 2, none⟩) (Nat.le_refl _) _)
  have HN2 := Lib.hid hn_
  rw [← hw_]
  clear hn_ hw_
  clear k2 f2 xb hgt hQ hPQ HQ
  rcases Nat.lt_or_ge p2 v.size with hlt | hge
  · have x2 : (((v[p2]'hlt).toNat : Int) == 46) = false := by have := X2.out hlt; simp; omega
    have hlt' : (p2 : Int) < (v.size : Int) := by omega
    rw [rounds_succ]
    go_wp2_with fail
    refine (HP4.out _).mono ?_
    rintro e w3 ⟨rfl, hd_⟩
    have hn_ := HN2.out.below hd_.below
    have HB3 := Lib.hid (HB2.out.trans (hd_.below.mono HB2.out.size))
    have HN3 := Lib.hid hn_
    obtain ⟨kk_, f4⟩ := hn_.cell 4
    have k4 : w3.cell? ⟨w.heap.size, 4, none⟩ = some E0 := kk_
    clear kk_
    obtain ⟨kk_, f5⟩ := hn_.cell 5
    have k5 : w3.cell? ⟨w.heap.size, 5, none⟩ = some E0 := kk_
    clear kk_
    clear hn_ hd_
    cases bp with
    | false =>
      have e4 : p4 = p2 := HPP.out
      have e4' := e4.symm
      subst e4'
      have g4 : decide ((p2 : Int) < (p2 : Int)) = false := by simp
      clear k4 f4 k5 f5
      go_wp2_with fail
      refine (HP5.out _).mono ?_
      rintro e w6 ⟨rfl, hd_⟩
      have hn_ := HN3.out.below hd_.below
      have HB6 := Lib.hid (HB3.out.trans (hd_.below.mono HB3.out.size))
      have HN6 := Lib.hid hn_
      obtain ⟨kk_, f7⟩ := hn_.cell 7
      have k7 : w6.cell? ⟨w.heap.size, 7, none⟩ = some E0 := kk_
      clear kk_
      obtain ⟨kk_, f8⟩ := hn_.cell 8
      have k8 : w6.cell? ⟨w.heap.size, 8, none⟩ = some E0 := kk_
      clear kk_
      clear hn_ hd_
      have gv : ((v.size : Int) == (v.size : Int)) = true := by simp
      have gv' : ((v.size : Int) != (v.size : Int)) = false := by simp
      cases bm with
      | false =>
        have e5 : p2 = v.size := HPM.out
        exact absurd e5 (by omega)
      | true =>
        have e5 : p2 < v.size := HPM.out
        have g5 : decide ((p2 : Int) < (v.size : Int)) = true := by simp; omega
        have g5' : decide (p2 < v.size) = true := by simp; omega
        have hw_ : IntKind.i64.wrap ((p2 : Int) + 1) = (p2 : Int) + 1 := IntWalk.i64_in _ (by omega)
        have ht_ : ((p2 : Int) + 1).toNat = p2 + 1 := by omega
        have hb1_ : (0 : Int) ≤ (p2 : Int) + 1 := by omega
        have hb2_ : (p2 : Int) + 1 ≤ (v.size : Int) := by omega
        have hb3_ : (p2 : Int) ≤ (v.size : Int) := by omega
        go_upto_region 21 with fail
        go_region
        clear hw_ ht_ hb1_ hb2_ hb3_
        obtain ⟨w7, hw_⟩ : ∃ w7, w7 = ((w6.setCell ⟨w.heap.size, 7, none⟩ (.string (v.extract p2 v.size))).setCell ⟨w.heap.size, 8, none⟩ (.string (v.extract (p2 + 1) v.size))).drew := ⟨_, rfl⟩
        have hn_ : Nine w7 w.heap.size (.string v) (.string (v.extract 0 p1)) (.string (v.extract p1 p2)) E0 E0 E0 E0 (.string (v.extract p2 v.size)) (.string (v.extract (p2 + 1) v.size)) := by rw [hw_]; exact blk_set (blk_set HN6.out 7 _) 8 _
        have HB7 : Hid (Below w.heap.size w w7) := Lib.hid (by rw [hw_]; exact Below.trans ((HB6.out.setCell (p := ⟨w.heap.size, 7, none⟩) (Nat.le_refl _) _).setCell (p := ⟨w.heap.size, 8, none⟩) (Nat.le_refl _) _) ⟨rfl, rfl, rfl, Nat.le_refl _, fun _ _ => rfl⟩)
        have HN7 := Lib.hid hn_
        rw [← hw_]
        clear hn_ hw_
        go_wp2_with fail
        go_ret
        refine ⟨w.heap.size, rfl, Nat.le_refl _, Lib.hid ?_, HB7⟩
        try simp only [ext_self, ext_gt]
        exact HN7.out
    | true =>
      have e4 : p2 < p4 := HPP.out
      have g4 : decide ((p2 : Int) < (p4 : Int)) = true := by simp; omega
      have g4' : decide (p2 < p4) = true := by simp; omega
      have hw_ : IntKind.i64.wrap ((p2 : Int) + 1) = (p2 : Int) + 1 := IntWalk.i64_in _ (by omega)
      have ht_ : ((p2 : Int) + 1).toNat = p2 + 1 := by omega
      have hb1_ : (0 : Int) ≤ (p2 : Int) + 1 := by omega
      have hb2_ : (p2 : Int) + 1 ≤ (p4 : Int) := by omega
      have hb3_ : (p2 : Int) ≤ (p4 : Int) := by omega
      have hb4_ : (p4 : Int) ≤ (v.size : Int) := by omega
      go_upto_region 18 with fail
      go_region
      clear hw_ ht_ hb1_ hb2_ hb3_ hb4_
      obtain ⟨w5, hw_⟩ : ∃ w5, w5 = ((w3.setCell ⟨w.heap.size, 4, none⟩ (.string (v.extract p2 p4))).setCell ⟨w.heap.size, 5, none⟩ (.string (v.extract (p2 + 1) p4))).drew := ⟨_, rfl⟩
      have hn_ : Nine w5 w.heap.size (.string v) (.string (v.extract 0 p1)) (.string (v.extract p1 p2)) E0 (.string (v.extract p2 p4)) (.string (v.extract (p2 + 1) p4)) E0 E0 E0 := by rw [hw_]; exact blk_set (blk_set HN3.out 4 _) 5 _
      have HB5 : Hid (Below w.heap.size w w5) := Lib.hid (by rw [hw_]; exact Below.trans ((HB3.out.setCell (p := ⟨w.heap.size, 4, none⟩) (Nat.le_refl _) _).setCell (p := ⟨w.heap.size, 5, none⟩) (Nat.le_refl _) _) ⟨rfl, rfl, rfl, Nat.le_refl _, fun _ _ => rfl⟩)
      have HN5 := Lib.hid hn_
      rw [← hw_]
      clear hn_ hw_
      go_wp2_with fail
      refine (HP5.out _).mono ?_
      rintro e w6 ⟨rfl, hd_⟩
      have hn_ := HN5.out.below hd_.below
      have HB6 := Lib.hid (HB5.out.trans (hd_.below.mono HB5.out.size))
      have HN6 := Lib.hid hn_
      obtain ⟨kk_, f7⟩ := hn_.cell 7
      have k7 : w6.cell? ⟨w.heap.size, 7, none⟩ = some E0 := kk_
      clear kk_
      obtain ⟨kk_, f8⟩ := hn_.cell 8
      have k8 : w6.cell? ⟨w.heap.size, 8, none⟩ = some E0 := kk_
      clear kk_
      clear hn_ hd_
      have gv : ((v.size : Int) == (v.size : Int)) = true := by simp
      have gv' : ((v.size : Int) != (v.size : Int)) = false := by simp
      cases bm with
      | false =>
        have e5 : p4 = v.size := HPM.out
        have g5 : decide ((p4 : Int) < (v.size : Int)) = false := by rw [e5]; simp
        have g5' : decide (p4 < v.size) = false := by rw [e5]; simp
        have g6 : ((p4 : Int) != (v.size : Int)) = false := by rw [e5]; simp
        have g7 : ((p4 : Int) == (v.size : Int)) = true := by rw [e5]; simp
        have E5 := Lib.hid e5
        clear e5 k7 f7 k8 f8
        go_wp2_with fail
        go_ret
        refine ⟨w.heap.size, rfl, Nat.le_refl _, Lib.hid ?_, HB6⟩
        have q1 : v.extract p4 v.size = ⟨#[]⟩ := by rw [← E5.out]; exact ext_self _
        have q2 : v.extract (p4 + 1) v.size = ⟨#[]⟩ := by rw [← E5.out]; exact ext_gt _
        simp only [ext_self, ext_gt, q1, q2]
        exact HN6.out
      | true =>
        have e5 : p4 < v.size := HPM.out
        have g5 : decide ((p4 : Int) < (v.size : Int)) = true := by simp; omega
        have g5' : decide (p4 < v.size) = true := by simp; omega
        have hw_ : IntKind.i64.wrap ((p4 : Int) + 1) = (p4 : Int) + 1 := IntWalk.i64_in _ (by omega)
        have ht_ : ((p4 : Int) + 1).toNat = p4 + 1 := by omega
        have hb1_ : (0 : Int) ≤ (p4 : Int) + 1 := by omega
        have hb2_ : (p4 : Int) + 1 ≤ (v.size : Int) := by omega
        have hb3_ : (p4 : Int) ≤ (v.size : Int) := by omega
        go_upto_region 21 with fail
        go_region
        clear hw_ ht_ hb1_ hb2_ hb3_
        obtain ⟨w7, hw_⟩ : ∃ w7, w7 = ((w6.setCell ⟨w.heap.size, 7, none⟩ (.string (v.extract p4 v.size))).setCell ⟨w.heap.size, 8, none⟩ (.string (v.extract (p4 + 1) v.size))).drew := ⟨_, rfl⟩
        have hn_ : Nine w7 w.heap.size (.string v) (.string (v.extract 0 p1)) (.string (v.extract p1 p2)) E0 (.string (v.extract p2 p4)) (.string (v.extract (p2 + 1) p4)) E0 (.string (v.extract p4 v.size)) (.string (v.extract (p4 + 1) v.size)) := by rw [hw_]; exact blk_set (blk_set HN6.out 7 _) 8 _
        have HB7 : Hid (Below w.heap.size w w7) := Lib.hid (by rw [hw_]; exact Below.trans ((HB6.out.setCell (p := ⟨w.heap.size, 7, none⟩) (Nat.le_refl _) _).setCell (p := ⟨w.heap.size, 8, none⟩) (Nat.le_refl _) _) ⟨rfl, rfl, rfl, Nat.le_refl _, fun _ _ => rfl⟩)
        have HN7 := Lib.hid hn_
        rw [← hw_]
        clear hn_ hw_
        go_wp2_with fail
        go_ret
        refine ⟨w.heap.size, rfl, Nat.le_refl _, Lib.hid ?_, HB7⟩
        try simp only [ext_self, ext_gt]
        exact HN7.out
  · have hge' : ¬ (p2 : Int) < (v.size : Int) := by omega
    rw [rounds_succ]
    go_wp2_with fail
    refine (HP4.out _).mono ?_
    rintro e w3 ⟨rfl, hd_⟩
    have hn_ := HN2.out.below hd_.below
    have HB3 := Lib.hid (HB2.out.trans (hd_.below.mono HB2.out.size))
    have HN3 := Lib.hid hn_
    obtain ⟨kk_, f4⟩ := hn_.cell 4
    have k4 : w3.cell? ⟨w.heap.size, 4, none⟩ = some E0 := kk_
    clear kk_
    obtain ⟨kk_, f5⟩ := hn_.cell 5
    have k5 : w3.cell? ⟨w.heap.size, 5, none⟩ = some E0 := kk_
    clear kk_
    clear hn_ hd_
    cases bp with
    | false =>
      have e4 : p4 = p2 := HPP.out
      have e4' := e4.symm
      subst e4'
      have g4 : decide ((p2 : Int) < (p2 : Int)) = false := by simp
      clear k4 f4 k5 f5
      go_wp2_with fail
      refine (HP5.out _).mono ?_
      rintro e w6 ⟨rfl, hd_⟩
      have hn_ := HN3.out.below hd_.below
      have HB6 := Lib.hid (HB3.out.trans (hd_.below.mono HB3.out.size))
      have HN6 := Lib.hid hn_
      obtain ⟨kk_, f7⟩ := hn_.cell 7
      have k7 : w6.cell? ⟨w.heap.size, 7, none⟩ = some E0 := kk_
      clear kk_
      obtain ⟨kk_, f8⟩ := hn_.cell 8
      have k8 : w6.cell? ⟨w.heap.size, 8, none⟩ = some E0 := kk_
      clear kk_
      clear hn_ hd_
      have gv : ((v.size : Int) == (v.size : Int)) = true := by simp
      have gv' : ((v.size : Int) != (v.size : Int)) = false := by simp
      cases bm with
      | false =>
        have e5 : p2 = v.size := HPM.out
        have g5 : decide ((p2 : Int) < (v.size : Int)) = false := by rw [e5]; simp
        have g5' : decide (p2 < v.size) = false := by rw [e5]; simp
        have g6 : ((p2 : Int) != (v.size : Int)) = false := by rw [e5]; simp
        have g7 : ((p2 : Int) == (v.size : Int)) = true := by rw [e5]; simp
        have E5 := Lib.hid e5
        clear e5 k7 f7 k8 f8
        go_wp2_with fail
        go_ret
        refine ⟨w.heap.size, rfl, Nat.le_refl _, Lib.hid ?_, HB6⟩
        have q1 : v.extract p2 v.size = ⟨#[]⟩ := by rw [← E5.out]; exact ext_self _
        have q2 : v.extract (p2 + 1) v.size = ⟨#[]⟩ := by rw [← E5.out]; exact ext_gt _
        simp only [ext_self, ext_gt, q1, q2]
        exact HN6.out
      | true =>
        have e5 : p2 < v.size := HPM.out
        exact absurd e5 (by omega)
    | true =>
      have e4 : p2 < p4 := HPP.out
      exact absurd e4 (by omega)
set_option maxHeartbeats 4000000 in
theorem zzLoose_3 (v : ByteArray) (hv : v.size ≤ 256) (bp bm : Bool) (p1 p2 p3 p4 : Nat) (C : Cuts v true true bp bm p1 p2 p3 p4) (w : World) :
    Calls Tryz.prog 55 #[.string v] w (LooseRes v p1 p2 p3 p4 w) := by
  have HPP : Hid (if bp = true then p3 < p4 else p4 = p3) := Lib.hid C.pp
  have HPM : Hid (if bm = true then p4 < v.size else p4 = v.size) := Lib.hid C.pm
  have h1 := C.h1
  have hv0 : 0 < v.size := by have := C.h12; have := C.h23; have := C.h34; have := C.h45; omega
  have h12 := C.h12
  have h23 := C.h23
  have h34 := C.h34
  have h45 := C.h45
  have c0 : (((v[0]'hv0).toNat : Int) == 118) = false := by have := C.c0 hv0; simp; omega
  have HD1 := Lib.hid (fun W => digits_calls C.e1 W)
  have HP4 := Lib.hid (fun W => parts_calls C.e4 W)
  have HP5 := Lib.hid (fun W => parts_calls C.e5 W)
  have HT2 := Lib.hid (C.two rfl)
  have HT3 := Lib.hid (C.three rfl)
  have hmk : ∀ W, (Instr.makeSlice 22 (.int .i64 9) (.int .i64 9)).run Tryz.prog W = .ok (.slice (some ⟨W.heap.size, 0, none⟩) 9 9) (W.alloc (.cells #[E0, E0, E0, E0, E0, E0, E0, E0, E0] 9)) := fun W => by kernel_rfl
  have hp1 : ((p1 : Int) == 0) = false := by simp; omega
  have n0 : Nine (w.alloc (.cells #[.string v, E0, E0, E0, E0, E0, E0, E0, E0] 9)) w.heap.size (.string v) E0 E0 E0 E0 E0 E0 E0 E0 := heap_alloc_new w _
  have HN0 := Lib.hid n0
  have HB0 := Lib.hid ((Below.refl w.heap.size w).alloc (Nat.le_refl _) (.cells #[.string v, E0, E0, E0, E0, E0, E0, E0, E0] 9))
  clear C n0
  go_enter Tryz.func55, Tryz.ntmps55
  go_wp2_with fail
  refine (HD1.out _).mono ?_
  rintro e w1 ⟨rfl, hd_⟩
  have hn_ := HN0.out.below hd_.below
  have HB1 := Lib.hid (HB0.out.trans (hd_.below.mono HB0.out.size))
  have HN1 := Lib.hid hn_
  obtain ⟨kk_, f1⟩ := hn_.cell 1
  have k1 : w1.cell? ⟨w.heap.size, 1, none⟩ = some E0 := kk_
  clear kk_
  clear hn_ hd_
  go_wp2_with fail
  obtain ⟨w2, hw_⟩ : ∃ w2, w2 = w1.setCell ⟨w.heap.size, 1, none⟩ (.string (v.extract 0 p1)) := ⟨_, rfl⟩
  have hn_ : Nine w2 w.heap.size (.string v) (.string (v.extract 0 p1)) E0 E0 E0 E0 E0 E0 E0 := by rw [hw_]; exact blk_set HN1.out 1 _
  have HB2 : Hid (Below w.heap.size w w2) := Lib.hid (by rw [hw_]; exact HB1.out.setCell (p := ⟨w.heap.size, 1, none⟩) (Nat.le_refl _) _)
  have HN2 := Lib.hid hn_
  rw [← hw_]
  clear hn_ hw_
  clear k1 f1
  refine wp_loop_rounds 3 ?_
  obtain ⟨hlt_, xb_, hq_, hE_⟩ := HT2.out
  have xb : (((v[p1]'hlt_).toNat : Int) == 46) = true := by simp; omega
  have hlt' : (p1 : Int) < (v.size : Int) := by omega
  have hgt : decide ((p1 : Int) + 1 < (p2 : Int)) = true := by simp; omega
  have hQ : (p2 : Int) ≤ (v.size : Int) := by omega
  have hPQ : (p1 : Int) ≤ (p2 : Int) := by omega
  have HQ : Hid (∀ W, Calls Tryz.prog 64 #[.string v, .int .i64 ((p1 : Int) + 1)] W fun e w' => e = .returned (.int .i64 (p2 : Int)) ∧ Drawn0 W w') := Lib.hid (fun W => digits_calls hE_ W)
  clear xb_ hq_ hE_
  rw [rounds_succ]
  go_wp2_with fail
  refine (HQ.out _).mono ?_
  rintro e w2a ⟨rfl, hd_⟩
  have hn_ := HN2.out.below hd_.below
  have HB2a := Lib.hid (HB2.out.trans (hd_.below.mono HB2.out.size))
  have HN2a := Lib.hid hn_
  clear hn_ hd_
  go_wp2_with fail
  refine (HQ.out _).mono ?_
  rintro e w2b ⟨rfl, hd_⟩
  have hn_ := HN2a.out.below hd_.below
  have HB2b := Lib.hid (HB2a.out.trans (hd_.below.mono HB2a.out.size))
  have HN2b := Lib.hid hn_
  obtain ⟨kk_, f2⟩ := hn_.cell 2
  have k2 : w2b.cell? ⟨w.heap.size, 2, none⟩ = some E0 := kk_
  clear kk_
  clear hn_ hd_
  go_wp2_with fail
  obtain ⟨w2, hw_⟩ : ∃ w2, w2 = w2b.setCell ⟨w.heap.size, 2, none⟩ (.string (v.extract p1 p2)) := ⟨_, rfl⟩
  have hn_ : Nine w2 w.heap.size (.string v) (.string (v.extract 0 p1)) (.string (v.extract p1 p2)) E0 E0 E0 E0 E0 E0 := by rw [hw_]; exact blk_set HN2b.out 2 _
  have HB2 : Hid (Below w.heap.size w w2) := Lib.hid (by rw [hw_]; exact HB2b.out.setCell (p := ⟨w.heap.size, 2, none⟩) (Nat.le_refl _) _)
  have HN2 := Lib.hid hn_
  rw [← hw_]
  clear hn_ hw_
  clear k2 f2 xb hgt hQ hPQ HQ
  obtain ⟨hlt_, xb_, hq_, hE_⟩ := HT3.out
  have xb : (((v[p2]'hlt_).toNat : Int) == 46) = true := by simp; omega
  have hlt' : (p2 : Int) < (v.size : Int) := by omega
  have hgt : decide ((p2 : Int) + 1 < (p3 : Int)) = true := by simp; omega
  have hQ : (p3 : Int) ≤ (v.size : Int) := by omega
  have hPQ : (p2 : Int) ≤ (p3 : Int) := by omega
  have HQ : Hid (∀ W, Calls Tryz.prog 64 #[.string v, .int .i64 ((p2 : Int) + 1)] W fun e w' => e = .returned (.int .i64 (p3 : Int)) ∧ Drawn0 W w') := Lib.hid (fun W => digits_calls hE_ W)
  clear xb_ hq_ hE_
  rw [rounds_succ]
  go_wp2_with fail
  refine (HQ.out _).mono ?_
  rintro e w2a ⟨rfl, hd_⟩
  have hn_ := HN2.out.below hd_.below
  have HB2a := Lib.hid (HB2.out.trans (hd_.below.mono HB2.out.size))
  have HN2a := Lib.hid hn_
  clear hn_ hd_
  go_wp2_with fail
  refine (HQ.out _).mono ?_
  rintro e w2b ⟨rfl, hd_⟩
  have hn_ := HN2a.out.below hd_.below
  have HB2b := Lib.hid (HB2a.out.trans (hd_.below.mono HB2a.out.size))
  have HN2b := Lib.hid hn_
  obtain ⟨kk_, f3⟩ := hn_.cell 3
  have k3 : w2b.cell? ⟨w.heap.size, 3, none⟩ = some E0 := kk_
  clear kk_
  clear hn_ hd_
  go_wp2_with fail
  obtain ⟨w2, hw_⟩ : ∃ w2, w2 = w2b.setCell ⟨w.heap.size, 3, none⟩ (.string (v.extract p2 p3)) := ⟨_, rfl⟩
  have hn_ : Nine w2 w.heap.size (.string v) (.string (v.extract 0 p1)) (.string (v.extract p1 p2)) (.string (v.extract p2 p3)) E0 E0 E0 E0 E0 := by rw [hw_]; exact blk_set HN2b.out 3 _
  have HB2 : Hid (Below w.heap.size w w2) := Lib.hid (by rw [hw_]; exact HB2b.out.setCell (p := ⟨w.heap.size, 3, none⟩) (Nat.le_refl _) _)
  have HN2 := Lib.hid hn_
  rw [← hw_]
  clear hn_ hw_
  clear k3 f3 xb hgt hQ hPQ HQ
  rw [rounds_succ]
  go_wp2_with fail
  refine (HP4.out _).mono ?_
  rintro e w3 ⟨rfl, hd_⟩
  have hn_ := HN2.out.below hd_.below
  have HB3 := Lib.hid (HB2.out.trans (hd_.below.mono HB2.out.size))
  have HN3 := Lib.hid hn_
  obtain ⟨kk_, f4⟩ := hn_.cell 4
  have k4 : w3.cell? ⟨w.heap.size, 4, none⟩ = some E0 := kk_
  clear kk_
  obtain ⟨kk_, f5⟩ := hn_.cell 5
  have k5 : w3.cell? ⟨w.heap.size, 5, none⟩ = some E0 := kk_
  clear kk_
  clear hn_ hd_
  cases bp with
  | false =>
    have e4 : p4 = p3 := HPP.out
    have e4' := e4.symm
    subst e4'
    have g4 : decide ((p3 : Int) < (p3 : Int)) = false := by simp
    clear k4 f4 k5 f5
    go_wp2_with fail
    refine (HP5.out _).mono ?_
    rintro e w6 ⟨rfl, hd_⟩
    have hn_ := HN3.out.below hd_.below
    have HB6 := Lib.hid (HB3.out.trans (hd_.below.mono HB3.out.size))
    have HN6 := Lib.hid hn_
    obtain ⟨kk_, f7⟩ := hn_.cell 7
    have k7 : w6.cell? ⟨w.heap.size, 7, none⟩ = some E0 := kk_
    clear kk_
    obtain ⟨kk_, f8⟩ := hn_.cell 8
    have k8 : w6.cell? ⟨w.heap.size, 8, none⟩ = some E0 := kk_
    clear kk_
    clear hn_ hd_
    have gv : ((v.size : Int) == (v.size : Int)) = true := by simp
    have gv' : ((v.size : Int) != (v.size : Int)) = false := by simp
    cases bm with
    | false =>
      have e5 : p3 = v.size := HPM.out
      have g5 : decide ((p3 : Int) < (v.size : Int)) = false := by rw [e5]; simp
      have g5' : decide (p3 < v.size) = false := by rw [e5]; simp
      have g6 : ((p3 : Int) != (v.size : Int)) = false := by rw [e5]; simp
      have g7 : ((p3 : Int) == (v.size : Int)) = true := by rw [e5]; simp
      have E5 := Lib.hid e5
      clear e5 k7 f7 k8 f8
      go_wp2_with fail
      go_ret
      refine ⟨w.heap.size, rfl, Nat.le_refl _, Lib.hid ?_, HB6⟩
      have q1 : v.extract p3 v.size = ⟨#[]⟩ := by rw [← E5.out]; exact ext_self _
      have q2 : v.extract (p3 + 1) v.size = ⟨#[]⟩ := by rw [← E5.out]; exact ext_gt _
      simp only [ext_self, ext_gt, q1, q2]
      exact HN6.out
    | true =>
      have e5 : p3 < v.size := HPM.out
      have g5 : decide ((p3 : Int) < (v.size : Int)) = true := by simp; omega
      have g5' : decide (p3 < v.size) = true := by simp; omega
      have hw_ : IntKind.i64.wrap ((p3 : Int) + 1) = (p3 : Int) + 1 := IntWalk.i64_in _ (by omega)
      have ht_ : ((p3 : Int) + 1).toNat = p3 + 1 := by omega
      have hb1_ : (0 : Int) ≤ (p3 : Int) + 1 := by omega
      have hb2_ : (p3 : Int) + 1 ≤ (v.size : Int) := by omega
      have hb3_ : (p3 : Int) ≤ (v.size : Int) := by omega
      go_upto_region 21 with fail
      go_region
      clear hw_ ht_ hb1_ hb2_ hb3_
      obtain ⟨w7, hw_⟩ : ∃ w7, w7 = ((w6.setCell ⟨w.heap.size, 7, none⟩ (.string (v.extract p3 v.size))).setCell ⟨w.heap.size, 8, none⟩ (.string (v.extract (p3 + 1) v.size))).drew := ⟨_, rfl⟩
      have hn_ : Nine w7 w.heap.size (.string v) (.string (v.extract 0 p1)) (.string (v.extract p1 p2)) (.string (v.extract p2 p3)) E0 E0 E0 (.string (v.extract p3 v.size)) (.string (v.extract (p3 + 1) v.size)) := by rw [hw_]; exact blk_set (blk_set HN6.out 7 _) 8 _
      have HB7 : Hid (Below w.heap.size w w7) := Lib.hid (by rw [hw_]; exact Below.trans ((HB6.out.setCell (p := ⟨w.heap.size, 7, none⟩) (Nat.le_refl _) _).setCell (p := ⟨w.heap.size, 8, none⟩) (Nat.le_refl _) _) ⟨rfl, rfl, rfl, Nat.le_refl _, fun _ _ => rfl⟩)
      have HN7 := Lib.hid hn_
      rw [← hw_]
      clear hn_ hw_
      go_wp2_with fail
      go_ret
      refine ⟨w.heap.size, rfl, Nat.le_refl _, Lib.hid ?_, HB7⟩
      try simp only [ext_self, ext_gt]
      exact HN7.out
  | true =>
    have e4 : p3 < p4 := HPP.out
    have g4 : decide ((p3 : Int) < (p4 : Int)) = true := by simp; omega
    have g4' : decide (p3 < p4) = true := by simp; omega
    have hw_ : IntKind.i64.wrap ((p3 : Int) + 1) = (p3 : Int) + 1 := IntWalk.i64_in _ (by omega)
    have ht_ : ((p3 : Int) + 1).toNat = p3 + 1 := by omega
    have hb1_ : (0 : Int) ≤ (p3 : Int) + 1 := by omega
    have hb2_ : (p3 : Int) + 1 ≤ (p4 : Int) := by omega
    have hb3_ : (p3 : Int) ≤ (p4 : Int) := by omega
    have hb4_ : (p4 : Int) ≤ (v.size : Int) := by omega
    go_upto_region 18 with fail
    go_region
    clear hw_ ht_ hb1_ hb2_ hb3_ hb4_
    obtain ⟨w5, hw_⟩ : ∃ w5, w5 = ((w3.setCell ⟨w.heap.size, 4, none⟩ (.string (v.extract p3 p4))).setCell ⟨w.heap.size, 5, none⟩ (.string (v.extract (p3 + 1) p4))).drew := ⟨_, rfl⟩
    have hn_ : Nine w5 w.heap.size (.string v) (.string (v.extract 0 p1)) (.string (v.extract p1 p2)) (.string (v.extract p2 p3)) (.string (v.extract p3 p4)) (.string (v.extract (p3 + 1) p4)) E0 E0 E0 := by rw [hw_]; exact blk_set (blk_set HN3.out 4 _) 5 _
    have HB5 : Hid (Below w.heap.size w w5) := Lib.hid (by rw [hw_]; exact Below.trans ((HB3.out.setCell (p := ⟨w.heap.size, 4, none⟩) (Nat.le_refl _) _).setCell (p := ⟨w.heap.size, 5, none⟩) (Nat.le_refl _) _) ⟨rfl, rfl, rfl, Nat.le_refl _, fun _ _ => rfl⟩)
    have HN5 := Lib.hid hn_
    rw [← hw_]
    clear hn_ hw_
    go_wp2_with fail
    refine (HP5.out _).mono ?_
    rintro e w6 ⟨rfl, hd_⟩
    have hn_ := HN5.out.below hd_.below
    have HB6 := Lib.hid (HB5.out.trans (hd_.below.mono HB5.out.size))
    have HN6 := Lib.hid hn_
    obtain ⟨kk_, f7⟩ := hn_.cell 7
    have k7 : w6.cell? ⟨w.heap.size, 7, none⟩ = some E0 := kk_
    clear kk_
    obtain ⟨kk_, f8⟩ := hn_.cell 8
    have k8 : w6.cell? ⟨w.heap.size, 8, none⟩ = some E0 := kk_
    clear kk_
    clear hn_ hd_
    have gv : ((v.size : Int) == (v.size : Int)) = true := by simp
    have gv' : ((v.size : Int) != (v.size : Int)) = false := by simp
    cases bm with
    | false =>
      have e5 : p4 = v.size := HPM.out
      have g5 : decide ((p4 : Int) < (v.size : Int)) = false := by rw [e5]; simp
      have g5' : decide (p4 < v.size) = false := by rw [e5]; simp
      have g6 : ((p4 : Int) != (v.size : Int)) = false := by rw [e5]; simp
      have g7 : ((p4 : Int) == (v.size : Int)) = true := by rw [e5]; simp
      have E5 := Lib.hid e5
      clear e5 k7 f7 k8 f8
      go_wp2_with fail
      go_ret
      refine ⟨w.heap.size, rfl, Nat.le_refl _, Lib.hid ?_, HB6⟩
      have q1 : v.extract p4 v.size = ⟨#[]⟩ := by rw [← E5.out]; exact ext_self _
      have q2 : v.extract (p4 + 1) v.size = ⟨#[]⟩ := by rw [← E5.out]; exact ext_gt _
      simp only [ext_self, ext_gt, q1, q2]
      exact HN6.out
    | true =>
      have e5 : p4 < v.size := HPM.out
      have g5 : decide ((p4 : Int) < (v.size : Int)) = true := by simp; omega
      have g5' : decide (p4 < v.size) = true := by simp; omega
      have hw_ : IntKind.i64.wrap ((p4 : Int) + 1) = (p4 : Int) + 1 := IntWalk.i64_in _ (by omega)
      have ht_ : ((p4 : Int) + 1).toNat = p4 + 1 := by omega
      have hb1_ : (0 : Int) ≤ (p4 : Int) + 1 := by omega
      have hb2_ : (p4 : Int) + 1 ≤ (v.size : Int) := by omega
      have hb3_ : (p4 : Int) ≤ (v.size : Int) := by omega
      go_upto_region 21 with fail
      go_region
      clear hw_ ht_ hb1_ hb2_ hb3_
      obtain ⟨w7, hw_⟩ : ∃ w7, w7 = ((w6.setCell ⟨w.heap.size, 7, none⟩ (.string (v.extract p4 v.size))).setCell ⟨w.heap.size, 8, none⟩ (.string (v.extract (p4 + 1) v.size))).drew := ⟨_, rfl⟩
      have hn_ : Nine w7 w.heap.size (.string v) (.string (v.extract 0 p1)) (.string (v.extract p1 p2)) (.string (v.extract p2 p3)) (.string (v.extract p3 p4)) (.string (v.extract (p3 + 1) p4)) E0 (.string (v.extract p4 v.size)) (.string (v.extract (p4 + 1) v.size)) := by rw [hw_]; exact blk_set (blk_set HN6.out 7 _) 8 _
      have HB7 : Hid (Below w.heap.size w w7) := Lib.hid (by rw [hw_]; exact Below.trans ((HB6.out.setCell (p := ⟨w.heap.size, 7, none⟩) (Nat.le_refl _) _).setCell (p := ⟨w.heap.size, 8, none⟩) (Nat.le_refl _) _) ⟨rfl, rfl, rfl, Nat.le_refl _, fun _ _ => rfl⟩)
      have HN7 := Lib.hid hn_
      rw [← hw_]
      clear hn_ hw_
      go_wp2_with fail
      go_ret
      refine ⟨w.heap.size, rfl, Nat.le_refl _, Lib.hid ?_, HB7⟩
      try simp only [ext_self, ext_gt]
      exact HN7.out
end Go.Proofs.YtoebognfkigooaaGreatDoor.Sv
namespace Go.Proofs.YtoebognfkigooaaGreatDoor.Sv
open Go.RowKit Go.Proofs.YtoebognfkigooaaGreatDoor.PFnSemverEither Go.Proofs.YtoebognfkigooaaGreatDoorW.PrintWords Go.Proofs.YtoebognfkigooaaGreatDoor.Txt Go.Proofs.YtoebognfkigooaaGreatDoor
set_option linter.unusedVariables false
set_option linter.unusedSimpArgs false
set_option maxRecDepth 20000

theorem sg_pre (c : UInt8) (l m : List UInt8) : ((sg c l ++ m).drop 1).take ((sg c l).length - 1) = l := by
  unfold sg
  split
  · rename_i h; rw [h]; simp
  · simp
theorem zzLoose_walk (t : Tx) (h : t.Ok) (v : ByteArray) (hv : v.toList = t.text) (hs : v.size ≤ 256) (w : World) :
    ∃ p1 p2 p3 p4, Calls Tryz.prog 55 #[.string v] w (LooseRes v p1 p2 p3 p4 w) ∧ (v.extract 0 p1).toList = t.d1 ∧ (v.extract p1 p2).toList = sg 46 t.d2 ∧ (v.extract p2 p3).toList = sg 46 t.d3 ∧ (v.extract (p3 + 1) p4).toList = t.pre ∧ (v.extract (p4 + 1) v.size).toList = t.meta_ ∧ (v.extract p3 p4).toList = sg 45 t.pre ∧ (v.extract p4 v.size).toList = sg 43 t.meta_ := by
  have hl := len_eq v
  have hC := cuts_of t h v hv (by omega)
  have hsz : v.size = t.d1.length + (sg 46 t.d2).length + (sg 46 t.d3).length + (sg 45 t.pre).length + (sg 43 t.meta_).length := by
    rw [hl, hv]; unfold Tx.text; simp only [List.length_append]; omega
  have sgd : ∀ (c : UInt8) (l : List UInt8), (sg c l).drop 1 = l := fun c l => by unfold sg; split <;> simp_all
  refine ⟨t.d1.length, t.d1.length + (sg 46 t.d2).length, t.d1.length + (sg 46 t.d2).length + (sg 46 t.d3).length, t.d1.length + (sg 46 t.d2).length + (sg 46 t.d3).length + (sg 45 t.pre).length, ?_, ?_, ?_, ?_, ?_, ?_, ?_, ?_⟩
  rotate_left
  · exact (by rw [tl_extract, hv]; unfold Tx.text; simp : (v.extract 0 t.d1.length).toList = t.d1)
  · exact (by rw [tl_extract, hv]; unfold Tx.text; simp : (v.extract t.d1.length (t.d1.length + (sg 46 t.d2).length)).toList = sg 46 t.d2)
  · refine (?_ : (v.extract (t.d1.length + (sg 46 t.d2).length) (t.d1.length + (sg 46 t.d2).length + (sg 46 t.d3).length)).toList = sg 46 t.d3)
    rw [tl_extract, hv]; unfold Tx.text
    rw [← List.append_assoc t.d1, List.drop_left' (by simp)]
    simp
  · refine (?_ : (v.extract (t.d1.length + (sg 46 t.d2).length + (sg 46 t.d3).length + 1) (t.d1.length + (sg 46 t.d2).length + (sg 46 t.d3).length + (sg 45 t.pre).length)).toList = t.pre)
    rw [tl_extract, hv]; unfold Tx.text
    rw [← List.append_assoc t.d1, ← List.append_assoc (t.d1 ++ sg 46 t.d2), ← List.drop_drop, List.drop_left' (by simp; omega)]
    rw [show ∀ n m : Nat, n + m - (n + 1) = m - 1 from fun n m => by omega]
    exact sg_pre 45 t.pre _
  · rw [extract_self, hv]; unfold Tx.text
    rw [← List.append_assoc t.d1, ← List.append_assoc (t.d1 ++ sg 46 t.d2), ← List.append_assoc (t.d1 ++ sg 46 t.d2 ++ sg 46 t.d3), ← List.drop_drop, List.drop_left' (by simp; omega)]
    exact sgd 43 t.meta_
  · refine (?_ : (v.extract (t.d1.length + (sg 46 t.d2).length + (sg 46 t.d3).length) (t.d1.length + (sg 46 t.d2).length + (sg 46 t.d3).length + (sg 45 t.pre).length)).toList = sg 45 t.pre)
    rw [tl_extract, hv]; unfold Tx.text
    rw [← List.append_assoc t.d1, ← List.append_assoc (t.d1 ++ sg 46 t.d2), List.drop_left' (by simp; omega)]
    simp
  · rw [extract_self, hv]; unfold Tx.text
    rw [← List.append_assoc t.d1, ← List.append_assoc (t.d1 ++ sg 46 t.d2), ← List.append_assoc (t.d1 ++ sg 46 t.d2 ++ sg 46 t.d3), List.drop_left' (by simp; omega)]
  · by_cases h2 : t.d2 = []
    · have h3 := h.h23 h2
      rw [decide_eq_false (by simpa using h2), decide_eq_false (by simpa using h3)] at hC
      exact zzLoose_1 v hs _ _ _ _ _ _ hC w
    · rw [decide_eq_true h2] at hC
      by_cases h3 : t.d3 = []
      · rw [decide_eq_false (by simpa using h3)] at hC
        exact zzLoose_2 v hs _ _ _ _ _ _ hC w
      · rw [decide_eq_true h3] at hC
        exact zzLoose_3 v hs _ _ _ _ _ _ hC w
/-- As texts by their lists. -/
theorem zzLoose_any (t : Tx) (h : t.Ok) (v : ByteArray) (hv : v.toList = t.text) (hs : v.size ≤ 256) (w : World) :
    Calls Tryz.prog 55 #[.string v] w fun e w' => ∃ b, e = .returned (.slice (some ⟨b, 0, none⟩) 9 9) ∧ w.heap.size ≤ b ∧
      Hid (Nine w' b (.string v) (.string ⟨t.d1.toArray⟩) (.string ⟨(sg 46 t.d2).toArray⟩) (.string ⟨(sg 46 t.d3).toArray⟩) (.string ⟨(sg 45 t.pre).toArray⟩) (.string ⟨t.pre.toArray⟩) E0 (.string ⟨(sg 43 t.meta_).toArray⟩) (.string ⟨t.meta_.toArray⟩)) ∧ Hid (Below w.heap.size w w') := by
  obtain ⟨p1, p2, p3, p4, hc, x1, x2, x3, x4, x5, x6, x7⟩ := zzLoose_walk t h v hv hs w
  refine hc.mono fun e w' ⟨b, he, hb, hn, hbb⟩ => ⟨b, he, hb, ?_, hbb⟩
  have y : ∀ {s : ByteArray} {l : List UInt8}, s.toList = l → s = ⟨l.toArray⟩ := fun {s l} h => ext_eq (by rw [h, tl_mk])
  rw [← y x1, ← y x2, ← y x3, ← y x4, ← y x5, ← y x6, ← y x7]
  exact hn
end Go.Proofs.YtoebognfkigooaaGreatDoor.Sv
namespace Go.Proofs.YtoebognfkigooaaGreatDoor.Sv
open Go.RowKit Go.Proofs.YtoebognfkigooaaGreatDoor.PFnSemverEither Go.Proofs.YtoebognfkigooaaGreatDoorW.PrintWords Go.Proofs.YtoebognfkigooaaGreatDoor.Txt Go.Proofs.YtoebognfkigooaaGreatDoor
set_option linter.unusedVariables false
set_option linter.unusedSimpArgs false
set_option maxRecDepth 20000

/-- A version in memory. -/
def VerIs (w : World) (b : Nat) (a m p : Nat) (pre meta_ orig : ByteArray) : Prop := w.heap[b]? = some (.cells #[.int .u64 (a : Int), .int .u64 (m : Int), .int .u64 (p : Int), .string pre, .string meta_, .string orig] 62 (0, 0))
def VerRes (a m p : Nat) (pre meta_ orig : ByteArray) (w : World) (e : Ending) (w' : World) : Prop := ∃ b, e = .returned (.tuple #[.pointer (some ⟨b, 0, none⟩), .nilIface]) ∧ w.heap.size ≤ b ∧ Hid (VerIs w' b a m p pre meta_ orig) ∧ Hid (Below w.heap.size w w')
theorem uint_walk {s : ByteArray} (hs : s.size ≤ 1000) {u : Nat} (h : Lib.parseUintB 64 s.toList = .ok u) (w : World) :
    Calls Tryz.prog 52 #[.string s, .int .i64 10, .int .i64 64] w fun e w' => e = .returned (.tuple #[.int .u64 (u : Int), .nilIface]) ∧ Below w.heap.size w w' := by
  rw [Lib.toList_data] at h
  refine (Tryz.strconv_ParseUint_10_at64_ok s (by omega) u h w).mono ?_
  rintro e w' ⟨rfl, hw⟩
  refine ⟨rfl, ?_⟩
  rcases hw with rfl | rfl
  · exact Below.refl _ _
  · exact Lib.bytesWorld_below _ _ _
theorem trim_walk {s r : ByteArray} {l : List UInt8} (hs : s.size ≤ 1000) (h : s.toList = 46 :: l) (hr : r.toList = l) (w : World) :
    Calls Tryz.prog 37 #[.string s, .string ⟨#[46]⟩] w fun e w' => e = .returned (.string r) ∧ Drawn0 w w' := by
  have hl := len_eq s
  rw [h] at hl
  simp only [List.length_cons] at hl
  refine strings_TrimPrefix.calls s _ r w ?_
  have h1 : (⟨#[46]⟩ : ByteArray).size = 1 := rfl
  have e1 : stringslite_HasPrefix.f s ⟨#[46]⟩ = some true := by
    unfold stringslite_HasPrefix.f
    rw [h1, if_pos (by omega), if_pos (by omega), if_pos (by omega)]
    have : (s.extract 0 ((1 : Nat) : Int).toNat).toList = [46] := by rw [tl_extract, h]; rfl
    rw [this]
    have : (⟨#[46]⟩ : ByteArray).toList = [46] := by rw [Lib.toList_data]
    rw [this]; rfl
  unfold strings_TrimPrefix.f stringslite_TrimPrefix.f
  rw [e1, h1]
  simp only [Option.bind_some, if_true]
  rw [if_pos (by omega), if_pos (by omega)]
  have e2 : s.extract ((1 : Nat) : Int).toNat s.size = r := by
    apply ext_eq
    rw [extract_self, h, hr]; rfl
  simp only [Option.bind_some]
  exact congrArg some e2
set_option maxHeartbeats 4000000 in
theorem coerce_walk (v t1 t2 t3 q2 q3 pre meta_ c4 c7 : ByteArray) (a m p : Nat) (hs : t1.size ≤ 1000 ∧ q2.size ≤ 1000 ∧ q3.size ≤ 1000) (w : World)
    (HL : ∀ W, Calls Tryz.prog 55 #[.string v] W fun e w' => ∃ b, e = .returned (.slice (some ⟨b, 0, none⟩) 9 9) ∧ W.heap.size ≤ b ∧ Hid (Nine w' b (.string v) (.string t1) (.string t2) (.string t3) (.string c4) (.string pre) E0 (.string c7) (.string meta_)) ∧ Hid (Below W.heap.size W w'))
    (U1 : Lib.parseUintB 64 t1.toList = .ok a)
    (U2 : (t2.toList = [] ∧ m = 0) ∨ (t2.toList = 46 :: q2.toList ∧ t2.size ≤ 1000 ∧ Lib.parseUintB 64 q2.toList = .ok m))
    (U3 : (t3.toList = [] ∧ p = 0) ∨ (t3.toList = 46 :: q3.toList ∧ t3.size ≤ 1000 ∧ Lib.parseUintB 64 q3.toList = .ok p))
    (VP : pre.toList ≠ [] → ∀ W, Calls Tryz.prog 50 #[.string pre] W fun e w' => e = .returned .nilIface ∧ Below W.heap.size W w')
    (VM : meta_.toList ≠ [] → ∀ W, Calls Tryz.prog 49 #[.string meta_] W fun e w' => e = .returned .nilIface ∧ Below W.heap.size W w') :
    Calls Tryz.prog 41 #[.string v] w (VerRes a m p pre meta_ v w) := by
  have HLL := Lib.hid (HL w)
  have HU1 := Lib.hid (fun W => uint_walk hs.1 U1 W)
  have HU2 := Lib.hid U2
  have HU3 := Lib.hid U3
  have HVP := Lib.hid VP
  have HVM := Lib.hid VM
  have HS := Lib.hid hs
  clear HL U1 U2 U3 VP VM hs
  have hnil : ∀ (W : World) (ad : Addr) (n c : Nat), (binOp .eql 22 (.slice (some ad) n c) (.slice none 0 0)).run Tryz.prog W = .ok (.bool false) W := fun W ad n c => by kernel_rfl
  go_enter Tryz.func41, Tryz.ntmps41
  go_wp2_with fail
  refine HLL.out.mono ?_
  rintro e w1 ⟨b, rfl, hbb, HN1, HB1⟩
  have hn := HN1.out
  obtain ⟨k5, f5⟩ := hn.cell 5
  obtain ⟨k8, f8⟩ := hn.cell 8
  have k5' : w1.cell? ⟨b, 5, none⟩ = some (.string pre) := k5
  have k8' : w1.cell? ⟨b, 8, none⟩ = some (.string meta_) := k8
  clear k5 k8 f5 f8 hn
  go_upto_region 4 with fail
  go_region
  obtain ⟨w2, hw2⟩ : ∃ w2, w2 = (w1.alloc (.cells #[.int .u64 0, .int .u64 0, .int .u64 0, .string pre, .string meta_, .string v] 62)).drew := ⟨_, rfl⟩
  have hv2 : VerIs w2 w1.heap.size 0 0 0 pre meta_ v := by rw [hw2]; exact heap_alloc_new w1 _
  have hb2 : Below w1.heap.size w1 w2 := by rw [hw2]; exact Below.trans ((Below.refl _ _).alloc (Nat.le_refl _) _) ⟨rfl, rfl, rfl, Nat.le_refl _, fun _ _ => rfl⟩
  have hn2 := HN1.out.below hb2
  rw [← hw2]
  obtain ⟨bv, hbv⟩ : ∃ bv, bv = w1.heap.size := ⟨_, rfl⟩
  have HBV : Hid (w1.heap.size = bv) := Lib.hid hbv.symm
  rw [← hbv] at hv2 ⊢
  have HB2 := Lib.hid (HB1.out.trans (hb2.mono HB1.out.size))
  have HN2 := Lib.hid hn2
  have HV2 := Lib.hid hv2
  have HWB : Hid (w.heap.size ≤ bv) := Lib.hid (by rw [hbv]; exact HB1.out.size)
  have HNE : Hid (b ≠ bv) := Lib.hid (by have := blk_lt HN1.out; omega)
  obtain ⟨k1, f1⟩ := hn2.cell 1
  have k1' : w2.cell? ⟨b, 1, none⟩ = some (.string t1) := k1
  clear k1 f1 k5' k8' hw2 hv2 hb2 hn2 hbv
  go_wp2_with fail
  refine (HU1.out _).mono ?_
  rintro e w3 ⟨rfl, hb_⟩
  have hv_ := HV2.out
  have hv_' : VerIs w3 bv 0 0 0 pre meta_ v := (hb_.block _ (blk_lt hv_)).trans hv_
  have hn_ := HN2.out.below hb_
  have HB3 := Lib.hid (HB2.out.trans (hb_.mono HB2.out.size))
  have HN3 := Lib.hid hn_
  have HV3 := Lib.hid hv_'
  have d0 : w3.cell? ⟨bv, 0, none⟩ = some (.int .u64 0) := by unfold VerIs at hv_'; rw [blk_cell hv_']; rfl
  have fd0 : w3.frozen? ⟨bv, 0, none⟩ = false := by unfold VerIs at hv_'; simp [World.frozen?, hv_']
  clear hb_ hv_ hv_' hn_
  go_upto_region 7 with fail
  obtain ⟨w4, hw_⟩ : ∃ w4, w4 = w3.setCell ⟨bv, 0, none⟩ (.int .u64 (a : Int)) := ⟨_, rfl⟩
  have hv_ : VerIs w4 bv a 0 0 pre meta_ v := by rw [hw_]; exact blk_set HV3.out 0 _
  have hn_ : Nine w4 b (.string v) (.string t1) (.string t2) (.string t3) (.string c4) (.string pre) E0 (.string c7) (.string meta_) := by rw [hw_]; exact (Below.heap_setCell _ _ _ _ HNE.out).trans HN3.out
  have HB4 : Hid (Below w.heap.size w w4) := Lib.hid (by rw [hw_]; exact HB3.out.setCell (p := ⟨bv, 0, none⟩) HWB.out _)
  have HV4 := Lib.hid hv_
  have HN4 := Lib.hid hn_
  rw [← hw_]
  clear hw_ hv_ hn_ d0 fd0
  have hn_ := HN4.out
  obtain ⟨kk_, _⟩ := hn_.cell 2
  have k2 : w4.cell? ⟨b, 2, none⟩ = some (.string t2) := kk_
  clear kk_
  clear hn_
  rcases HU2.out with ⟨h0_, hm_⟩ | ⟨h0_, hz_, hu_⟩
  · have y1 : (t2.toList == []) = true := by rw [h0_]; rfl
    have y2 : t2.toList.isEmpty = true := by rw [h0_]; rfl
    have y3 : (t2.toList != []) = false := by rw [h0_]; rfl
    subst hm_
    clear h0_
    have d1 : w4.cell? ⟨bv, 1, none⟩ = some (.int .u64 0) := by have hv_ := HV4.out; unfold VerIs at hv_; rw [blk_cell hv_]; rfl
    have fd1 : w4.frozen? ⟨bv, 1, none⟩ = false := by have hv_ := HV4.out; unfold VerIs at hv_; simp [World.frozen?, hv_]
    go_upto_region 14 with fail
    obtain ⟨w34, hw_⟩ : ∃ w34, w34 = w4.setCell ⟨bv, 1, none⟩ (.int .u64 0) := ⟨_, rfl⟩
    have hv_ : VerIs w34 bv a 0 0 pre meta_ v := by rw [hw_]; exact blk_set HV4.out 1 _
    have hn_ : Nine w34 b (.string v) (.string t1) (.string t2) (.string t3) (.string c4) (.string pre) E0 (.string c7) (.string meta_) := by rw [hw_]; exact (Below.heap_setCell _ _ _ _ HNE.out).trans HN4.out
    have HB5 : Hid (Below w.heap.size w w34) := Lib.hid (by rw [hw_]; exact HB4.out.setCell (p := ⟨bv, 1, none⟩) HWB.out _)
    have HV5 := Lib.hid hv_
    have HN5 := Lib.hid hn_
    rw [← hw_]
    clear hw_ hv_ hn_ d1 fd1
    clear k2 y1 y2 y3
    have hn_ := HN5.out
    obtain ⟨kk_, _⟩ := hn_.cell 3
    have k3 : w34.cell? ⟨b, 3, none⟩ = some (.string t3) := kk_
    clear kk_
    clear hn_
    rcases HU3.out with ⟨h0_, hm_⟩ | ⟨h0_, hz_, hu_⟩
    · have y1 : (t3.toList == []) = true := by rw [h0_]; rfl
      have y2 : t3.toList.isEmpty = true := by rw [h0_]; rfl
      have y3 : (t3.toList != []) = false := by rw [h0_]; rfl
      subst hm_
      clear h0_
      have d2 : w34.cell? ⟨bv, 2, none⟩ = some (.int .u64 0) := by have hv_ := HV5.out; unfold VerIs at hv_; rw [blk_cell hv_]; rfl
      have fd2 : w34.frozen? ⟨bv, 2, none⟩ = false := by have hv_ := HV5.out; unfold VerIs at hv_; simp [World.frozen?, hv_]
      go_upto_region 19 with fail
      obtain ⟨w35, hw_⟩ : ∃ w35, w35 = w34.setCell ⟨bv, 2, none⟩ (.int .u64 0) := ⟨_, rfl⟩
      have hv_ : VerIs w35 bv a 0 0 pre meta_ v := by rw [hw_]; exact blk_set HV5.out 2 _
      have hn_ : Nine w35 b (.string v) (.string t1) (.string t2) (.string t3) (.string c4) (.string pre) E0 (.string c7) (.string meta_) := by rw [hw_]; exact (Below.heap_setCell _ _ _ _ HNE.out).trans HN5.out
      have HB6 : Hid (Below w.heap.size w w35) := Lib.hid (by rw [hw_]; exact HB5.out.setCell (p := ⟨bv, 2, none⟩) HWB.out _)
      have HV6 := Lib.hid hv_
      have HN6 := Lib.hid hn_
      rw [← hw_]
      clear hw_ hv_ hn_ d2 fd2
      clear k3 y1 y2 y3
      have d3 : w35.cell? ⟨bv, 3, none⟩ = some (.string pre) := by have hv_ := HV6.out; unfold VerIs at hv_; rw [blk_cell hv_]; rfl
      by_cases h0_ : pre.toList = []
      · have y1 : (pre.toList == []) = true := by rw [h0_]; rfl
        have y3 : (pre.toList != []) = false := by rw [h0_]; rfl
        clear h0_
        go_upto_region 23 with fail
        clear y1 y3 d3
        have d4 : w35.cell? ⟨bv, 4, none⟩ = some (.string meta_) := by have hv_ := HV6.out; unfold VerIs at hv_; rw [blk_cell hv_]; rfl
        by_cases h0_ : meta_.toList = []
        · have y1 : (meta_.toList == []) = true := by rw [h0_]; rfl
          have y3 : (meta_.toList != []) = false := by rw [h0_]; rfl
          clear h0_
          go_wp2_with fail
          go_ret2
          exact ⟨bv, rfl, HWB.out, HV6, HB6⟩
        · have HVV := Lib.hid (HVM.out h0_ w35)
          have y1 : (meta_.toList == []) = false := beq_eq_false_iff_ne.mpr h0_
          have y3 : (meta_.toList != []) = true := by simp [bne, y1]
          clear h0_
          go_wp2_with fail
          refine HVV.out.mono ?_
          rintro e w26 ⟨rfl, hb_⟩
          have hv_ := HV6.out
          have HV7 : Hid (VerIs w26 bv a 0 0 pre meta_ v) := Lib.hid ((hb_.block _ (blk_lt hv_)).trans hv_)
          have HB7 := Lib.hid (HB6.out.trans (hb_.mono HB6.out.size))
          clear hb_ hv_ y1 y3 d4
          go_wp2_with fail
          go_ret2
          exact ⟨bv, rfl, HWB.out, HV7, HB7⟩
      · have HVV := Lib.hid (HVP.out h0_ w35)
        have y1 : (pre.toList == []) = false := beq_eq_false_iff_ne.mpr h0_
        have y3 : (pre.toList != []) = true := by simp [bne, y1]
        clear h0_
        go_wp2_with fail
        refine HVV.out.mono ?_
        rintro e w26 ⟨rfl, hb_⟩
        have hv_ := HV6.out
        have HV7 : Hid (VerIs w26 bv a 0 0 pre meta_ v) := Lib.hid ((hb_.block _ (blk_lt hv_)).trans hv_)
        have HB7 := Lib.hid (HB6.out.trans (hb_.mono HB6.out.size))
        clear hb_ hv_ y1 y3 d3
        go_upto_region 23 with fail
        have d4 : w26.cell? ⟨bv, 4, none⟩ = some (.string meta_) := by have hv_ := HV7.out; unfold VerIs at hv_; rw [blk_cell hv_]; rfl
        by_cases h0_ : meta_.toList = []
        · have y1 : (meta_.toList == []) = true := by rw [h0_]; rfl
          have y3 : (meta_.toList != []) = false := by rw [h0_]; rfl
          clear h0_
          go_wp2_with fail
          go_ret2
          exact ⟨bv, rfl, HWB.out, HV7, HB7⟩
        · have HVV := Lib.hid (HVM.out h0_ w26)
          have y1 : (meta_.toList == []) = false := beq_eq_false_iff_ne.mpr h0_
          have y3 : (meta_.toList != []) = true := by simp [bne, y1]
          clear h0_
          go_wp2_with fail
          refine HVV.out.mono ?_
          rintro e w27 ⟨rfl, hb_⟩
          have hv_ := HV7.out
          have HV8 : Hid (VerIs w27 bv a 0 0 pre meta_ v) := Lib.hid ((hb_.block _ (blk_lt hv_)).trans hv_)
          have HB8 := Lib.hid (HB7.out.trans (hb_.mono HB7.out.size))
          clear hb_ hv_ y1 y3 d4
          go_wp2_with fail
          go_ret2
          exact ⟨bv, rfl, HWB.out, HV8, HB8⟩
    · have y0 : t3.toList ≠ [] := by rw [h0_]; exact List.cons_ne_nil _ _
      have y1 : (t3.toList == []) = false := beq_eq_false_iff_ne.mpr y0
      have y2 : t3.toList.isEmpty = false := by rw [h0_]; rfl
      have y3 : (t3.toList != []) = true := by simp [bne, y1]
      have HTR := Lib.hid (fun W => trim_walk hz_ h0_ (r := q3) rfl W)
      have HUQ := Lib.hid (fun W => uint_walk HS.out.2.2 hu_ W)
      clear h0_ hz_ hu_ y0
      go_wp2_with fail
      refine (HTR.out _).mono ?_
      rintro e w5t ⟨rfl, hd_⟩
      have hb_ := hd_.below
      have hv_ := HV5.out
      have HV6 : Hid (VerIs w5t bv a 0 0 pre meta_ v) := Lib.hid ((hb_.block _ (blk_lt hv_)).trans hv_)
      have HN6 := Lib.hid (HN5.out.below hb_)
      have HB6 := Lib.hid (HB5.out.trans (hb_.mono HB5.out.size))
      clear hb_ hv_ hd_ k3 y1 y2 y3
      go_wp2_with fail
      refine (HUQ.out _).mono ?_
      rintro e w5u ⟨rfl, hb_⟩
      have hv_ := HV6.out
      have hv_' : VerIs w5u bv a 0 0 pre meta_ v := (hb_.block _ (blk_lt hv_)).trans hv_
      have hn_ := HN6.out.below hb_
      have HB7 := Lib.hid (HB6.out.trans (hb_.mono HB6.out.size))
      have HN7 := Lib.hid hn_
      have HV7 := Lib.hid hv_'
      have d2 : w5u.cell? ⟨bv, 2, none⟩ = some (.int .u64 0) := by unfold VerIs at hv_'; rw [blk_cell hv_']; rfl
      have fd2 : w5u.frozen? ⟨bv, 2, none⟩ = false := by unfold VerIs at hv_'; simp [World.frozen?, hv_']
      clear hb_ hv_ hv_' hn_
      go_upto_region 16 with fail
      obtain ⟨w5v, hw_⟩ : ∃ w5v, w5v = w5u.setCell ⟨bv, 2, none⟩ (.int .u64 (p : Int)) := ⟨_, rfl⟩
      have hv_ : VerIs w5v bv a 0 p pre meta_ v := by rw [hw_]; exact blk_set HV7.out 2 _
      have hn_ : Nine w5v b (.string v) (.string t1) (.string t2) (.string t3) (.string c4) (.string pre) E0 (.string c7) (.string meta_) := by rw [hw_]; exact (Below.heap_setCell _ _ _ _ HNE.out).trans HN7.out
      have HB8 : Hid (Below w.heap.size w w5v) := Lib.hid (by rw [hw_]; exact HB7.out.setCell (p := ⟨bv, 2, none⟩) HWB.out _)
      have HV8 := Lib.hid hv_
      have HN8 := Lib.hid hn_
      rw [← hw_]
      clear hw_ hv_ hn_ d2 fd2
      go_upto_region 19 with fail
      have d3 : w5v.cell? ⟨bv, 3, none⟩ = some (.string pre) := by have hv_ := HV8.out; unfold VerIs at hv_; rw [blk_cell hv_]; rfl
      by_cases h0_ : pre.toList = []
      · have y1 : (pre.toList == []) = true := by rw [h0_]; rfl
        have y3 : (pre.toList != []) = false := by rw [h0_]; rfl
        clear h0_
        go_upto_region 23 with fail
        clear y1 y3 d3
        have d4 : w5v.cell? ⟨bv, 4, none⟩ = some (.string meta_) := by have hv_ := HV8.out; unfold VerIs at hv_; rw [blk_cell hv_]; rfl
        by_cases h0_ : meta_.toList = []
        · have y1 : (meta_.toList == []) = true := by rw [h0_]; rfl
          have y3 : (meta_.toList != []) = false := by rw [h0_]; rfl
          clear h0_
          go_wp2_with fail
          go_ret2
          exact ⟨bv, rfl, HWB.out, HV8, HB8⟩
        · have HVV := Lib.hid (HVM.out h0_ w5v)
          have y1 : (meta_.toList == []) = false := beq_eq_false_iff_ne.mpr h0_
          have y3 : (meta_.toList != []) = true := by simp [bne, y1]
          clear h0_
          go_wp2_with fail
          refine HVV.out.mono ?_
          rintro e w28 ⟨rfl, hb_⟩
          have hv_ := HV8.out
          have HV9 : Hid (VerIs w28 bv a 0 p pre meta_ v) := Lib.hid ((hb_.block _ (blk_lt hv_)).trans hv_)
          have HB9 := Lib.hid (HB8.out.trans (hb_.mono HB8.out.size))
          clear hb_ hv_ y1 y3 d4
          go_wp2_with fail
          go_ret2
          exact ⟨bv, rfl, HWB.out, HV9, HB9⟩
      · have HVV := Lib.hid (HVP.out h0_ w5v)
        have y1 : (pre.toList == []) = false := beq_eq_false_iff_ne.mpr h0_
        have y3 : (pre.toList != []) = true := by simp [bne, y1]
        clear h0_
        go_wp2_with fail
        refine HVV.out.mono ?_
        rintro e w28 ⟨rfl, hb_⟩
        have hv_ := HV8.out
        have HV9 : Hid (VerIs w28 bv a 0 p pre meta_ v) := Lib.hid ((hb_.block _ (blk_lt hv_)).trans hv_)
        have HB9 := Lib.hid (HB8.out.trans (hb_.mono HB8.out.size))
        clear hb_ hv_ y1 y3 d3
        go_upto_region 23 with fail
        have d4 : w28.cell? ⟨bv, 4, none⟩ = some (.string meta_) := by have hv_ := HV9.out; unfold VerIs at hv_; rw [blk_cell hv_]; rfl
        by_cases h0_ : meta_.toList = []
        · have y1 : (meta_.toList == []) = true := by rw [h0_]; rfl
          have y3 : (meta_.toList != []) = false := by rw [h0_]; rfl
          clear h0_
          go_wp2_with fail
          go_ret2
          exact ⟨bv, rfl, HWB.out, HV9, HB9⟩
        · have HVV := Lib.hid (HVM.out h0_ w28)
          have y1 : (meta_.toList == []) = false := beq_eq_false_iff_ne.mpr h0_
          have y3 : (meta_.toList != []) = true := by simp [bne, y1]
          clear h0_
          go_wp2_with fail
          refine HVV.out.mono ?_
          rintro e w29 ⟨rfl, hb_⟩
          have hv_ := HV9.out
          have HV10 : Hid (VerIs w29 bv a 0 p pre meta_ v) := Lib.hid ((hb_.block _ (blk_lt hv_)).trans hv_)
          have HB10 := Lib.hid (HB9.out.trans (hb_.mono HB9.out.size))
          clear hb_ hv_ y1 y3 d4
          go_wp2_with fail
          go_ret2
          exact ⟨bv, rfl, HWB.out, HV10, HB10⟩
  · have y0 : t2.toList ≠ [] := by rw [h0_]; exact List.cons_ne_nil _ _
    have y1 : (t2.toList == []) = false := beq_eq_false_iff_ne.mpr y0
    have y2 : t2.toList.isEmpty = false := by rw [h0_]; rfl
    have y3 : (t2.toList != []) = true := by simp [bne, y1]
    have HTR := Lib.hid (fun W => trim_walk hz_ h0_ (r := q2) rfl W)
    have HUQ := Lib.hid (fun W => uint_walk HS.out.2.1 hu_ W)
    clear h0_ hz_ hu_ y0
    go_wp2_with fail
    refine (HTR.out _).mono ?_
    rintro e w4t ⟨rfl, hd_⟩
    have hb_ := hd_.below
    have hv_ := HV4.out
    have HV5 : Hid (VerIs w4t bv a 0 0 pre meta_ v) := Lib.hid ((hb_.block _ (blk_lt hv_)).trans hv_)
    have HN5 := Lib.hid (HN4.out.below hb_)
    have HB5 := Lib.hid (HB4.out.trans (hb_.mono HB4.out.size))
    clear hb_ hv_ hd_ k2 y1 y2 y3
    go_wp2_with fail
    refine (HUQ.out _).mono ?_
    rintro e w4u ⟨rfl, hb_⟩
    have hv_ := HV5.out
    have hv_' : VerIs w4u bv a 0 0 pre meta_ v := (hb_.block _ (blk_lt hv_)).trans hv_
    have hn_ := HN5.out.below hb_
    have HB6 := Lib.hid (HB5.out.trans (hb_.mono HB5.out.size))
    have HN6 := Lib.hid hn_
    have HV6 := Lib.hid hv_'
    have d1 : w4u.cell? ⟨bv, 1, none⟩ = some (.int .u64 0) := by unfold VerIs at hv_'; rw [blk_cell hv_']; rfl
    have fd1 : w4u.frozen? ⟨bv, 1, none⟩ = false := by unfold VerIs at hv_'; simp [World.frozen?, hv_']
    clear hb_ hv_ hv_' hn_
    go_upto_region 11 with fail
    obtain ⟨w4v, hw_⟩ : ∃ w4v, w4v = w4u.setCell ⟨bv, 1, none⟩ (.int .u64 (m : Int)) := ⟨_, rfl⟩
    have hv_ : VerIs w4v bv a m 0 pre meta_ v := by rw [hw_]; exact blk_set HV6.out 1 _
    have hn_ : Nine w4v b (.string v) (.string t1) (.string t2) (.string t3) (.string c4) (.string pre) E0 (.string c7) (.string meta_) := by rw [hw_]; exact (Below.heap_setCell _ _ _ _ HNE.out).trans HN6.out
    have HB7 : Hid (Below w.heap.size w w4v) := Lib.hid (by rw [hw_]; exact HB6.out.setCell (p := ⟨bv, 1, none⟩) HWB.out _)
    have HV7 := Lib.hid hv_
    have HN7 := Lib.hid hn_
    rw [← hw_]
    clear hw_ hv_ hn_ d1 fd1
    go_upto_region 14 with fail
    have hn_ := HN7.out
    obtain ⟨kk_, _⟩ := hn_.cell 3
    have k3 : w4v.cell? ⟨b, 3, none⟩ = some (.string t3) := kk_
    clear kk_
    clear hn_
    rcases HU3.out with ⟨h0_, hm_⟩ | ⟨h0_, hz_, hu_⟩
    · have y1 : (t3.toList == []) = true := by rw [h0_]; rfl
      have y2 : t3.toList.isEmpty = true := by rw [h0_]; rfl
      have y3 : (t3.toList != []) = false := by rw [h0_]; rfl
      subst hm_
      clear h0_
      have d2 : w4v.cell? ⟨bv, 2, none⟩ = some (.int .u64 0) := by have hv_ := HV7.out; unfold VerIs at hv_; rw [blk_cell hv_]; rfl
      have fd2 : w4v.frozen? ⟨bv, 2, none⟩ = false := by have hv_ := HV7.out; unfold VerIs at hv_; simp [World.frozen?, hv_]
      go_upto_region 19 with fail
      obtain ⟨w37, hw_⟩ : ∃ w37, w37 = w4v.setCell ⟨bv, 2, none⟩ (.int .u64 0) := ⟨_, rfl⟩
      have hv_ : VerIs w37 bv a m 0 pre meta_ v := by rw [hw_]; exact blk_set HV7.out 2 _
      have hn_ : Nine w37 b (.string v) (.string t1) (.string t2) (.string t3) (.string c4) (.string pre) E0 (.string c7) (.string meta_) := by rw [hw_]; exact (Below.heap_setCell _ _ _ _ HNE.out).trans HN7.out
      have HB8 : Hid (Below w.heap.size w w37) := Lib.hid (by rw [hw_]; exact HB7.out.setCell (p := ⟨bv, 2, none⟩) HWB.out _)
      have HV8 := Lib.hid hv_
      have HN8 := Lib.hid hn_
      rw [← hw_]
      clear hw_ hv_ hn_ d2 fd2
      clear k3 y1 y2 y3
      have d3 : w37.cell? ⟨bv, 3, none⟩ = some (.string pre) := by have hv_ := HV8.out; unfold VerIs at hv_; rw [blk_cell hv_]; rfl
      by_cases h0_ : pre.toList = []
      · have y1 : (pre.toList == []) = true := by rw [h0_]; rfl
        have y3 : (pre.toList != []) = false := by rw [h0_]; rfl
        clear h0_
        go_upto_region 23 with fail
        clear y1 y3 d3
        have d4 : w37.cell? ⟨bv, 4, none⟩ = some (.string meta_) := by have hv_ := HV8.out; unfold VerIs at hv_; rw [blk_cell hv_]; rfl
        by_cases h0_ : meta_.toList = []
        · have y1 : (meta_.toList == []) = true := by rw [h0_]; rfl
          have y3 : (meta_.toList != []) = false := by rw [h0_]; rfl
          clear h0_
          go_wp2_with fail
          go_ret2
          exact ⟨bv, rfl, HWB.out, HV8, HB8⟩
        · have HVV := Lib.hid (HVM.out h0_ w37)
          have y1 : (meta_.toList == []) = false := beq_eq_false_iff_ne.mpr h0_
          have y3 : (meta_.toList != []) = true := by simp [bne, y1]
          clear h0_
          go_wp2_with fail
          refine HVV.out.mono ?_
          rintro e w28 ⟨rfl, hb_⟩
          have hv_ := HV8.out
          have HV9 : Hid (VerIs w28 bv a m 0 pre meta_ v) := Lib.hid ((hb_.block _ (blk_lt hv_)).trans hv_)
          have HB9 := Lib.hid (HB8.out.trans (hb_.mono HB8.out.size))
          clear hb_ hv_ y1 y3 d4
          go_wp2_with fail
          go_ret2
          exact ⟨bv, rfl, HWB.out, HV9, HB9⟩
      · have HVV := Lib.hid (HVP.out h0_ w37)
        have y1 : (pre.toList == []) = false := beq_eq_false_iff_ne.mpr h0_
        have y3 : (pre.toList != []) = true := by simp [bne, y1]
        clear h0_
        go_wp2_with fail
        refine HVV.out.mono ?_
        rintro e w28 ⟨rfl, hb_⟩
        have hv_ := HV8.out
        have HV9 : Hid (VerIs w28 bv a m 0 pre meta_ v) := Lib.hid ((hb_.block _ (blk_lt hv_)).trans hv_)
        have HB9 := Lib.hid (HB8.out.trans (hb_.mono HB8.out.size))
        clear hb_ hv_ y1 y3 d3
        go_upto_region 23 with fail
        have d4 : w28.cell? ⟨bv, 4, none⟩ = some (.string meta_) := by have hv_ := HV9.out; unfold VerIs at hv_; rw [blk_cell hv_]; rfl
        by_cases h0_ : meta_.toList = []
        · have y1 : (meta_.toList == []) = true := by rw [h0_]; rfl
          have y3 : (meta_.toList != []) = false := by rw [h0_]; rfl
          clear h0_
          go_wp2_with fail
          go_ret2
          exact ⟨bv, rfl, HWB.out, HV9, HB9⟩
        · have HVV := Lib.hid (HVM.out h0_ w28)
          have y1 : (meta_.toList == []) = false := beq_eq_false_iff_ne.mpr h0_
          have y3 : (meta_.toList != []) = true := by simp [bne, y1]
          clear h0_
          go_wp2_with fail
          refine HVV.out.mono ?_
          rintro e w29 ⟨rfl, hb_⟩
          have hv_ := HV9.out
          have HV10 : Hid (VerIs w29 bv a m 0 pre meta_ v) := Lib.hid ((hb_.block _ (blk_lt hv_)).trans hv_)
          have HB10 := Lib.hid (HB9.out.trans (hb_.mono HB9.out.size))
          clear hb_ hv_ y1 y3 d4
          go_wp2_with fail
          go_ret2
          exact ⟨bv, rfl, HWB.out, HV10, HB10⟩
    · have y0 : t3.toList ≠ [] := by rw [h0_]; exact List.cons_ne_nil _ _
      have y1 : (t3.toList == []) = false := beq_eq_false_iff_ne.mpr y0
      have y2 : t3.toList.isEmpty = false := by rw [h0_]; rfl
      have y3 : (t3.toList != []) = true := by simp [bne, y1]
      have HTR := Lib.hid (fun W => trim_walk hz_ h0_ (r := q3) rfl W)
      have HUQ := Lib.hid (fun W => uint_walk HS.out.2.2 hu_ W)
      clear h0_ hz_ hu_ y0
      go_wp2_with fail
      refine (HTR.out _).mono ?_
      rintro e w7t ⟨rfl, hd_⟩
      have hb_ := hd_.below
      have hv_ := HV7.out
      have HV8 : Hid (VerIs w7t bv a m 0 pre meta_ v) := Lib.hid ((hb_.block _ (blk_lt hv_)).trans hv_)
      have HN8 := Lib.hid (HN7.out.below hb_)
      have HB8 := Lib.hid (HB7.out.trans (hb_.mono HB7.out.size))
      clear hb_ hv_ hd_ k3 y1 y2 y3
      go_wp2_with fail
      refine (HUQ.out _).mono ?_
      rintro e w7u ⟨rfl, hb_⟩
      have hv_ := HV8.out
      have hv_' : VerIs w7u bv a m 0 pre meta_ v := (hb_.block _ (blk_lt hv_)).trans hv_
      have hn_ := HN8.out.below hb_
      have HB9 := Lib.hid (HB8.out.trans (hb_.mono HB8.out.size))
      have HN9 := Lib.hid hn_
      have HV9 := Lib.hid hv_'
      have d2 : w7u.cell? ⟨bv, 2, none⟩ = some (.int .u64 0) := by unfold VerIs at hv_'; rw [blk_cell hv_']; rfl
      have fd2 : w7u.frozen? ⟨bv, 2, none⟩ = false := by unfold VerIs at hv_'; simp [World.frozen?, hv_']
      clear hb_ hv_ hv_' hn_
      go_upto_region 16 with fail
      obtain ⟨w7v, hw_⟩ : ∃ w7v, w7v = w7u.setCell ⟨bv, 2, none⟩ (.int .u64 (p : Int)) := ⟨_, rfl⟩
      have hv_ : VerIs w7v bv a m p pre meta_ v := by rw [hw_]; exact blk_set HV9.out 2 _
      have hn_ : Nine w7v b (.string v) (.string t1) (.string t2) (.string t3) (.string c4) (.string pre) E0 (.string c7) (.string meta_) := by rw [hw_]; exact (Below.heap_setCell _ _ _ _ HNE.out).trans HN9.out
      have HB10 : Hid (Below w.heap.size w w7v) := Lib.hid (by rw [hw_]; exact HB9.out.setCell (p := ⟨bv, 2, none⟩) HWB.out _)
      have HV10 := Lib.hid hv_
      have HN10 := Lib.hid hn_
      rw [← hw_]
      clear hw_ hv_ hn_ d2 fd2
      go_upto_region 19 with fail
      have d3 : w7v.cell? ⟨bv, 3, none⟩ = some (.string pre) := by have hv_ := HV10.out; unfold VerIs at hv_; rw [blk_cell hv_]; rfl
      by_cases h0_ : pre.toList = []
      · have y1 : (pre.toList == []) = true := by rw [h0_]; rfl
        have y3 : (pre.toList != []) = false := by rw [h0_]; rfl
        clear h0_
        go_upto_region 23 with fail
        clear y1 y3 d3
        have d4 : w7v.cell? ⟨bv, 4, none⟩ = some (.string meta_) := by have hv_ := HV10.out; unfold VerIs at hv_; rw [blk_cell hv_]; rfl
        by_cases h0_ : meta_.toList = []
        · have y1 : (meta_.toList == []) = true := by rw [h0_]; rfl
          have y3 : (meta_.toList != []) = false := by rw [h0_]; rfl
          clear h0_
          go_wp2_with fail
          go_ret2
          exact ⟨bv, rfl, HWB.out, HV10, HB10⟩
        · have HVV := Lib.hid (HVM.out h0_ w7v)
          have y1 : (meta_.toList == []) = false := beq_eq_false_iff_ne.mpr h0_
          have y3 : (meta_.toList != []) = true := by simp [bne, y1]
          clear h0_
          go_wp2_with fail
          refine HVV.out.mono ?_
          rintro e w30 ⟨rfl, hb_⟩
          have hv_ := HV10.out
          have HV11 : Hid (VerIs w30 bv a m p pre meta_ v) := Lib.hid ((hb_.block _ (blk_lt hv_)).trans hv_)
          have HB11 := Lib.hid (HB10.out.trans (hb_.mono HB10.out.size))
          clear hb_ hv_ y1 y3 d4
          go_wp2_with fail
          go_ret2
          exact ⟨bv, rfl, HWB.out, HV11, HB11⟩
      · have HVV := Lib.hid (HVP.out h0_ w7v)
        have y1 : (pre.toList == []) = false := beq_eq_false_iff_ne.mpr h0_
        have y3 : (pre.toList != []) = true := by simp [bne, y1]
        clear h0_
        go_wp2_with fail
        refine HVV.out.mono ?_
        rintro e w30 ⟨rfl, hb_⟩
        have hv_ := HV10.out
        have HV11 : Hid (VerIs w30 bv a m p pre meta_ v) := Lib.hid ((hb_.block _ (blk_lt hv_)).trans hv_)
        have HB11 := Lib.hid (HB10.out.trans (hb_.mono HB10.out.size))
        clear hb_ hv_ y1 y3 d3
        go_upto_region 23 with fail
        have d4 : w30.cell? ⟨bv, 4, none⟩ = some (.string meta_) := by have hv_ := HV11.out; unfold VerIs at hv_; rw [blk_cell hv_]; rfl
        by_cases h0_ : meta_.toList = []
        · have y1 : (meta_.toList == []) = true := by rw [h0_]; rfl
          have y3 : (meta_.toList != []) = false := by rw [h0_]; rfl
          clear h0_
          go_wp2_with fail
          go_ret2
          exact ⟨bv, rfl, HWB.out, HV11, HB11⟩
        · have HVV := Lib.hid (HVM.out h0_ w30)
          have y1 : (meta_.toList == []) = false := beq_eq_false_iff_ne.mpr h0_
          have y3 : (meta_.toList != []) = true := by simp [bne, y1]
          clear h0_
          go_wp2_with fail
          refine HVV.out.mono ?_
          rintro e w31 ⟨rfl, hb_⟩
          have hv_ := HV11.out
          have HV12 : Hid (VerIs w31 bv a m p pre meta_ v) := Lib.hid ((hb_.block _ (blk_lt hv_)).trans hv_)
          have HB12 := Lib.hid (HB11.out.trans (hb_.mono HB11.out.size))
          clear hb_ hv_ y1 y3 d4
          go_wp2_with fail
          go_ret2
          exact ⟨bv, rfl, HWB.out, HV12, HB12⟩
end Go.Proofs.YtoebognfkigooaaGreatDoor.Sv
namespace Go.Proofs.YtoebognfkigooaaGreatDoor.Sv
open Go.RowKit Go.Proofs.YtoebognfkigooaaGreatDoor.PFnSemverEither Go.Proofs.YtoebognfkigooaaGreatDoorW.PrintWords Go.Proofs.YtoebognfkigooaaGreatDoor.Txt Go.Proofs.YtoebognfkigooaaGreatDoor
set_option linter.unusedVariables false
set_option linter.unusedSimpArgs false
set_option maxRecDepth 20000

/-- What digits say. -/
def val (acc : Nat) (d : List UInt8) : Nat := d.foldl (fun a c => a * 10 + (c.toNat - 48)) acc
theorem dig_range {c : UInt8} (h : isDig c = true) : 48 ≤ c.toNat ∧ c.toNat ≤ 57 := by
  simp only [isDig, Bool.and_eq_true, decide_eq_true_eq] at h; exact h
theorem val_le : ∀ (d : List UInt8) (acc k : Nat), d.all isDig = true → acc < 10 ^ k → val acc d < 10 ^ (k + d.length)
  | [], acc, k, _, h => h
  | c :: r, acc, k, hd, h => by
    simp only [List.all_cons, Bool.and_eq_true] at hd
    have hc := dig_range hd.1
    have e : val acc (c :: r) = val (acc * 10 + (c.toNat - 48)) r := rfl
    rw [e, List.length_cons, show k + (r.length + 1) = (k + 1) + r.length by omega]
    refine val_le r _ (k + 1) hd.2 ?_
    rw [Nat.pow_succ]; omega
theorem parseM_val : ∀ (d : List UInt8) (acc k : Nat), d.all isDig = true → acc < 10 ^ k → k + d.length ≤ 19 → Lib.parseUintM 18446744073709551615 acc d = .ok (val acc d)
  | [], acc, k, _, _, _ => rfl
  | c :: r, acc, k, hd, h, hk => by
    simp only [List.all_cons, Bool.and_eq_true] at hd
    have hc := dig_range hd.1
    rw [List.length_cons] at hk
    have h18 : 10 ^ k ≤ 10 ^ 18 := Nat.pow_le_pow_right (by omega) (by omega)
    have h18' : (10 : Nat) ^ 18 = 1000000000000000000 := by decide
    have e : val acc (c :: r) = val (acc * 10 + (c.toNat - 48)) r := rfl
    rw [e, Lib.parseUintM, if_pos hc, if_neg (by omega), if_neg (by omega)]
    exact parseM_val r _ (k + 1) hd.2 (by rw [Nat.pow_succ]; omega) (by omega)
theorem parse_val {d : List UInt8} (h0 : d ≠ []) (hd : d.all isDig = true) (hl : d.length ≤ 19) : Lib.parseUintB 64 d = .ok (val 0 d) := by
  unfold Lib.parseUintB
  rw [if_neg h0]
  exact parseM_val d 0 0 hd (by decide) (by omega)
theorem dec_all (n : Nat) : (Lib.decDigits n).all isDig = true := by
  induction n using Nat.strongRecOn with
  | _ n ih =>
    by_cases h : n < 10
    · rw [Lib.decDigits_one h]
      have : (UInt8.ofNat (48 + n)).toNat = 48 + n := by rw [UInt8.toNat_ofNat']; omega
      simp only [List.all_cons, List.all_nil, Bool.and_true, isDig, this, Bool.and_eq_true, decide_eq_true_eq]
      omega
    · have e : Lib.decDigits n = Lib.decDigits (n / 10) ++ [UInt8.ofNat (48 + n % 10)] := by rw [Lib.decDigits]; simp [h]
      rw [e, List.all_append, ih _ (by omega)]
      have : (UInt8.ofNat (48 + n % 10)).toNat = 48 + n % 10 := by rw [UInt8.toNat_ofNat']; omega
      simp only [List.all_cons, List.all_nil, Bool.and_true, Bool.true_and, isDig, this, Bool.and_eq_true, decide_eq_true_eq]
      omega
theorem dec_val (n : Nat) : val 0 (Lib.decDigits n) = n := by
  induction n using Nat.strongRecOn with
  | _ n ih =>
    by_cases h : n < 10
    · rw [Lib.decDigits_one h]
      have : (UInt8.ofNat (48 + n)).toNat = 48 + n := by rw [UInt8.toNat_ofNat']; omega
      show 0 * 10 + ((UInt8.ofNat (48 + n)).toNat - 48) = n
      rw [this]; omega
    · have e : Lib.decDigits n = Lib.decDigits (n / 10) ++ [UInt8.ofNat (48 + n % 10)] := by rw [Lib.decDigits]; simp [h]
      have : (UInt8.ofNat (48 + n % 10)).toNat = 48 + n % 10 := by rw [UInt8.toNat_ofNat']; omega
      unfold val at ih ⊢
      rw [e, List.foldl_append, ih _ (by omega)]
      show n / 10 * 10 + ((UInt8.ofNat (48 + n % 10)).toNat - 48) = n
      rw [this]; omega
theorem dec_ne (n : Nat) : Lib.decDigits n ≠ [] := by
  by_cases h : n < 10
  · rw [Lib.decDigits_one h]; simp
  · have e : Lib.decDigits n = Lib.decDigits (n / 10) ++ [UInt8.ofNat (48 + n % 10)] := by rw [Lib.decDigits]; simp [h]
    rw [e]; simp
theorem dec_len : ∀ (k n : Nat), n < 10 ^ (k + 1) → (Lib.decDigits n).length ≤ k + 1
  | 0, n, h => by
    have : n < 10 := by simpa using h
    rw [Lib.decDigits_one this]; simp
  | k + 1, n, h => by
    by_cases h10 : n < 10
    · rw [Lib.decDigits_one h10]; simp
    · have e : Lib.decDigits n = Lib.decDigits (n / 10) ++ [UInt8.ofNat (48 + n % 10)] := by rw [Lib.decDigits]; simp [h10]
      have := dec_len k (n / 10) (by rw [Nat.pow_succ] at h; omega)
      rw [e, List.length_append, List.length_singleton]; omega
theorem dec_parse (n : Nat) (h : n < 10 ^ 9) : Lib.parseUintB 64 (Lib.decDigits n) = .ok n := by
  have := parse_val (dec_ne n) (dec_all n) (by have := dec_len 8 n h; omega)
  rw [dec_val] at this
  exact this
/-- A list as a text. -/
def ba (l : List UInt8) : ByteArray := ⟨l.toArray⟩
theorem tl_ba (l : List UInt8) : (ba l).toList = l := tl_mk l
theorem ba_tl (s : ByteArray) : ba s.toList = s := ext_eq (tl_ba _)
theorem ba_size (l : List UInt8) : (ba l).size = l.length := by rw [len_eq, tl_ba]
/-- What a component that may lack says. -/
def NumOf (d : List UInt8) (n : Nat) : Prop := (d = [] ∧ n = 0) ∨ (d ≠ [] ∧ Lib.parseUintB 64 d = .ok n)
set_option maxHeartbeats 1000000 in
theorem newVersion_walk (t : Tx) (h : t.Ok) (v : ByteArray) (hv : v.toList = t.text) (hs : v.size ≤ 256) (a m p : Nat) (U1 : Lib.parseUintB 64 t.d1 = .ok a) (U2 : NumOf t.d2 m) (U3 : NumOf t.d3 p)
    (VP : t.pre ≠ [] → ∀ W, Calls Tryz.prog 50 #[.string (ba t.pre)] W fun e w' => e = .returned .nilIface ∧ Below W.heap.size W w')
    (VM : t.meta_ ≠ [] → ∀ W, Calls Tryz.prog 49 #[.string (ba t.meta_)] W fun e w' => e = .returned .nilIface ∧ Below W.heap.size W w') (w : World) :
    Calls Tryz.prog 29 #[.string v] w (VerRes a m p (ba t.pre) (ba t.meta_) v w) := by
  have hl := len_eq v
  have hC := cuts_of t h v hv (by omega)
  have hsz : v.size = t.d1.length + (sg 46 t.d2).length + (sg 46 t.d3).length + (sg 45 t.pre).length + (sg 43 t.meta_).length := by
    rw [hl, hv]; unfold Tx.text; simp only [List.length_append]; omega
  have HCC : Hid (Calls Tryz.prog 41 #[.string v] w (VerRes a m p (ba t.pre) (ba t.meta_) v w)) := Lib.hid (by
    have sz : ∀ d : List UInt8, d.length ≤ v.size → (ba d).size ≤ 1000 := fun d hd => by rw [ba_size]; omega
    have s2 : t.d2.length ≤ (sg 46 t.d2).length := by unfold sg; split <;> simp_all
    have s3 : t.d3.length ≤ (sg 46 t.d3).length := by unfold sg; split <;> simp_all
    have key : ∀ (c4 c7 : ByteArray), (∀ W, Calls Tryz.prog 55 #[.string v] W fun e w' => ∃ b, e = .returned (.slice (some ⟨b, 0, none⟩) 9 9) ∧ W.heap.size ≤ b ∧ Hid (Nine w' b (.string v) (.string (ba t.d1)) (.string (ba (sg 46 t.d2))) (.string (ba (sg 46 t.d3))) (.string c4) (.string (ba t.pre)) E0 (.string c7) (.string (ba t.meta_))) ∧ Hid (Below W.heap.size W w')) →
        Calls Tryz.prog 41 #[.string v] w (VerRes a m p (ba t.pre) (ba t.meta_) v w) := fun c4 c7 hL =>
      coerce_walk v (ba t.d1) (ba (sg 46 t.d2)) (ba (sg 46 t.d3)) (ba t.d2) (ba t.d3) (ba t.pre) (ba t.meta_) c4 c7 a m p ⟨sz _ (by omega), sz _ (by omega), sz _ (by omega)⟩ w hL (by rw [tl_ba]; exact U1)
        (by
          rcases U2 with ⟨h1, h2⟩ | ⟨h1, h2⟩
          · exact .inl ⟨by rw [tl_ba, h1]; rfl, h2⟩
          · exact .inr ⟨by rw [tl_ba, tl_ba]; unfold sg; rw [if_neg h1], sz _ (by omega), by rw [tl_ba]; exact h2⟩)
        (by
          rcases U3 with ⟨h1, h2⟩ | ⟨h1, h2⟩
          · exact .inl ⟨by rw [tl_ba, h1]; rfl, h2⟩
          · exact .inr ⟨by rw [tl_ba, tl_ba]; unfold sg; rw [if_neg h1], sz _ (by omega), by rw [tl_ba]; exact h2⟩)
        (fun hh => VP (by rw [tl_ba] at hh; exact hh)) (fun hh => VM (by rw [tl_ba] at hh; exact hh))
    refine key (ba (sg 45 t.pre)) (ba (sg 43 t.meta_)) fun W => ?_
    have hW := zzLoose_any t h v hv hs W
    exact hW.mono fun e w' ⟨b, he, hb, hn, hbb⟩ => ⟨b, he, hb, hn, hbb⟩)
  clear hC hsz U1 U2 U3 VP VM h hv hl
  go_enter Tryz.func29, Tryz.ntmps29
  go_wp2_with fail
  refine HCC.out.mono ?_
  rintro e w1 ⟨b, rfl, hb, HV, HB⟩
  go_wp2_with fail
  go_ret2
  exact ⟨b, rfl, hb, HV, HB⟩
end Go.Proofs.YtoebognfkigooaaGreatDoor.Sv
namespace Go.Proofs.YtoebognfkigooaaGreatDoor.Sv
open Go.RowKit Go.Proofs.YtoebognfkigooaaGreatDoor.PFnSemverEither Go.Proofs.YtoebognfkigooaaGreatDoorW.PrintWords Go.Proofs.YtoebognfkigooaaGreatDoorW.PrintLast Go.Proofs.YtoebognfkigooaaGreatDoor.Txt Go.Proofs.YtoebognfkigooaaGreatDoor
set_option linter.unusedVariables false
set_option linter.unusedSimpArgs false

theorem zz_ev (s p : ByteArray) (hs : s.size ≤ 1000) (hp : p.size ≤ 1000) : Ev (fun k => semver_zzIndex.f k s p) (at_ 0 (idx p.toList s.toList)) := by
  have hl := len_eq s; have hl' := len_eq p
  have := search (fun k x => semver_zzIndex.l0 k s p x) s.toList p.toList (by omega) (by omega) (fun k x => by
    simp only [semver_zzIndex.l0, tl_extract, hl, hl']) 0 (.inl (Nat.zero_le _)) (by omega)
  simpa [semver_zzIndex.f] using this
theorem idx_no : ∀ (p : List UInt8), (∀ x ∈ p, x ≠ 46) → idx [46] p = none
  | [], _ => rfl
  | c :: r, h => by
    rw [idx_miss _ _ _ (by simp only [List.isPrefixOf, Bool.and_true, beq_iff_eq]; exact fun e => h c (by simp) e.symm), idx_no r fun x hx => h x (by simp [hx])]; rfl
theorem idx_at : ∀ (p r : List UInt8), (∀ x ∈ p, x ≠ 46) → idx [46] (p ++ 46 :: r) = some p.length
  | [], r, _ => idx_hit _ _ (by simp [List.isPrefixOf])
  | c :: q, r, h => by
    rw [List.cons_append, idx_miss _ _ _ (by simp only [List.isPrefixOf, Bool.and_true, beq_iff_eq]; exact fun e => h c (by simp) e.symm), idx_at q r fun x hx => h x (by simp [hx])]; rfl
def DOT : ByteArray := ⟨#[46]⟩
theorem tl_dot : DOT.toList = [46] := by unfold DOT; rw [Lib.toList_data]
theorem no46 {p : List UInt8} (h : p.all isPart = true) : ∀ x ∈ p, x ≠ 46 := fun x hx e => by
  have := List.all_eq_true.1 h x hx
  rw [e] at this
  exact absurd this (by decide)
theorem dsplit_ev : ∀ (ps : List (List UInt8)) (s : ByteArray) (acc : List ByteArray), ps ≠ [] → (∀ p ∈ ps, ∀ x ∈ p, x ≠ 46) → s.toList = dots ps → s.size ≤ 1000 → acc.length + ps.length ≤ 200000 →
    Ev (fun k => semver_zzSplit.l0 k s DOT acc) (acc ++ ps.map ba)
  | [], _, _, h, _, _, _, _ => absurd rfl h
  | [a], s, acc, _, hn, hs, hz, hb => by
    have hx : idx DOT.toList s.toList = none := by rw [tl_dot, hs]; exact idx_no a (hn a (by simp))
    have e : s = ba a := ext_eq (by rw [tl_ba, hs]; rfl)
    refine Ev.step (f := fun k => (semver_zzIndex.f k s DOT).bind fun t => _) (fun k => by simp only [semver_zzSplit.l0]; rfl) ?_
    refine Ev.andThen (zz_ev s DOT hz (by decide)) ?_
    rw [hx, show at_ 0 none = -1 from rfl]
    refine Ev.pos (by decide) (Ev.pos (by simp at hb; omega) ?_)
    rw [e]; exact Ev.now _
  | a :: b :: r, s, acc, _, hn, hs, hz, hb => by
    have hl := len_eq s
    have hd : s.toList = a ++ 46 :: dots (b :: r) := hs
    have hx : idx DOT.toList s.toList = some a.length := by rw [tl_dot, hd]; exact idx_at a _ (hn a (by simp))
    have hlen : s.size = a.length + ((dots (b :: r)).length + 1) := by rw [hl, hd, List.length_append, List.length_cons]
    have hds : DOT.size = 1 := rfl
    have ih := dsplit_ev (b :: r) (s.extract (a.length + 1) s.size) (acc ++ [s.extract 0 a.length]) (by simp) (fun p hp => hn p (by simp only [List.mem_cons] at hp ⊢; exact .inr hp)) (by
      rw [extract_self, hd, show a ++ 46 :: dots (b :: r) = (a ++ [46]) ++ dots (b :: r) by simp, List.drop_left' (by simp)])
      (by rw [size_extract _ _ _ (by omega) (by omega)]; omega) (by simp at hb ⊢; omega)
    have e : s.extract 0 a.length = ba a := ext_eq (by rw [tl_ba, extract_upto, hd, List.take_left' rfl])
    refine Ev.step (f := fun k => (semver_zzIndex.f k s DOT).bind fun t => _) (fun k => by simp only [semver_zzSplit.l0]; rfl) ?_
    refine Ev.andThen (zz_ev s DOT hz (by decide)) ?_
    rw [hx, show at_ 0 (some a.length) = ((a.length + 0 : Nat) : Int) from rfl, Nat.add_zero, hds, wadd _ _ (by omega), Int.toNat_natCast, Int.toNat_natCast]
    refine Ev.neg (by omega) (Ev.pos (by omega) (Ev.pos (by omega) (Ev.pos (by simp at hb; omega) (Ev.pos (by omega) (Ev.pos (by omega) ?_)))))
    have e2 : acc ++ (a :: b :: r).map ba = (acc ++ [s.extract 0 a.length]) ++ (b :: r).map ba := by rw [e]; simp
    rw [e2]
    exact ih
/-- The split of parts: the parts. -/
theorem split_dots {ps : List (List UInt8)} (h : PartsOk ps) (hz : (dots ps).length ≤ 1000) : Ev (fun k => semver_zzSplit.f k (ba (dots ps)) DOT) (ps.map ba) := by
  have hlen : ∀ qs : List (List UInt8), (∀ p ∈ qs, p ≠ []) → qs.length ≤ (dots qs).length := by
    intro qs
    induction qs with
    | nil => simp
    | cons a r ih =>
      intro hq
      have ha := List.length_pos_iff.2 (hq a (by simp))
      have := ih fun p hp => hq p (by simp [hp])
      cases r with
      | nil => simp [dots]; omega
      | cons b r => simp only [dots, List.length_append, List.length_cons] at this ⊢; omega
  have := hlen ps fun p hp => (h.2 p hp).1
  have := dsplit_ev ps (ba (dots ps)) [] h.1 (fun p hp => no46 (h.2 p hp).2) (tl_ba _) (by rw [ba_size]; exact hz) (by simp; omega)
  simpa [semver_zzSplit.f] using this
end Go.Proofs.YtoebognfkigooaaGreatDoor.Sv
