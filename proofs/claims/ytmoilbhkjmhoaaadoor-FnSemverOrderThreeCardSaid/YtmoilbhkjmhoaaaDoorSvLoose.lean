/- Semantic versions: a version's text, what zzLoose makes of it. -/
import Derived.Test.YtmoilbhkjmhoaaaDoorSvScan
import Derived.WalkKit
import Derived.WalkLawsBesides
import Derived.WalkSpells
import Derived.Outline
import Derived.BigCall
import Derived.LoopN
import Derived.Lib.Hide
import Derived.OwnWalk
import Derived.IntWalk
namespace Go.Proofs.YtmoilbhkjmhoaaaDoor.Sv
open Go.RowKit Go.Proofs.YtmoilbhkjmhoaaaDoor.PFnSemverOrderThree Go.Proofs.YtmoilbhkjmhoaaaDoorW.PrintWords Go.Proofs.YtmoilbhkjmhoaaaDoor.Txt Go.Proofs.YtmoilbhkjmhoaaaDoor
set_option linter.unusedVariables false
set_option linter.unusedSimpArgs false
set_option maxRecDepth 20000

/-- A version's text: digits (the second and third may lack), parts behind a hyphen, parts behind a plus sign. -/
structure Tx where
  d1 : List UInt8
  d2 : List UInt8
  d3 : List UInt8
  ps : List (List UInt8)
  ms : List (List UInt8)
def sg (c : UInt8) (l : List UInt8) : List UInt8 := if l = [] then [] else c :: l
def Tx.pre (t : Tx) : List UInt8 := dots t.ps
def Tx.meta_ (t : Tx) : List UInt8 := dots t.ms
def Tx.text (t : Tx) : List UInt8 := t.d1 ++ (sg 46 t.d2 ++ (sg 46 t.d3 ++ (sg 45 t.pre ++ sg 43 t.meta_)))
structure Tx.Ok (t : Tx) : Prop where
  h1 : t.d1 ≠ []
  g1 : t.d1.all isDig = true
  g2 : t.d2.all isDig = true
  g3 : t.d3.all isDig = true
  h23 : t.d2 = [] → t.d3 = []
  hp : t.ps = [] ∨ PartsOk t.ps
  hm : t.ms = [] ∨ PartsOk t.ms
theorem dots_ne {ps : List (List UInt8)} (h : PartsOk ps) : dots ps ≠ [] := by
  obtain ⟨p, r, rfl⟩ : ∃ p r, ps = p :: r := by
    cases ps with
    | nil => exact absurd rfl h.1
    | cons p r => exact ⟨p, r, rfl⟩
  have := (h.2 p (by simp)).1
  rw [dots_cons]
  intro e
  exact this (List.append_eq_nil_iff.1 e).1
theorem sg_head {c : UInt8} {l b : List UInt8} {p : UInt8 → Bool} (hc : p c = false) (hb : b = [] ∨ ∃ x r, b = x :: r ∧ p x = false) : sg c l ++ b = [] ∨ ∃ x r, sg c l ++ b = x :: r ∧ p x = false := by
  unfold sg
  split
  · simpa using hb
  · exact .inr ⟨c, _, rfl, hc⟩
theorem sg_head1 {c : UInt8} {l : List UInt8} {p : UInt8 → Bool} (hc : p c = false) : sg c l = [] ∨ ∃ x r, sg c l = x :: r ∧ p x = false := by
  have := sg_head (l := l) (b := []) hc (.inl rfl)
  simpa using this
/-- The places where the parts end. -/
structure Cuts (v : ByteArray) (b2 b3 bp bm : Bool) (p1 p2 p3 p4 : Nat) : Prop where
  h1 : 0 < p1
  h12 : p1 ≤ p2
  h23 : p2 ≤ p3
  h34 : p3 ≤ p4
  h45 : p4 ≤ v.size
  c0 : ∀ h : 0 < v.size, (v[0]'h).toNat ≠ 118
  e1 : Ev (fun k => semver_zzDigits.f k v 0) (p1 : Int)
  two : b2 = true → ∃ h : p1 < v.size, (v[p1]'h).toNat = 46 ∧ p1 + 1 < p2 ∧ Ev (fun k => semver_zzDigits.f k v ((p1 + 1 : Nat) : Int)) (p2 : Int)
  notwo : b2 = false → p2 = p1 ∧ ∀ h : p1 < v.size, (v[p1]'h).toNat ≠ 46
  three : b3 = true → ∃ h : p2 < v.size, (v[p2]'h).toNat = 46 ∧ p2 + 1 < p3 ∧ Ev (fun k => semver_zzDigits.f k v ((p2 + 1 : Nat) : Int)) (p3 : Int)
  nothree : b3 = false → p3 = p2 ∧ ∀ h : p2 < v.size, (v[p2]'h).toNat ≠ 46
  e4 : Ev (fun k => semver_zzParts.f k v (p3 : Int) 45) (p4 : Int)
  pp : if bp then p3 < p4 else p4 = p3
  e5 : Ev (fun k => semver_zzParts.f k v (p4 : Int) 43) (v.size : Int)
  pm : if bm then p4 < v.size else p4 = v.size
theorem at_pos {v : ByteArray} {a r : List UInt8} {x : UInt8} (h : v.toList = a ++ x :: r) : ∃ hh : a.length < v.size, (v[a.length]'hh) = x := by
  have hl := len_eq v
  have hlt : a.length < v.toList.length := by rw [h]; simp
  refine ⟨by omega, ?_⟩
  have h1 : v.toList[a.length] = x := by
    have : v.toList[a.length]? = some x := by rw [h]; simp
    rw [List.getElem?_eq_getElem hlt] at this
    exact Option.some.inj this
  rw [← h1]
  have e : v.toList = v.data.toList := Lib.toList_data v
  simp only [e]
  rfl
/-- What stands at a place, if something does. -/
theorem at_head {v : ByteArray} {a b : List UInt8} (h : v.toList = a ++ b) {n : Nat} (hb : b = [] ∨ ∃ x r, b = x :: r ∧ x.toNat ≠ n) : ∀ hh : a.length < v.size, (v[a.length]'hh).toNat ≠ n := by
  intro hh
  rcases hb with rfl | ⟨x, r, rfl, hx⟩
  · have := len_eq v
    rw [h] at this
    simp at this
    omega
  · obtain ⟨h', e⟩ := at_pos h
    rw [e]
    exact hx
theorem head_ne {p : UInt8 → Bool} {b : List UInt8} {n : Nat} (hp : ∀ x : UInt8, p x = false → x.toNat ≠ n) (hb : b = [] ∨ ∃ x r, b = x :: r ∧ p x = false) : b = [] ∨ ∃ x r, b = x :: r ∧ x.toNat ≠ n := by
  rcases hb with h | ⟨x, r, h, hx⟩
  · exact .inl h
  · exact .inr ⟨x, r, h, hp x hx⟩
/-- The places of a version's text. -/
theorem cuts_of (t : Tx) (h : t.Ok) (v : ByteArray) (hv : v.toList = t.text) (hs : v.size ≤ 1000) : Cuts v (decide (t.d2 ≠ [])) (decide (t.d3 ≠ [])) (decide (t.ps ≠ [])) (decide (t.ms ≠ []))
    t.d1.length (t.d1.length + (sg 46 t.d2).length) (t.d1.length + (sg 46 t.d2).length + (sg 46 t.d3).length) (t.d1.length + (sg 46 t.d2).length + (sg 46 t.d3).length + (sg 45 t.pre).length) := by
  obtain ⟨h1, g1, g2, g3, h23, hp, hm⟩ := h
  have hl := len_eq v
  have hl1 := List.length_pos_iff.2 h1
  have hsz : v.size = t.d1.length + (sg 46 t.d2).length + (sg 46 t.d3).length + (sg 45 t.pre).length + (sg 43 t.meta_).length := by
    rw [hl, hv]; unfold Tx.text; simp only [List.length_append]; omega
  have e0 : v.toList = [] ++ t.d1 ++ (sg 46 t.d2 ++ (sg 46 t.d3 ++ (sg 45 t.pre ++ sg 43 t.meta_))) := by rw [hv]; rfl
  have e1 : v.toList = t.d1 ++ (sg 46 t.d2 ++ (sg 46 t.d3 ++ (sg 45 t.pre ++ sg 43 t.meta_))) := hv
  have e2 : v.toList = (t.d1 ++ sg 46 t.d2) ++ (sg 46 t.d3 ++ (sg 45 t.pre ++ sg 43 t.meta_)) := by rw [hv]; unfold Tx.text; simp
  have e3 : v.toList = (t.d1 ++ sg 46 t.d2 ++ sg 46 t.d3) ++ (sg 45 t.pre ++ sg 43 t.meta_) := by rw [hv]; unfold Tx.text; simp
  have e4 : v.toList = (t.d1 ++ sg 46 t.d2 ++ sg 46 t.d3 ++ sg 45 t.pre) ++ sg 43 t.meta_ := by rw [hv]; unfold Tx.text; simp
  have s4 : sg 43 t.meta_ = [] ∨ ∃ x r, sg 43 t.meta_ = x :: r ∧ isDig x = false := sg_head1 (by decide)
  have s3 : sg 45 t.pre ++ sg 43 t.meta_ = [] ∨ ∃ x r, sg 45 t.pre ++ sg 43 t.meta_ = x :: r ∧ isDig x = false := sg_head (by decide) s4
  have s2 := sg_head (c := 46) (l := t.d3) (p := isDig) (by decide) s3
  have s1 := sg_head (c := 46) (l := t.d2) (p := isDig) (by decide) s2
  have p4 : sg 43 t.meta_ = [] ∨ ∃ x r, sg 43 t.meta_ = x :: r ∧ (fun x => decide (x.toNat = 46)) x = false := sg_head1 (by decide)
  have p3 : sg 45 t.pre ++ sg 43 t.meta_ = [] ∨ ∃ x r, sg 45 t.pre ++ sg 43 t.meta_ = x :: r ∧ (fun x => decide (x.toNat = 46)) x = false := sg_head (by decide) p4
  have f46 : ∀ x : UInt8, (fun x : UInt8 => decide (x.toNat = 46)) x = false → x.toNat ≠ 46 := fun x h => by simpa using h
  have q4 : sg 43 t.meta_ = [] ∨ ∃ x r, sg 43 t.meta_ = x :: r ∧ (fun x => decide (x.toNat = 45)) x = false := sg_head1 (by decide)
  have f45 : ∀ x : UInt8, (fun x : UInt8 => decide (x.toNat = 45)) x = false → x.toNat ≠ 45 := fun x h => by simpa using h
  have cons_sg : ∀ (c : UInt8) {l : List UInt8}, l ≠ [] → sg c l = c :: l := fun c {l} h => by unfold sg; rw [if_neg h]
  have nil_sg : ∀ (c : UInt8) {l : List UInt8}, l = [] → sg c l = [] := fun c {l} h => by unfold sg; rw [if_pos h]
  refine ⟨hl1, by omega, by omega, by omega, by omega, ?_, ?_, ?_, ?_, ?_, ?_, ?_, ?_, ?_, ?_⟩
  · intro h0
    obtain ⟨x, r, hx⟩ : ∃ x r, t.d1 = x :: r := by
      cases hd : t.d1 with
      | nil => exact absurd hd h1
      | cons x r => exact ⟨x, r, rfl⟩
    have ex : v.toList = [] ++ x :: (r ++ (sg 46 t.d2 ++ (sg 46 t.d3 ++ (sg 45 t.pre ++ sg 43 t.meta_)))) := by rw [e1, hx]; rfl
    obtain ⟨hh, e⟩ := at_pos ex
    have hx2 : isDig x = true := by rw [hx] at g1; simp only [List.all_cons, Bool.and_eq_true] at g1; exact g1.1
    simp only [isDig, Bool.and_eq_true, decide_eq_true_eq] at hx2
    have e' : v[0] = x := e
    rw [e']
    omega
  · have := digits_ev v hs _ 0 rfl (Nat.zero_le _)
    rw [e0] at this
    have hsc := scan_app (p := isDig) [] (b := t.d1) g1 s1
    simp only [List.length_nil, Nat.zero_add] at hsc
    rw [hsc] at this
    exact this
  · intro hb
    have hd2 : t.d2 ≠ [] := by simpa using hb
    have hl2 := List.length_pos_iff.2 hd2
    rw [cons_sg 46 hd2] at e1 ⊢
    obtain ⟨hh, e⟩ := at_pos (v := v) (a := t.d1) (x := 46) (r := t.d2 ++ (sg 46 t.d3 ++ (sg 45 t.pre ++ sg 43 t.meta_))) (by rw [e1]; rfl)
    refine ⟨hh, by rw [e]; rfl, by simp; omega, ?_⟩
    have := digits_ev v hs _ (t.d1.length + 1) rfl (by omega)
    have ex : v.toList = (t.d1 ++ [46]) ++ t.d2 ++ (sg 46 t.d3 ++ (sg 45 t.pre ++ sg 43 t.meta_)) := by rw [e1]; simp
    rw [ex] at this
    have hsc := scan_app (p := isDig) (t.d1 ++ [46]) (b := t.d2) g2 s2
    rw [show (t.d1 ++ [46] : List UInt8).length = t.d1.length + 1 by simp] at hsc
    rw [hsc] at this
    rw [show t.d1.length + (46 :: t.d2).length = t.d1.length + 1 + t.d2.length by simp; omega]
    exact this
  · intro hb
    have hd2 : t.d2 = [] := by simpa using hb
    rw [nil_sg 46 hd2, nil_sg 46 (h23 hd2)] at e1
    refine ⟨by rw [nil_sg 46 hd2]; rfl, ?_⟩
    exact at_head (by rw [e1]; rfl) (head_ne f46 p3)
  · intro hb
    have hd3 : t.d3 ≠ [] := by simpa using hb
    have hl3 := List.length_pos_iff.2 hd3
    rw [cons_sg 46 hd3] at e2 ⊢
    obtain ⟨hh, e⟩ := at_pos (v := v) (a := t.d1 ++ sg 46 t.d2) (x := 46) (r := t.d3 ++ (sg 45 t.pre ++ sg 43 t.meta_)) (by rw [e2]; rfl)
    rw [List.length_append] at hh
    refine ⟨hh, ?_, by simp; omega, ?_⟩
    · simp only [List.length_append] at e
      rw [e]; rfl
    · have := digits_ev v hs _ (t.d1.length + (sg 46 t.d2).length + 1) rfl (by omega)
      have ex : v.toList = (t.d1 ++ sg 46 t.d2 ++ [46]) ++ t.d3 ++ (sg 45 t.pre ++ sg 43 t.meta_) := by rw [e2]; simp
      rw [ex] at this
      have hsc := scan_app (p := isDig) (t.d1 ++ sg 46 t.d2 ++ [46]) (b := t.d3) g3 s3
      rw [show (t.d1 ++ sg 46 t.d2 ++ [46] : List UInt8).length = t.d1.length + (sg 46 t.d2).length + 1 by simp; omega] at hsc
      rw [hsc] at this
      rw [show t.d1.length + (sg 46 t.d2).length + (46 :: t.d3).length = t.d1.length + (sg 46 t.d2).length + 1 + t.d3.length by simp; omega]
      exact this
  · intro hb
    have hd3 : t.d3 = [] := by simpa using hb
    rw [nil_sg 46 hd3] at e2
    refine ⟨by rw [nil_sg 46 hd3]; rfl, ?_⟩
    have := at_head (a := t.d1 ++ sg 46 t.d2) (by rw [e2]; rfl) (head_ne f46 p3)
    simp only [List.length_append] at this
    exact this
  · have hlen : (t.d1 ++ sg 46 t.d2 ++ sg 46 t.d3).length = t.d1.length + (sg 46 t.d2).length + (sg 46 t.d3).length := by simp only [List.length_append]
    by_cases hps : t.ps = []
    · have hpre : t.pre = [] := by unfold Tx.pre; rw [hps]; rfl
      rw [nil_sg 45 hpre] at e3 ⊢
      have := parts_none v hs (t.d1.length + (sg 46 t.d2).length + (sg 46 t.d3).length) 45 (by omega) (fun hh => by
        have h2 := at_head (a := t.d1 ++ sg 46 t.d2 ++ sg 46 t.d3) (by rw [e3]; rfl) (head_ne f45 q4)
        rw [hlen] at h2
        have h3 := h2 (by omega)
        have e : v.toList = v.data.toList := Lib.toList_data v
        simp only [e]
        exact h3)
      exact this
    · have hpo := hp.resolve_left hps
      have hpre : t.pre ≠ [] := dots_ne hpo
      rw [cons_sg 45 hpre] at e3 ⊢
      have := parts_dots v hs (t.d1 ++ sg 46 t.d2 ++ sg 46 t.d3) (sg 43 t.meta_) 45 t.ps hpo (by rw [e3]; unfold Tx.pre; simp) (by
        unfold sg; split
        · exact .inl rfl
        · exact .inr ⟨43, _, rfl, by decide, by decide⟩)
      rw [hlen] at this
      rw [show t.d1.length + (sg 46 t.d2).length + (sg 46 t.d3).length + (45 :: t.pre).length = t.d1.length + (sg 46 t.d2).length + (sg 46 t.d3).length + 1 + t.pre.length by simp; omega]
      exact this
  · by_cases hps : t.ps = []
    · have hpre : t.pre = [] := by unfold Tx.pre; rw [hps]; rfl
      rw [nil_sg 45 hpre, if_neg (by simp [hps])]; rfl
    · have hpre : t.pre ≠ [] := dots_ne (hp.resolve_left hps)
      rw [cons_sg 45 hpre, if_pos (by simp [hps])]; simp
  · have hlen : (t.d1 ++ sg 46 t.d2 ++ sg 46 t.d3 ++ sg 45 t.pre).length = t.d1.length + (sg 46 t.d2).length + (sg 46 t.d3).length + (sg 45 t.pre).length := by simp only [List.length_append]
    by_cases hms : t.ms = []
    · have hmt : t.meta_ = [] := by unfold Tx.meta_; rw [hms]; rfl
      rw [nil_sg 43 hmt] at hsz
      simp only [List.length_nil, Nat.add_zero] at hsz
      rw [← hsz]
      exact parts_none v hs v.size 43 (Nat.le_refl _) (fun hh => absurd hh (by omega))
    · have hpo := hm.resolve_left hms
      have hmt : t.meta_ ≠ [] := dots_ne hpo
      rw [cons_sg 43 hmt] at e4 hsz
      have := parts_dots v hs (t.d1 ++ sg 46 t.d2 ++ sg 46 t.d3 ++ sg 45 t.pre) [] 43 t.ms hpo (by rw [e4]; unfold Tx.meta_; simp) (.inl rfl)
      rw [hlen] at this
      rw [show v.size = t.d1.length + (sg 46 t.d2).length + (sg 46 t.d3).length + (sg 45 t.pre).length + 1 + (dots t.ms).length by rw [hsz]; unfold Tx.meta_; simp; omega]
      exact this
  · by_cases hms : t.ms = []
    · have hmt : t.meta_ = [] := by unfold Tx.meta_; rw [hms]; rfl
      rw [nil_sg 43 hmt] at hsz
      rw [if_neg (by simp [hms])]
      simpa using hsz.symm
    · have hmt : t.meta_ ≠ [] := dots_ne (hm.resolve_left hms)
      rw [cons_sg 43 hmt] at hsz
      rw [if_pos (by simp [hms])]
      simp at hsz
      omega
end Go.Proofs.YtmoilbhkjmhoaaaDoor.Sv
