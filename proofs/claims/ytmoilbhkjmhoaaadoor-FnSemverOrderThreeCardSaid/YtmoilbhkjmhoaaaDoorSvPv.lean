/- Semantic versions, plain: spec.ParseVersion and laws.version9. -/
import Derived.Test.YtmoilbhkjmhoaaaDoorSvParts
namespace Go.Proofs.YtmoilbhkjmhoaaaDoor.Sv
open Go.RowKit Go.Proofs.YtmoilbhkjmhoaaaDoor.PFnSemverOrderThree Go.Proofs.YtmoilbhkjmhoaaaDoorW.PrintWords Go.Proofs.YtmoilbhkjmhoaaaDoor.Txt Go.Proofs.YtmoilbhkjmhoaaaDoor
set_option linter.unusedVariables false
set_option linter.unusedSimpArgs false

abbrev PvR := Int × Int × Int × ByteArray × ByteArray × Bool
def noV : PvR := (0, 0, 0, (⟨#[]⟩ : ByteArray), (⟨#[]⟩ : ByteArray), false)
def Num9 (d : List UInt8) : Prop := d ≠ [] ∧ d.all isDig = true ∧ d.length ≤ 9
/-- What is behind the third number. -/
def Tail3 (x : List UInt8) (r4 : ByteArray) : Prop := ∃ ps, (ps = [] ∨ PartsOk ps) ∧ Strict true ps ∧ x = sg 45 (dots ps) ∧ r4.toList = dots ps
theorem first_byte {r : ByteArray} {n : Nat} (hn : n < 256) (h0 : 0 < r.size) (h : bt r 0 = (n : Int)) : r.toList = UInt8.ofNat n :: (r.extract 1 r.size).toList := by
  have hl := len_eq r
  have hlt : 0 < r.toList.length := by omega
  have hb := bt_nat r 0 hlt
  have e : (r.toList[0]).toNat = n := by
    have : ((r.toList[0]).toNat : Int) = (n : Int) := by rw [← h]; exact hb.symm
    omega
  have e2 : r.toList[0] = UInt8.ofNat n := by rw [← e]; exact UInt8.ofNat_toNat.symm
  have h2 := List.drop_eq_getElem_cons hlt
  rw [List.drop_zero] at h2
  rw [extract_self, ← e2]
  exact h2
theorem j2_no (x : ByteArray) (a b c : Int) (p q : ByteArray) : Ev (fun k => spec_ParseVersion.j2 k x true a b c p q) noV :=
  Ev.step (f := fun _ => some noV) (fun k => by simp only [spec_ParseVersion.j2]; rw [if_pos trivial]; rfl) (Ev.now _)
theorem j3_no (x : ByteArray) (a b c : Int) (p q : ByteArray) : Ev (fun k => spec_ParseVersion.j3 k x true a b c p q) noV :=
  Ev.step (f := fun _ => some noV) (fun k => by simp only [spec_ParseVersion.j3]; rw [if_pos trivial]; rfl) (Ev.now _)
/-- The third number, and what is behind it. -/
theorem third_ev (x : ByteArray) (hx : x.size ≤ 1000) (h0 : 0 < x.size) (a b : Int) (mt : ByteArray) : ∃ r : PvR, Ev (fun k => spec_ParseVersion.j3 k x false a b 0 ⟨#[]⟩ mt) r ∧
    (r.2.2.2.2.2 = true → ∃ d tl, Num9 d ∧ (x.extract 1 x.size).toList = d ++ tl ∧ Tail3 tl r.2.2.2.1 ∧ r.1 = a ∧ r.2.1 = b ∧ r.2.2.1 = (val 0 d : Int) ∧ r.2.2.2.2.1 = mt) := by
  have hy : (x.extract 1 x.size).size ≤ 1000 := by rw [size_extract _ _ _ (by omega) (Nat.le_refl _)]; omega
  obtain ⟨n, rest, ok, hev, hrs, hok⟩ := number_ev (x.extract 1 x.size) hy
  have hstep : ∀ k, spec_ParseVersion.j3 (k + 1) x false a b 0 ⟨#[]⟩ mt = (spec_number.f k (x.extract 1 x.size)).bind fun bt110 => (if bt110.2.2 = true then (if (bt110.2.1.size : Int) > 0 then (if 0 < (bt110.2.1.size : Int) then (if (bt bt110.2.1 0) = 45 then (if 1 ≤ (bt110.2.1.size : Int) then ((spec_parts.f k (bt110.2.1.extract 1 bt110.2.1.size) true).bind fun t113 => (if t113 = true then (some (a, b, bt110.1, bt110.2.1.extract 1 bt110.2.1.size, mt, true)) else (some noV))) else (none)) else (some noV)) else (none)) else (some (a, b, bt110.1, (⟨#[]⟩ : ByteArray), mt, true))) else (some noV)) := fun k => by
    simp only [spec_ParseVersion.j3]
    rw [if_neg (by simp), if_pos (by omega)]
    rfl
  cases ok with
  | false =>
    exact ⟨noV, Ev.step hstep (Ev.andThen hev (Ev.neg (by simp) (Ev.now _))), fun h => by cases h⟩
  | true =>
    obtain ⟨d, h1, h2, h3, h4, h5⟩ := hok rfl
    by_cases hz : rest.size = 0
    · refine ⟨(a, b, n, (⟨#[]⟩ : ByteArray), mt, true), Ev.step hstep (Ev.andThen hev (Ev.pos rfl (Ev.neg (by show ¬ ((rest.size : Int) > 0); omega) (Ev.now _)))), fun _ => ⟨d, rest.toList, ⟨h1, h2, h3⟩, h5, ?_, rfl, rfl, h4, rfl⟩⟩
      have : rest.toList = [] := List.eq_nil_of_length_eq_zero (by rw [← len_eq]; exact hz)
      rw [this]
      exact ⟨[], .inl rfl, fun _ p hp => by simp at hp, by simp [dots, sg], by rw [tl_nil]; rfl⟩
    · by_cases hb : bt rest 0 = 45
      · have hfb := first_byte (n := 45) (by decide) (by omega) hb
        obtain ⟨pb, hpe, hpt⟩ := parts_ev (rest.extract 1 rest.size) (by rw [size_extract _ _ _ (by omega) (Nat.le_refl _)]; omega) true
        cases pb with
        | false =>
          exact ⟨noV, Ev.step hstep (Ev.andThen hev (Ev.pos rfl (Ev.pos (by simp; omega) (Ev.pos (by simp; omega) (Ev.pos hb (Ev.pos (by simp; omega) (Ev.andThen hpe (Ev.neg (by simp) (Ev.now _))))))))), fun h => by cases h⟩
        | true =>
          refine ⟨(a, b, n, rest.extract 1 rest.size, mt, true), Ev.step hstep (Ev.andThen hev (Ev.pos rfl (Ev.pos (by simp; omega) (Ev.pos (by simp; omega) (Ev.pos hb (Ev.pos (by simp; omega) (Ev.andThen hpe (Ev.pos rfl (Ev.now _))))))))), fun _ => ⟨d, rest.toList, ⟨h1, h2, h3⟩, h5, ?_, rfl, rfl, h4, rfl⟩⟩
          obtain ⟨ps, q1, q2, q3⟩ := hpt rfl
          rw [List.drop_zero] at q2
          refine ⟨ps, .inr q1, q3, ?_, q2⟩
          unfold sg
          rw [if_neg (dots_ne q1), hfb, q2]; rfl
      · exact ⟨noV, Ev.step hstep (Ev.andThen hev (Ev.pos rfl (Ev.pos (by simp; omega) (Ev.pos (by simp; omega) (Ev.neg hb (Ev.now _)))))), fun h => by cases h⟩
/-- The second number, and what is behind it. -/
theorem second_ev (x : ByteArray) (hx : x.size ≤ 1000) (h0 : 0 < x.size) (a : Int) (mt : ByteArray) : ∃ r : PvR, Ev (fun k => spec_ParseVersion.j2 k x false a 0 0 ⟨#[]⟩ mt) r ∧
    (r.2.2.2.2.2 = true → ∃ d d' tl, Num9 d ∧ Num9 d' ∧ (x.extract 1 x.size).toList = d ++ 46 :: (d' ++ tl) ∧ Tail3 tl r.2.2.2.1 ∧ r.1 = a ∧ r.2.1 = (val 0 d : Int) ∧ r.2.2.1 = (val 0 d' : Int) ∧ r.2.2.2.2.1 = mt) := by
  have hyz : (x.extract 1 x.size).size ≤ 1000 := by rw [size_extract _ _ _ (by omega) (Nat.le_refl _)]; omega
  obtain ⟨n, rest, ok, hev, hrs, hok⟩ := number_ev (x.extract 1 x.size) hyz
  have hstep : ∀ k, spec_ParseVersion.j2 (k + 1) x false a 0 0 ⟨#[]⟩ mt = (spec_number.f k (x.extract 1 x.size)).bind fun bt107 => (if bt107.2.2 = true then (if (bt107.2.1.size : Int) = 0 then (spec_ParseVersion.j3 k bt107.2.1 true a bt107.1 0 ⟨#[]⟩ mt) else (if 0 < (bt107.2.1.size : Int) then (spec_ParseVersion.j3 k bt107.2.1 ((bt bt107.2.1 0) != 46) a bt107.1 0 ⟨#[]⟩ mt) else (none))) else (spec_ParseVersion.j3 k bt107.2.1 true a bt107.1 0 ⟨#[]⟩ mt)) := fun k => by
    simp only [spec_ParseVersion.j2]
    rw [if_neg (by simp), if_pos (by omega)]
  cases ok with
  | false => exact ⟨noV, Ev.step hstep (Ev.andThen hev (Ev.neg (by simp) (j3_no _ _ _ _ _ _))), fun h => by cases h⟩
  | true =>
    obtain ⟨d, h1, h2, h3, h4, h5⟩ := hok rfl
    by_cases hz : rest.size = 0
    · exact ⟨noV, Ev.step hstep (Ev.andThen hev (Ev.pos rfl (Ev.pos (by show ((rest.size : Int) = 0); omega) (j3_no _ _ _ _ _ _)))), fun h => by cases h⟩
    · by_cases hb : bt rest 0 = 46
      · have hfb := first_byte (n := 46) (by decide) (by omega) hb
        have hnb : (bt rest 0 != 46) = false := by rw [hb]; rfl
        obtain ⟨r, hr, hrt⟩ := third_ev rest (by omega) (by omega) a n mt
        refine ⟨r, Ev.step hstep (Ev.andThen hev (Ev.pos rfl (Ev.neg (by show ¬ ((rest.size : Int) = 0); omega) (Ev.pos (by show (0 < (rest.size : Int)); omega) ?_)))), fun h => ?_⟩
        · show Ev (fun k => spec_ParseVersion.j3 k rest (bt rest 0 != 46) a n 0 ⟨#[]⟩ mt) r
          rw [hnb]; exact hr
        · obtain ⟨d', tl, g1, g2, g3, g4, g5, g6, g7⟩ := hrt h
          exact ⟨d, d', tl, ⟨h1, h2, h3⟩, g1, by rw [h5, hfb, g2]; rfl, g3, g4, by rw [g5, h4], g6, g7⟩
      · have hnb : (bt rest 0 != 46) = true := by simpa [bne] using hb
        refine ⟨noV, Ev.step hstep (Ev.andThen hev (Ev.pos rfl (Ev.neg (by show ¬ ((rest.size : Int) = 0); omega) (Ev.pos (by show (0 < (rest.size : Int)); omega) ?_)))), fun h => by cases h⟩
        show Ev (fun k => spec_ParseVersion.j3 k rest (bt rest 0 != 46) a n 0 ⟨#[]⟩ mt) noV
        rw [hnb]; exact j3_no _ _ _ _ _ _
/-- The numbers, and what is behind them. -/
theorem first_ev (x : ByteArray) (hx : x.size ≤ 1000) (mt : ByteArray) : ∃ r : PvR, Ev (fun k => spec_ParseVersion.j1 k x 0 0 0 ⟨#[]⟩ mt) r ∧
    (r.2.2.2.2.2 = true → ∃ d1 d2 d3 tl, Num9 d1 ∧ Num9 d2 ∧ Num9 d3 ∧ x.toList = d1 ++ 46 :: (d2 ++ 46 :: (d3 ++ tl)) ∧ Tail3 tl r.2.2.2.1 ∧ r.1 = (val 0 d1 : Int) ∧ r.2.1 = (val 0 d2 : Int) ∧ r.2.2.1 = (val 0 d3 : Int) ∧ r.2.2.2.2.1 = mt) := by
  obtain ⟨n, rest, ok, hev, hrs, hok⟩ := number_ev x hx
  have hstep : ∀ k, spec_ParseVersion.j1 (k + 1) x 0 0 0 ⟨#[]⟩ mt = (spec_number.f k x).bind fun bt104 => (if bt104.2.2 = true then (if (bt104.2.1.size : Int) = 0 then (spec_ParseVersion.j2 k bt104.2.1 true bt104.1 0 0 ⟨#[]⟩ mt) else (if 0 < (bt104.2.1.size : Int) then (spec_ParseVersion.j2 k bt104.2.1 ((bt bt104.2.1 0) != 46) bt104.1 0 0 ⟨#[]⟩ mt) else (none))) else (spec_ParseVersion.j2 k bt104.2.1 true bt104.1 0 0 ⟨#[]⟩ mt)) := fun k => by
    simp only [spec_ParseVersion.j1]
  cases ok with
  | false => exact ⟨noV, Ev.step hstep (Ev.andThen hev (Ev.neg (by simp) (j2_no _ _ _ _ _ _))), fun h => by cases h⟩
  | true =>
    obtain ⟨d, h1, h2, h3, h4, h5⟩ := hok rfl
    by_cases hz : rest.size = 0
    · exact ⟨noV, Ev.step hstep (Ev.andThen hev (Ev.pos rfl (Ev.pos (by show ((rest.size : Int) = 0); omega) (j2_no _ _ _ _ _ _)))), fun h => by cases h⟩
    · by_cases hb : bt rest 0 = 46
      · have hfb := first_byte (n := 46) (by decide) (by omega) hb
        have hnb : (bt rest 0 != 46) = false := by rw [hb]; rfl
        obtain ⟨r, hr, hrt⟩ := second_ev rest (by omega) (by omega) n mt
        refine ⟨r, Ev.step hstep (Ev.andThen hev (Ev.pos rfl (Ev.neg (by show ¬ ((rest.size : Int) = 0); omega) (Ev.pos (by show (0 < (rest.size : Int)); omega) ?_)))), fun h => ?_⟩
        · show Ev (fun k => spec_ParseVersion.j2 k rest (bt rest 0 != 46) n 0 0 ⟨#[]⟩ mt) r
          rw [hnb]; exact hr
        · obtain ⟨d2, d3, tl, g1, g2, g3, g4, g5, g6, g7, g8⟩ := hrt h
          exact ⟨d, d2, d3, tl, ⟨h1, h2, h3⟩, g1, g2, by rw [h5, hfb, g3]; rfl, g4, by rw [g5, h4], g6, g7, g8⟩
      · have hnb : (bt rest 0 != 46) = true := by simpa [bne] using hb
        refine ⟨noV, Ev.step hstep (Ev.andThen hev (Ev.pos rfl (Ev.neg (by show ¬ ((rest.size : Int) = 0); omega) (Ev.pos (by show (0 < (rest.size : Int)); omega) ?_)))), fun h => by cases h⟩
        show Ev (fun k => spec_ParseVersion.j2 k rest (bt rest 0 != 46) n 0 0 ⟨#[]⟩ mt) noV
        rw [hnb]; exact j2_no _ _ _ _ _ _
end Go.Proofs.YtmoilbhkjmhoaaaDoor.Sv
