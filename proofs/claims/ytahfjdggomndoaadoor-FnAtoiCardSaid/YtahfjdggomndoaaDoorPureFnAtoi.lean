/- FnAtoi, as a plain statement: the number that a text says, 0 of letters. -/
import Derived.Test.YtahfjdggomndoaaDoorPFnAtoix1
import Derived.Test.YtahfjdggomndoaaDoorTxt
namespace Go.Proofs.YtahfjdggomndoaaDoor.Pure
open Go.RowKit Go.Proofs.YtahfjdggomndoaaDoor.PFnAtoi Go.Proofs.YtahfjdggomndoaaDoorW.PrintWords Go.Proofs.YtahfjdggomndoaaDoorW.PrintLast Go.Proofs.YtahfjdggomndoaaDoor.Txt Go.Proofs.YtahfjdggomndoaaDoor

def digB (c : UInt8) : Bool := decide (48 ≤ c.toNat) && decide (c.toNat ≤ 57)
/-- What the reference asks of the digits d of a text s. -/
def resI (s d : List UInt8) : Bool := d.all digB && (decide (0 < d.length) && (decide (d.length ≤ 15) && (if (d.getD 0 0).toNat = 48 then s == [48] else true)))
theorem l0_ev (s d : ByteArray) (hd : d.size ≤ 2147483647) : Ev (fun k => spec_IsInteger.l0 k s d 0) (resI s.toList d.toList) := by
  have hl := len_eq d
  have key : ∀ (m i : Nat), d.toList.length - i = m → i ≤ d.toList.length → Ev (fun k => spec_IsInteger.l0 k s d (i : Int)) ((d.toList.drop i).all digB && (decide (0 < d.toList.length) && (decide (d.toList.length ≤ 15) && (if (d.toList.getD 0 0).toNat = 48 then s.toList == [48] else true)))) := by
    intro m
    induction m with
    | zero =>
      intro i hm hi
      rw [List.drop_eq_nil_of_le (by omega), List.all_nil, Bool.true_and]
      by_cases h0 : 0 < d.toList.length
      · rw [decide_eq_true h0, Bool.true_and]
        by_cases h15 : d.toList.length ≤ 15
        · rw [decide_eq_true h15, Bool.true_and]
          have hb := bt_getD d 0
          refine Ev.step (f := fun _ => some (if (d.toList.getD 0 0).toNat = 48 then s.toList == [48] else true)) (fun k => ?_) (Ev.now _)
          simp only [spec_IsInteger.l0]
          rw [if_neg (by omega), if_pos (by omega), if_pos (by omega), if_pos (by omega), hb]
          show (if ((d.toList.getD 0 0).toNat : Int) = 48 then _ else _) = _
          by_cases h48 : (d.toList.getD 0 0).toNat = 48
          · rw [if_pos (by omega), if_pos h48]
          · rw [if_neg (by omega), if_neg h48]
        · rw [decide_eq_false h15, Bool.false_and]
          refine Ev.step (f := fun _ => some false) (fun k => ?_) (Ev.now _)
          simp only [spec_IsInteger.l0]
          rw [if_neg (by omega), if_pos (by omega), if_neg (by omega)]
      · rw [decide_eq_false h0, Bool.false_and]
        refine Ev.step (f := fun _ => some false) (fun k => ?_) (Ev.now _)
        simp only [spec_IsInteger.l0]
        rw [if_neg (by omega), if_neg (by omega)]
    | succ m ih =>
      intro i hm hi
      have hlt : i < d.toList.length := by omega
      have e : d.toList.drop i = d.toList[i] :: d.toList.drop (i + 1) := List.drop_eq_getElem_cons hlt
      have hb := bt_get d (i : Int) (by simpa using hlt)
      simp only [Int.toNat_natCast] at hb
      by_cases h1 : 48 ≤ d.toList[i].toNat
      · by_cases h2 : d.toList[i].toNat ≤ 57
        · have e2 : (d.toList.drop i).all digB = (d.toList.drop (i + 1)).all digB := by rw [e, List.all_cons]; unfold digB; rw [decide_eq_true h1, decide_eq_true h2]; rfl
          rw [e2]
          refine Ev.step (f := fun k => spec_IsInteger.l0 k s d ((i + 1 : Nat) : Int)) (fun k => ?_) (ih (i + 1) (by omega) (by omega))
          simp only [spec_IsInteger.l0]; rw [if_pos (by omega), if_pos (by omega), if_neg (by rw [hb]; omega), if_neg (by rw [hb]; omega), w64 (by omega) (by omega)]; rfl
        · have e2 : (d.toList.drop i).all digB = false := by rw [e, List.all_cons]; unfold digB; rw [decide_eq_true h1, decide_eq_false h2]; rfl
          rw [e2, Bool.false_and]
          refine Ev.step (f := fun _ => some false) (fun k => ?_) (Ev.now _)
          simp only [spec_IsInteger.l0]; rw [if_pos (by omega), if_pos (by omega), if_neg (by rw [hb]; omega), if_pos (by rw [hb]; omega)]
      · have e2 : (d.toList.drop i).all digB = false := by rw [e, List.all_cons]; unfold digB; rw [decide_eq_false h1]; rfl
        rw [e2, Bool.false_and]
        refine Ev.step (f := fun _ => some false) (fun k => ?_) (Ev.now _)
        simp only [spec_IsInteger.l0]; rw [if_pos (by omega), if_pos (by omega), if_pos (by rw [hb]; omega)]
  exact key _ 0 rfl (Nat.zero_le _)
/-- The digits of a text. -/
def digs : List UInt8 → List UInt8
  | [] => []
  | c :: t => if c.toNat = 45 then t else c :: t
theorem digs_cons (c : UInt8) (t : List UInt8) : digs (c :: t) = if c.toNat = 45 then t else c :: t := rfl
theorem isint_ev (s : ByteArray) (hs : s.size ≤ 2147483647) : Ev (fun k => spec_IsInteger.f k s) (resI s.toList (digs s.toList)) := by
  have hl := len_eq s
  unfold spec_IsInteger.f
  cases h : s.toList with
  | nil =>
    rw [h, List.length_nil] at hl
    refine Ev.neg (by omega) ?_
    refine Ev.step (f := fun k => spec_IsInteger.j1 k s s) (fun k => by simp only [spec_IsInteger.j0]; rfl) ?_
    refine Ev.step (f := fun k => spec_IsInteger.l0 k s s 0) (fun k => by simp only [spec_IsInteger.j1]) ?_
    have := l0_ev s s hs
    rw [h] at this
    exact this
  | cons c t =>
    rw [h, List.length_cons] at hl
    refine Ev.pos (by omega) (Ev.pos (by omega) ?_)
    have hb := bt_get s 0 (by rw [h]; simp)
    have hb0 : bt s 0 = (c.toNat : Int) := by rw [hb]; simp [h]
    rw [hb0]
    by_cases h45 : c.toNat = 45
    · have hx : (s.extract 1 s.size).toList = t := by rw [extract_self, h]; rfl
      have e : ((c.toNat : Int) == 45) = true := by rw [h45]; rfl
      rw [e]
      refine Ev.step (f := fun k => spec_IsInteger.j1 k s (s.extract 1 s.size)) (fun k => by simp only [spec_IsInteger.j0]; rw [if_pos trivial, if_pos (by omega)]) ?_
      refine Ev.step (f := fun k => spec_IsInteger.l0 k s (s.extract 1 s.size) 0) (fun k => by simp only [spec_IsInteger.j1]) ?_
      have := l0_ev s (s.extract 1 s.size) (by rw [size_extract _ _ _ (by omega) (Nat.le_refl _)]; omega)
      rw [hx, h] at this
      rw [digs_cons, if_pos h45]
      exact this
    · have e : ((c.toNat : Int) == 45) = false := beq_eq_false_iff_ne.2 (by omega)
      rw [e]
      refine Ev.step (f := fun k => spec_IsInteger.j1 k s s) (fun k => by simp only [spec_IsInteger.j0]; rfl) ?_
      refine Ev.step (f := fun k => spec_IsInteger.l0 k s s 0) (fun k => by simp only [spec_IsInteger.j1]) ?_
      have := l0_ev s s hs
      rw [h] at this
      rw [digs_cons, if_neg h45]
      exact this
/-- Digits, at most 15, as both ways of reading tell them. -/
theorem mag_ok : ∀ (l : List UInt8) (acc k : Nat), l.all digB = true → acc < 10 ^ k → k + l.length ≤ 15 → ∃ u, u < 1000000000000000 ∧ Lib.parseUint10 acc l = .ok u ∧ Lib.parseUintM (2 ^ 64 - 1) acc l = .ok u := by
  intro l
  induction l with
  | nil =>
    intro acc k _ ha hk
    have : 10 ^ k ≤ 10 ^ 15 := Nat.pow_le_pow_right (by omega) (by simpa using hk)
    exact ⟨acc, by omega, rfl, rfl⟩
  | cons c t ih =>
    intro acc k hall ha hk
    simp only [List.all_cons, Bool.and_eq_true] at hall
    have hc := hall.1
    unfold digB at hc
    simp only [Bool.and_eq_true, decide_eq_true_eq] at hc
    have hp : 10 ^ (k + 1) ≤ 10 ^ 15 := Nat.pow_le_pow_right (by omega) (by rw [List.length_cons] at hk; omega)
    have hs : 10 ^ (k + 1) = 10 ^ k * 10 := Nat.pow_succ ..
    obtain ⟨u, h1, h2, h3⟩ := ih (acc * 10 + (c.toNat - 48)) (k + 1) hall.2 (by omega) (by rw [List.length_cons] at hk; omega)
    refine ⟨u, h1, ?_, ?_⟩
    · rw [Lib.parseUint10, if_pos hc, if_neg (by omega), if_neg (by omega)]; exact h2
    · rw [Lib.parseUintM, if_pos hc, if_neg (by omega), if_neg (by omega)]; exact h3
theorem both (s : ByteArray) (h : resI s.toList (digs s.toList) = true) : ∃ v, Giv.atoiF s = some v ∧ Giv.intF s = some v := by
  unfold resI at h
  simp only [Bool.and_eq_true, decide_eq_true_eq] at h
  obtain ⟨hall, hpos, h15, -⟩ := h
  obtain ⟨u, hu, m1, m2⟩ := mag_ok (digs s.toList) 0 0 hall (by decide) (by omega)
  have hne : digs s.toList ≠ [] := by intro e; rw [e] at hpos; simp at hpos
  have p1 : Lib.parseMag (digs s.toList) = .ok u := by unfold Lib.parseMag; rw [if_neg hne]; exact m1
  have p2 : Lib.parseUintB 64 (digs s.toList) = .ok u := by unfold Lib.parseUintB; rw [if_neg hne]; exact m2
  unfold Giv.atoiF Giv.intF
  cases hl : s.toList with
  | nil => rw [hl] at hpos; simp [digs] at hpos
  | cons c t =>
    rw [hl, digs_cons] at p1 p2 hall
    by_cases h45 : c.toNat = 45
    · rw [if_pos h45] at p1 p2
      refine ⟨-(u : Int), ?_, ?_⟩
      · have : Lib.atoiAll (c :: t) = .ok (-(u : Int)) := by
          simp only [Lib.atoiAll]
          rw [if_pos (.inr h45), p1]
          simp only
          rw [if_neg (fun h => h.1 h45), if_neg (fun h => by omega), if_pos h45]
        rw [this]
      · have : Lib.parseIntB 64 (c :: t) = .ok (-(u : Int)) := by
          simp only [Lib.parseIntB]
          rw [if_pos (.inr h45), p2]
          simp only
          rw [if_neg (fun h => h.1 h45), if_neg (fun h => by have := h.2; omega), if_pos h45]
        rw [this]
    · rw [if_neg h45] at p1 p2 hall
      simp only [List.all_cons, Bool.and_eq_true] at hall
      have hc := hall.1
      unfold digB at hc
      simp only [Bool.and_eq_true, decide_eq_true_eq] at hc
      have hn : ¬ (c.toNat = 43 ∨ c.toNat = 45) := by omega
      refine ⟨(u : Int), ?_, ?_⟩
      · have : Lib.atoiAll (c :: t) = .ok (u : Int) := by
          simp only [Lib.atoiAll]
          rw [if_neg hn, p1]
          simp only
          rw [if_neg (fun h => by omega), if_neg (fun h => h45 h.1), if_neg h45]
        rw [this]
      · have : Lib.parseIntB 64 (c :: t) = .ok (u : Int) := by
          simp only [Lib.parseIntB]
          rw [if_neg hn, p2]
          simp only
          rw [if_neg (fun h => by have := h.2; omega), if_neg (fun h => h45 h.1), if_neg h45]
        rw [this]
def letB (c : UInt8) : Bool := decide (97 ≤ c.toNat) && decide (c.toNat ≤ 122)
theorem letters (s : ByteArray) (h : s.toList.all letB = true) : Giv.atoiF s = some 0 := by
  have : Lib.atoiAll s.toList = Lib.NumEnd.ofOption none := by
    cases hl : s.toList with
    | nil => rfl
    | cons c t =>
      rw [hl] at h
      simp only [List.all_cons, Bool.and_eq_true] at h
      have hc := h.1
      unfold letB at hc
      simp only [Bool.and_eq_true, decide_eq_true_eq] at hc
      have hm : Lib.parseMag (c :: t) = Lib.NumEnd.ofOption none := by
        unfold Lib.parseMag
        rw [if_neg (by simp), Lib.parseUint10, if_neg (by omega)]
        rfl
      simp only [Lib.atoiAll]
      rw [if_neg (by omega), hm]
      rfl
  unfold Giv.atoiF
  rw [this]
  rfl
theorem atoi_f (s : ByteArray) (v : Int) (hs : s.size ≤ 2147483647) (h : Giv.atoiF s = some v) : impl_Atoi.f s = some v := by
  unfold impl_Atoi.f sprig_Atoi.f Giv.sprig_atoi.f
  rw [if_pos (by omega), h]; rfl
theorem atoi_7 : impl_Atoi.f (⟨#[55]⟩ : ByteArray) = some 7 := by
  refine atoi_f _ 7 (by decide) ?_
  unfold Giv.atoiF
  rw [show (⟨#[55]⟩ : ByteArray).toList = [55] from tl_mk [55]]
  rfl
theorem let_ev (s : ByteArray) (hs : s.size ≤ 2147483647) : Ev (fun k => laws_FnAtoi.l0 k s 0) true := by
  have hl := len_eq s
  have key : ∀ (m i : Nat), s.toList.length - i = m → i ≤ s.toList.length → (s.toList.take i).all letB = true → Ev (fun k => laws_FnAtoi.l0 k s (i : Int)) true := by
    intro m
    induction m with
    | zero =>
      intro i hm hi ha
      rw [List.take_of_length_le (by omega)] at ha
      refine Ev.step (f := fun k => (impl_Atoi.f s).bind fun t141 => (if t141 = 0 then ((impl_Atoi.f (⟨#[55]⟩ : ByteArray)).bind fun t142 => (some (t142 == 7))) else (some false))) (fun k => ?_) ?_
      · simp only [laws_FnAtoi.l0]; rw [if_neg (by omega)]
      · exact Ev.thenC (atoi_f s 0 hs (letters s ha)) (Ev.pos rfl (Ev.thenC atoi_7 (Ev.const rfl)))
    | succ m ih =>
      intro i hm hi ha
      have hlt : i < s.toList.length := by omega
      have hb := bt_get s (i : Int) (by simpa using hlt)
      simp only [Int.toNat_natCast] at hb
      by_cases h1 : 97 ≤ s.toList[i].toNat
      · by_cases h2 : s.toList[i].toNat ≤ 122
        · refine Ev.step (f := fun k => laws_FnAtoi.l0 k s ((i + 1 : Nat) : Int)) (fun k => ?_) (ih (i + 1) (by omega) (by omega) ?_)
          · simp only [laws_FnAtoi.l0]; rw [if_pos (by omega), if_pos (by omega), if_neg (by rw [hb]; omega), if_neg (by rw [hb]; omega), w64 (by omega) (by omega)]; rfl
          · rw [List.take_succ_eq_append_getElem hlt, List.all_append, ha]
            simp only [List.all_cons, List.all_nil, Bool.and_true, Bool.true_and]
            unfold letB; rw [decide_eq_true h1, decide_eq_true h2]; rfl
        · refine Ev.step (f := fun _ => some true) (fun k => ?_) (Ev.now _)
          simp only [laws_FnAtoi.l0]; rw [if_pos (by omega), if_pos (by omega), if_neg (by rw [hb]; omega), if_pos (by rw [hb]; omega)]
      · refine Ev.step (f := fun _ => some true) (fun k => ?_) (Ev.now _)
        simp only [laws_FnAtoi.l0]; rw [if_pos (by omega), if_pos (by omega), if_pos (by rw [hb]; omega)]
  exact key _ 0 rfl (Nat.zero_le _) rfl

theorem FnAtoi : laws_FnAtoi.Pure := by
  intro s hs
  apply Ev.rounds
  unfold laws_FnAtoi.f
  by_cases h1 : (s.size : Int) > 2147483647
  · exact Ev.pos h1 (Ev.now _)
  have hz : s.size ≤ 2147483647 := by omega
  refine Ev.neg h1 (Ev.andThen (isint_ev s hz) ?_)
  cases hr : resI s.toList (digs s.toList) with
  | false => exact Ev.neg (by decide) (let_ev s hz)
  | true =>
    obtain ⟨v, v1, v2⟩ := both s hr
    have f2 : Giv.spec_Integer.f s = some v := by unfold Giv.spec_Integer.f; rw [if_pos (by omega), v2]
    exact Ev.pos rfl (Ev.thenC (atoi_f s v hz v1) (Ev.thenC f2 (Ev.pos rfl (Ev.thenC atoi_7 (Ev.const rfl)))))

end Go.Proofs.YtahfjdggomndoaaDoor.Pure
