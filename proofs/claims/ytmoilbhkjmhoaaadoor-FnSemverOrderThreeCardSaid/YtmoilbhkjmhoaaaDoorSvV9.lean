/- Semantic versions, plain: laws.version9. -/
import Derived.Test.YtmoilbhkjmhoaaaDoorSvPv
namespace Go.Proofs.YtmoilbhkjmhoaaaDoor.Sv
open Go.RowKit Go.Proofs.YtmoilbhkjmhoaaaDoor.PFnSemverOrderThree Go.Proofs.YtmoilbhkjmhoaaaDoorW.PrintWords Go.Proofs.YtmoilbhkjmhoaaaDoor.Txt Go.Proofs.YtmoilbhkjmhoaaaDoor
set_option linter.unusedVariables false
set_option linter.unusedSimpArgs false

/-- What a version's text is. -/
def VerOk (s : ByteArray) (r : PvR) : Prop := s.size ≤ 100 ∧ ∃ t : Tx, Num9 t.d1 ∧ Num9 t.d2 ∧ Num9 t.d3 ∧ (t.ps = [] ∨ PartsOk t.ps) ∧ Strict true t.ps ∧ (t.ms = [] ∨ PartsOk t.ms) ∧ s.toList = t.text ∧
  r.1 = (val 0 t.d1 : Int) ∧ r.2.1 = (val 0 t.d2 : Int) ∧ r.2.2.1 = (val 0 t.d3 : Int) ∧ r.2.2.2.1.toList = t.pre ∧ r.2.2.2.2.1.toList = t.meta_
theorem sg_num {d : List UInt8} (h : Num9 d) : sg 46 d = 46 :: d := by unfold sg; rw [if_neg h.1]
theorem version_ev (s : ByteArray) (hs : s.size ≤ 4294967296) : ∃ r : PvR, Ev (fun k => spec_ParseVersion.f k s) r ∧ (r.2.2.2.2.2 = true → VerOk s r) := by
  have hl := len_eq s
  by_cases h100 : s.size > 100
  · refine ⟨noV, ?_, fun h => by cases h⟩
    unfold spec_ParseVersion.f
    exact Ev.pos (by omega) (Ev.now _)
  have key : ∀ (d i : Nat), s.size - i = d → i ≤ s.size → ∃ r : PvR, Ev (fun k => spec_ParseVersion.l0 k s (i : Int) 0 0 0 ⟨#[]⟩ ⟨#[]⟩) r ∧ (r.2.2.2.2.2 = true → VerOk s r) := by
    intro d
    induction d with
    | zero =>
      intro i hd hi
      obtain ⟨r, hr, hrt⟩ := first_ev s (by omega) ⟨#[]⟩
      refine ⟨r, Ev.step (fun k => ?_) hr, fun h => ?_⟩
      · simp only [spec_ParseVersion.l0]
        rw [if_neg (by omega)]
      · obtain ⟨d1, d2, d3, tl, n1, n2, n3, g1, ⟨ps, q1, q2, q3, q4⟩, g3, g4, g5, g6⟩ := hrt h
        refine ⟨by omega, ⟨d1, d2, d3, ps, []⟩, n1, n2, n3, q1, q2, .inl rfl, ?_, g3, g4, g5, q4, by rw [g6, tl_nil]; rfl⟩
        rw [g1, q3]
        unfold Tx.text Tx.pre Tx.meta_
        simp only [sg_num n2, sg_num n3]
        simp [dots, sg]
    | succ d ih =>
      intro i hd hi
      have hlt : i < s.toList.length := by omega
      have hb := bt_nat s i hlt
      have hw := wsucc i (by omega)
      by_cases h43 : bt s (i : Int) = 43
      · have hc : s.toList[i] = 43 := by
          have : ((s.toList[i]).toNat : Int) = 43 := by rw [← hb]; exact h43
          exact UInt8.toNat_inj.1 (by show (s.toList[i]).toNat = 43; omega)
        obtain ⟨pb, hpe, hpt⟩ := parts_ev (s.extract (i + 1) s.size) (by rw [size_extract _ _ _ (by omega) (Nat.le_refl _)]; omega) false
        have hstep : ∀ k, spec_ParseVersion.l0 (k + 1) s (i : Int) 0 0 0 ⟨#[]⟩ ⟨#[]⟩ = (spec_parts.f k (s.extract (i + 1) s.size) false).bind fun t103 => (if t103 = true then (spec_ParseVersion.j1 k (s.extract 0 i) 0 0 0 ⟨#[]⟩ (s.extract (i + 1) s.size)) else (some noV)) := fun k => by
          simp only [spec_ParseVersion.l0]
          rw [if_pos (by omega), if_pos (by omega), if_pos h43, hw, if_pos (by omega), if_pos (by omega), if_pos (by omega), Int.toNat_natCast, Int.toNat_natCast]
          rfl
        cases pb with
        | false => exact ⟨noV, Ev.step hstep (Ev.andThen hpe (Ev.neg (by simp) (Ev.now _))), fun h => by cases h⟩
        | true =>
          obtain ⟨ms, m1, m2, _⟩ := hpt rfl
          rw [List.drop_zero] at m2
          obtain ⟨r, hr, hrt⟩ := first_ev (s.extract 0 i) (by rw [size_extract _ _ _ (Nat.zero_le _) hi]; omega) (s.extract (i + 1) s.size)
          refine ⟨r, Ev.step hstep (Ev.andThen hpe (Ev.pos rfl hr)), fun h => ?_⟩
          obtain ⟨d1, d2, d3, tl, n1, n2, n3, g1, ⟨ps, q1, q2, q3, q4⟩, g3, g4, g5, g6⟩ := hrt h
          refine ⟨by omega, ⟨d1, d2, d3, ps, ms⟩, n1, n2, n3, q1, q2, .inr m1, ?_, g3, g4, g5, q4, by rw [g6, m2]; rfl⟩
          have hcut : s.toList = (s.extract 0 i).toList ++ 43 :: (s.extract (i + 1) s.size).toList := by
            rw [extract_upto, extract_self, ← hc, ← List.drop_eq_getElem_cons hlt, List.take_append_drop]
          rw [hcut, g1, q3, m2]
          unfold Tx.text Tx.pre Tx.meta_
          simp only [sg_num n2, sg_num n3]
          have e : sg 43 (dots ms) = 43 :: dots ms := by unfold sg; rw [if_neg (dots_ne m1)]
          rw [e]
          simp
      · obtain ⟨r, hr, hrt⟩ := ih (i + 1) (by omega) (by omega)
        refine ⟨r, Ev.step (fun k => ?_) hr, hrt⟩
        simp only [spec_ParseVersion.l0]
        rw [if_pos (by omega), if_pos (by omega), if_neg h43, hw]
  obtain ⟨r, hr, hrt⟩ := key _ 0 rfl (Nat.zero_le _)
  refine ⟨r, ?_, hrt⟩
  unfold spec_ParseVersion.f
  exact Ev.neg (by omega) hr

/-! ### identifiers -/
/-- The parts of a text with points between; of an empty one the empty text. -/
def idL (ps : List (List UInt8)) : List (List UInt8) := if ps = [] then [[]] else ps
theorem part_run (p : ByteArray) (hp : p.size ≤ 1000) (acc : List ByteArray) (f : Nat) (r : List ByteArray) (e : Nat) (he : e ≤ p.size) (hall : ∀ j (h : j < p.toList.length), f ≤ j → j < e → isPart (p.toList[j]) = true)
    (h : Ev (fun k => spec_identifiers.l0 k p acc (f : Int) (e : Int)) r) : ∀ d i : Nat, e - i = d → f ≤ i → i ≤ e → Ev (fun k => spec_identifiers.l0 k p acc (f : Int) (i : Int)) r := by
  have hl := len_eq p
  intro d
  induction d with
  | zero => intro i hd hf hi; rw [show i = e by omega]; exact h
  | succ d ih =>
    intro i hd hf hi
    have hlt : i < p.toList.length := by omega
    have hb := bt_nat p i hlt
    have hpt := hall i hlt hf (by omega)
    have h46 : p.toList[i] ≠ 46 := fun e => by rw [e] at hpt; exact absurd hpt (by decide)
    have hne : ¬ ((p.toList[i]).toNat : Int) = ((46 : Nat) : Int) := byte_ne (by decide) h46
    have hne' : ¬ bt p (i : Int) = 46 := by rw [hb]; exact hne
    refine Ev.step (fun k => ?_) (ih (i + 1) (by omega) (by omega) (by omega))
    simp only [spec_identifiers.l0]
    rw [if_pos (by omega), if_neg (by omega), if_pos (by omega), if_pos (by omega), if_neg hne', wsucc i (by omega)]
theorem ids_ev (p : ByteArray) (hp : p.size ≤ 1000) : ∀ (ps : List (List UInt8)) (a : List UInt8) (acc : List ByteArray), PartsOk ps → p.toList = a ++ dots ps → acc.length + ps.length ≤ 5000 →
    ∃ l : List ByteArray, Ev (fun k => spec_identifiers.l0 k p acc (a.length : Int) (a.length : Int)) l ∧ l.map ByteArray.toList = acc.map ByteArray.toList ++ ps
  | [], a, acc, h, _, _ => absurd rfl h.1
  | [q], a, acc, h, hsl, hacc => by
    have hl := len_eq p
    have hln : p.size = a.length + q.length := by rw [hl, hsl]; simp [dots]
    have hend : Ev (fun k => spec_identifiers.l0 k p (acc ++ [p.extract a.length p.size]) ((p.size + 1 : Nat) : Int) ((p.size + 1 : Nat) : Int)) (acc ++ [p.extract a.length p.size]) :=
      Ev.step (f := fun _ => some (acc ++ [p.extract a.length p.size])) (fun k => by simp only [spec_identifiers.l0]; rw [if_neg (by omega)]) (Ev.now _)
    have hat : Ev (fun k => spec_identifiers.l0 k p acc (a.length : Int) (p.size : Int)) (acc ++ [p.extract a.length p.size]) := by
      refine Ev.step (fun k => ?_) hend
      simp only [spec_identifiers.l0]
      simp only [List.length_cons, List.length_nil] at hacc
      rw [if_pos (by omega), if_pos trivial, if_pos (by omega), if_pos (by omega), if_pos (by omega), wsucc p.size (by omega), Int.toNat_natCast, Int.toNat_natCast]
    have hrun := part_run p hp acc a.length _ p.size (Nat.le_refl _) (fun j hj h1 h2 => by
      have hx : p.toList[j]? = q[j - a.length]? := by rw [hsl]; simp only [dots]; rw [List.getElem?_append_right h1]
      rw [List.getElem?_eq_getElem hj, List.getElem?_eq_getElem (by omega)] at hx
      rw [Option.some.inj hx]
      exact List.all_eq_true.1 (h.2 q (by simp)).2 _ (List.getElem_mem _)) hat _ a.length rfl (Nat.le_refl _) (by omega)
    refine ⟨_, hrun, ?_⟩
    rw [List.map_append, List.map_singleton, extract_self, hsl]
    simp [dots]
  | q :: q2 :: r, a, acc, h, hsl, hacc => by
    have hl := len_eq p
    have hsl' : p.toList = (a ++ q ++ [46]) ++ dots (q2 :: r) := by rw [hsl]; simp [dots]
    have hln : p.size = a.length + q.length + 1 + (dots (q2 :: r)).length := by rw [hl, hsl']; simp; omega
    simp only [List.length_cons] at hacc
    obtain ⟨l, i1, i2⟩ := ids_ev p hp (q2 :: r) (a ++ q ++ [46]) (acc ++ [p.extract a.length (a.length + q.length)]) ⟨by simp, fun x hx => h.2 x (by simp [hx])⟩ hsl' (by simp; omega)
    have e1 : (a ++ q ++ [46] : List UInt8).length = a.length + q.length + 1 := by simp; omega
    rw [e1] at i1
    have hlt : a.length + q.length < p.toList.length := by omega
    have hx : p.toList[a.length + q.length] = 46 := by
      have : p.toList[a.length + q.length]? = some 46 := by
        rw [hsl', List.append_assoc, ← List.length_append, List.getElem?_append_right (Nat.le_refl _)]
        simp
      rw [List.getElem?_eq_getElem hlt] at this
      exact Option.some.inj this
    have hb := bt_nat p _ hlt
    rw [hx] at hb
    have hb' : bt p ((a.length + q.length : Nat) : Int) = 46 := hb
    have hat : Ev (fun k => spec_identifiers.l0 k p acc (a.length : Int) ((a.length + q.length : Nat) : Int)) l := by
      refine Ev.step (fun k => ?_) i1
      simp only [spec_identifiers.l0]
      rw [if_pos (by omega), if_neg (by omega), if_pos (by omega), if_pos (by omega), if_pos hb', if_pos (by omega), if_pos (by omega), if_pos (by omega), wsucc _ (by omega), Int.toNat_natCast, Int.toNat_natCast]
    have hrun := part_run p hp acc a.length _ (a.length + q.length) (by omega) (fun j hj h1 h2 => by
      have hy : p.toList[j]? = q[j - a.length]? := by
        rw [hsl', List.append_assoc, List.append_assoc, List.getElem?_append_right h1, List.getElem?_append_left (by omega)]
      rw [List.getElem?_eq_getElem hj, List.getElem?_eq_getElem (by omega)] at hy
      rw [Option.some.inj hy]
      exact List.all_eq_true.1 (h.2 q (by simp)).2 _ (List.getElem_mem _)) hat _ a.length rfl (Nat.le_refl _) (by omega)
    refine ⟨l, hrun, ?_⟩
    rw [i2, List.map_append, List.map_singleton, tl_extract, hsl]
    simp [dots]
theorem identifiers_ev (p : ByteArray) (hp : p.size ≤ 1000) (ps : List (List UInt8)) (h : ps = [] ∨ PartsOk ps) (hsl : p.toList = dots ps) (hn : ps.length ≤ 4000) :
    ∃ l : List ByteArray, Ev (fun k => spec_identifiers.f k p) l ∧ l.map ByteArray.toList = idL ps := by
  have hl := len_eq p
  rcases h with rfl | h
  · have hz : p.size = 0 := by rw [hl, hsl]; rfl
    refine ⟨[p.extract 0 0], ?_, by rw [List.map_singleton, tl_extract]; simp [idL]⟩
    unfold spec_identifiers.f
    refine Ev.step (f := fun k => spec_identifiers.l0 k p [p.extract 0 0] 1 1) (fun k => ?_) (Ev.step (f := fun _ => some [p.extract 0 0]) (fun k => ?_) (Ev.now _))
    · simp only [spec_identifiers.l0]
      rw [if_pos (by omega), if_pos (by omega), if_pos (by omega), if_pos (by omega), if_pos (by simp), w64 (by omega) (by omega)]
      rfl
    · simp only [spec_identifiers.l0]
      rw [if_neg (by omega)]
  · obtain ⟨l, h1, h2⟩ := ids_ev p hp ps [] [] h hsl (by simpa using (by omega : ps.length ≤ 5000))
    exact ⟨l, h1, by rw [h2]; unfold idL; rw [if_neg h.1]; rfl⟩
/-! ### Short -/
theorem short_ev (ids : List ByteArray) (hs : ∀ x ∈ ids, x.size ≤ 1000) (hn : ids.length ≤ 5000) : ∃ b : Bool, Ev (fun k => spec_Short.l0 k ids 0) b ∧ (b = true → ∀ x ∈ ids, x.toList.all isDig = true → x.size ≤ 15) := by
  have key : ∀ (d i : Nat), ids.length - i = d → i ≤ ids.length → ∃ b : Bool, Ev (fun k => spec_Short.l0 k ids (i : Int)) b ∧ (b = true → ∀ x ∈ ids.drop i, x.toList.all isDig = true → x.size ≤ 15) := by
    intro d
    induction d with
    | zero =>
      intro i hd hi
      refine ⟨true, Ev.step (f := fun _ => some true) (fun k => ?_) (Ev.now _), fun _ x hx => ?_⟩
      · simp only [spec_Short.l0]; rw [if_neg (by omega)]
      · rw [List.drop_eq_nil_of_le (by omega)] at hx; simp at hx
    | succ d ih =>
      intro i hd hi
      have hlt : i < ids.length := by omega
      obtain ⟨b, hb, hbt⟩ := ih (i + 1) (by omega) (by omega)
      have hr : rdOf ByteArray.empty ids (i : Int) = ids[i] := by simp [rdOf, List.getElem?_eq_getElem hlt]
      have ho := only_ev (ids[i]) (hs _ (List.getElem_mem hlt))
      have hstep : ∀ k, spec_Short.l0 (k + 1) ids (i : Int) = (spec_onlyDigits.f k (ids[i])).bind fun t125 => (if t125 = true then (if ((ids[i]).size : Int) > 15 then (some false) else (spec_Short.l0 k ids ((i + 1 : Nat) : Int))) else (spec_Short.l0 k ids ((i + 1 : Nat) : Int))) := fun k => by
        simp only [spec_Short.l0]
        rw [if_pos (by omega), if_pos (by omega), hr, wsucc i (by omega)]
      have hdrop : ids.drop i = ids[i] :: ids.drop (i + 1) := List.drop_eq_getElem_cons hlt
      cases hod : (ids[i]).toList.all isDig with
      | true =>
        rw [hod] at ho
        by_cases h15 : ((ids[i]).size : Int) > 15
        · exact ⟨false, Ev.step hstep (Ev.andThen ho (Ev.pos rfl (Ev.pos h15 (Ev.now _)))), fun h => by cases h⟩
        · refine ⟨b, Ev.step hstep (Ev.andThen ho (Ev.pos rfl (Ev.neg h15 hb))), fun h x hx hxd => ?_⟩
          rw [hdrop] at hx
          rcases List.mem_cons.1 hx with rfl | hx
          · omega
          · exact hbt h x hx hxd
      | false =>
        rw [hod] at ho
        refine ⟨b, Ev.step hstep (Ev.andThen ho (Ev.neg (by simp) hb)), fun h x hx hxd => ?_⟩
        rw [hdrop] at hx
        rcases List.mem_cons.1 hx with rfl | hx
        · rw [hod] at hxd; cases hxd
        · exact hbt h x hx hxd
  obtain ⟨b, h1, h2⟩ := key _ 0 rfl (Nat.zero_le _)
  exact ⟨b, h1, fun h x hx => h2 h x (by simpa using hx)⟩
/-- A version that is looked at. -/
def V9Ok (s : ByteArray) : Prop := s.size ≤ 100 ∧ ∃ t : Tx, Num9 t.d1 ∧ Num9 t.d2 ∧ Num9 t.d3 ∧ (t.ps = [] ∨ PartsOk t.ps) ∧ (∀ p ∈ t.ps, IdOk p) ∧ (t.ms = [] ∨ PartsOk t.ms) ∧ s.toList = t.text
theorem dots_sizes : ∀ (ps : List (List UInt8)), (∀ p ∈ ps, p ≠ []) → ps.length ≤ (dots ps).length + 1 ∧ ∀ p ∈ ps, p.length ≤ (dots ps).length
  | [], _ => by simp
  | [q], _ => by simp [dots]
  | q :: q2 :: r, h => by
    obtain ⟨h1, h2⟩ := dots_sizes (q2 :: r) (fun p hp => h p (by simp [hp]))
    have hq := List.length_pos_iff.2 (h q (by simp))
    have e : (dots (q :: q2 :: r)).length = q.length + 1 + (dots (q2 :: r)).length := by simp [dots]; omega
    rw [e]
    refine ⟨by simp only [List.length_cons] at h1 ⊢; omega, fun p hp => ?_⟩
    rcases List.mem_cons.1 hp with rfl | hp
    · omega
    · have := h2 p hp; omega
theorem version9_ev (s : ByteArray) (hs : s.size ≤ 4294967296) : ∃ r : PvR, Ev (fun k => laws_version9.f k s) r ∧ (r.2.2.2.2.2 = true → V9Ok s) := by
  obtain ⟨r, hr, hrt⟩ := version_ev s hs
  obtain ⟨r1, r2, r3, r4, r5, ok⟩ := r
  unfold laws_version9.f
  cases ok with
  | false => exact ⟨(r1, r2, r3, r4, r5, false), Ev.andThen hr (Ev.neg (by simp) (Ev.now _)), fun h => by cases h⟩
  | true =>
    obtain ⟨h100, t, n1, n2, n3, hp, hst, hm, htx, e1, e2, e3, e4, e5⟩ := hrt rfl
    have hl := len_eq s
    have hsz : t.pre.length ≤ 100 := by
      have h1 : s.size = t.text.length := by rw [hl, htx]
      unfold Tx.text at h1
      simp only [List.length_append] at h1
      have h2 : t.pre.length ≤ (sg 45 t.pre).length := by unfold sg; split <;> simp_all
      omega
    have hpn : ∀ p ∈ t.ps, p ≠ [] := by
      rcases hp with h | h
      · rw [h]; simp
      · exact fun p hp => (h.2 p hp).1
    obtain ⟨z1, z2⟩ := dots_sizes t.ps hpn
    have hd : (dots t.ps).length ≤ 100 := hsz
    obtain ⟨ids, hi1, hi2⟩ := identifiers_ev r4 (by rw [len_eq, e4]; omega) t.ps hp e4 (by omega)
    have hidl : ids.length ≤ 5000 := by
      have : ids.length = (idL t.ps).length := by rw [← hi2, List.length_map]
      unfold idL at this
      split at this
      · simp at this; omega
      · omega
    have hids : ∀ x ∈ ids, x.size ≤ 1000 := fun x hx => by
      have hm := List.mem_map_of_mem (f := ByteArray.toList) hx
      rw [hi2] at hm
      unfold idL at hm
      rw [len_eq]
      split at hm
      · rw [List.mem_singleton.1 hm]; simp
      · have := z2 _ hm; omega
    obtain ⟨b, hb, hbt⟩ := short_ev ids hids hidl
    refine ⟨(r1, r2, r3, r4, r5, b), Ev.andThen hr (Ev.pos rfl (Ev.andThen (f := fun k t => some (r1, r2, r3, r4, r5, t)) (a := b) ?_ (Ev.now _))), fun h => ⟨h100, t, n1, n2, n3, hp, fun p hpp => ?_, hm, htx⟩⟩
    · show Ev (fun k => spec_Short.f k r1 r2 r3 r4 r5) b
      unfold spec_Short.f
      exact Ev.andThen hi1 hb
    · have hpo : PartsOk t.ps := by
        rcases hp with h0 | h0
        · rw [h0] at hpp; simp at hpp
        · exact h0
      refine ⟨(hpo.2 p hpp).1, (hpo.2 p hpp).2, fun hdig => ⟨hst rfl p hpp hdig, ?_⟩⟩
      have hmem : p ∈ ids.map ByteArray.toList := by
        rw [hi2]; unfold idL; rw [if_neg hpo.1]; exact hpp
      obtain ⟨x, hx, rfl⟩ := List.mem_map.1 hmem
      have := hbt h x hx hdig
      rw [← len_eq]; exact this
end Go.Proofs.YtmoilbhkjmhoaaaDoor.Sv
