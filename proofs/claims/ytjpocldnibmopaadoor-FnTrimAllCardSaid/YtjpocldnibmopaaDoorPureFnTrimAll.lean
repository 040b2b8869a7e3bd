/- FnTrimAll, as a plain statement: without the characters of another text at both ends. -/
import Derived.Test.YtjpocldnibmopaaDoorPFnTrimAllx1
import Derived.Test.YtjpocldnibmopaaDoorTxt
namespace Go.Proofs.YtjpocldnibmopaaDoor.Pure
open Go.RowKit Go.Proofs.YtjpocldnibmopaaDoor.PFnTrimAll Go.Proofs.YtjpocldnibmopaaDoorW.PrintWords Go.Proofs.YtjpocldnibmopaaDoorW.PrintLast Go.Proofs.YtjpocldnibmopaaDoor.Txt Go.Proofs.YtjpocldnibmopaaDoor

/-! ### texts of UTF-8 -/
/-- Are all of these looked at? -/
def textL (l : List ByteArray) : Bool := l.all fun s => s.size ≤ 500 && Giv.utf8 s
theorem textL_cons (s : ByteArray) (l : List ByteArray) : textL (s :: l) = ((decide (s.size ≤ 500) && Giv.utf8 s) && textL l) := rfl
theorem text_ev (l : List ByteArray) (hl : l.length ≤ 1000) : Ev (fun k => laws_text9.f k l) (textL l) := by
  have key : ∀ (d i : Nat), l.length - i = d → i ≤ l.length → Ev (fun k => laws_text9.l0 k l (l.length : Int) (i : Int)) (textL (l.drop i)) := by
    intro d
    induction d with
    | zero =>
      intro i hd hi
      rw [List.drop_eq_nil_of_le (by omega)]
      refine Ev.step (f := fun _ => some true) (fun k => ?_) (Ev.now _)
      simp only [laws_text9.l0]; rw [if_neg (by omega)]
    | succ d ih =>
      intro i hd hi
      have hlt : i < l.length := by omega
      have e : l.drop i = l[i] :: l.drop (i + 1) := List.drop_eq_getElem_cons hlt
      have hr : rdOf ByteArray.empty l (i : Int) = l[i] := by simp [rdOf, List.getElem?_eq_getElem hlt]
      by_cases h5 : l[i].size ≤ 500
      · have ha : Giv.spec_UTF8.f l[i] = some (Giv.utf8 l[i]) := by unfold Giv.spec_UTF8.f; rw [if_pos (by omega)]
        refine Ev.step (f := fun k => (Giv.spec_UTF8.f l[i]).bind fun t => if t = true then laws_text9.l0 k l (l.length : Int) ((i + 1 : Nat) : Int) else some false) (fun k => ?_) ?_
        · simp only [laws_text9.l0]; rw [if_pos (by omega), if_pos (by omega), if_pos (by omega), hr, if_neg (by omega), w64 (by omega) (by omega)]; rfl
        · refine Ev.thenC ha ?_
          cases hx : Giv.utf8 l[i] with
          | true =>
            have e2 : textL (l.drop i) = textL (l.drop (i + 1)) := by rw [e, textL_cons, hx, decide_eq_true h5]; rfl
            rw [e2]; exact Ev.pos rfl (ih (i + 1) (by omega) (by omega))
          | false =>
            have e2 : textL (l.drop i) = false := by rw [e, textL_cons, hx, Bool.and_false, Bool.false_and]
            rw [e2]; exact Ev.neg (by decide) (Ev.now _)
      · have e2 : textL (l.drop i) = false := by rw [e, textL_cons, decide_eq_false h5]; rfl
        rw [e2]
        refine Ev.step (f := fun _ => some false) (fun k => ?_) (Ev.now _)
        simp only [laws_text9.l0]; rw [if_pos (by omega), if_pos (by omega), if_pos (by omega), hr, if_pos (by omega)]
  have := key _ 0 rfl (Nat.zero_le _)
  simpa [laws_text9.f] using this
def isq (set : ByteArray) (r : Nat) : Bool := decide ((r : Int) ∈ Giv.runes set)
theorem inset_ev (set : ByteArray) (r : Nat) (hs : set.size ≤ 1000) : Giv.sprig_zzInSet.f (r : Int) set = some (isq set r) := by
  unfold Giv.sprig_zzInSet.f isq; rw [if_pos (by omega)]
theorem dec_first (s : ByteArray) (r : Nat) (l : List Nat) (hr : Giv.okRune r) (h : s.toList = Giv.encs' (r :: l)) : 0 < s.size ∧ Lib.decodeGo s = (r, (Lib.encodeRune (r : Int)).length) := by
  have hl := len_eq s
  rw [Giv.encs_cons] at h
  have e1 := Giv.enc_len (r : Int)
  have hz : 0 < s.size := by rw [hl, h, List.length_append]; omega
  refine ⟨hz, ?_⟩
  unfold Lib.decodeGo
  rw [if_neg (by omega), ← Giv.decL s 0, List.drop_zero, h, Giv.dec_enc hr]
theorem left_ev (set : ByteArray) (hset : set.size ≤ 1000) (r : ByteArray) : ∀ (l : List Nat) (s : ByteArray), (∀ x ∈ l, Giv.okRune x) → s.toList = Giv.encs' l → s.size ≤ 500 →
    (∀ s' : ByteArray, s'.toList = Giv.encs' (l.dropWhile (isq set)) → s'.size ≤ 500 → Ev (fun k => sprig_zzTrimSet.j1 k s' set) r) → Ev (fun k => sprig_zzTrimSet.l0 k s set) r := by
  intro l
  induction l with
  | nil =>
    intro s _ hs hz h
    have hl := len_eq s
    have z : s.size = 0 := by rw [hl, hs]; rfl
    exact Ev.step (f := fun k => sprig_zzTrimSet.j1 k s set) (fun k => by simp only [sprig_zzTrimSet.l0]; rw [if_neg (by omega)]) (h s hs hz)
  | cons c l ih =>
    intro s ho hs hz h
    have hl := len_eq s
    obtain ⟨hp, hd⟩ := dec_first s c l (ho c (List.mem_cons_self ..)) hs
    refine Ev.step (fun k => by simp only [sprig_zzTrimSet.l0]; rw [if_pos (by omega)]) ?_
    refine Ev.thenC (a := ((c : Int), ((Lib.encodeRune (c : Int)).length : Int))) (by unfold Giv.utf8_DecodeRuneInString.f; rw [hd]) ?_
    refine Ev.thenC (inset_ev set c hset) ?_
    have hlen : (Lib.encodeRune (c : Int)).length ≤ s.size := by rw [hl, hs, Giv.encs_cons, List.length_append]; omega
    cases hq : isq set c with
    | true =>
      refine Ev.pos rfl (Ev.pos (Int.natCast_nonneg _) (Ev.pos (Int.ofNat_le.2 hlen) ?_))
      rw [Int.toNat_natCast]
      have e : (s.extract (Lib.encodeRune (c : Int)).length s.size).toList = Giv.encs' l := by
        rw [extract_self, hs, Giv.encs_cons, List.drop_left]
      refine ih _ (fun x hx => ho x (List.mem_cons_of_mem _ hx)) e (by rw [size_extract _ _ _ hlen (Nat.le_refl _)]; omega) (fun s' hs' hz' => h s' ?_ hz')
      rw [hs', List.dropWhile_cons, if_pos hq]
    | false =>
      refine Ev.neg (by decide) (h s ?_ hz)
      rw [hs, List.dropWhile_cons, if_neg (by rw [hq]; decide)]
theorem right_ev (set : ByteArray) (hset : set.size ≤ 1000) : ∀ (m : Nat) (l : List Nat) (s : ByteArray), l.length = m → (∀ x ∈ l, Giv.okRune x) → s.toList = Giv.encs' l → s.size ≤ 500 →
    ∃ r : ByteArray, Ev (fun k => sprig_zzTrimSet.l1 k s set) r ∧ r.toList = Giv.encs' ((l.reverse.dropWhile (isq set)).reverse) := by
  intro m
  induction m with
  | zero =>
    intro l s hm _ hs hz
    have hl := len_eq s
    obtain rfl := List.length_eq_zero_iff.1 hm
    have z : s.size = 0 := by rw [hl, hs]; rfl
    exact ⟨s, Ev.step (f := fun _ => some s) (fun k => by simp only [sprig_zzTrimSet.l1]; rw [if_neg (by omega)]) (Ev.now _), hs⟩
  | succ m ih =>
    intro l s hm ho hs hz
    have hl := len_eq s
    obtain ⟨l', c, rfl⟩ : ∃ l' c, l = l' ++ [c] := by
      have hne : l ≠ [] := by intro e; rw [e] at hm; simp at hm
      exact ⟨l.dropLast, l.getLast hne, (List.dropLast_concat_getLast hne).symm⟩
    have hc := ho c (by simp)
    have e1 := Giv.enc_len (c : Int)
    rw [Giv.encs_last] at hs
    have hlen : s.size = (Giv.encs' l').length + (Lib.encodeRune (c : Int)).length := by rw [hl, hs, List.length_append]
    have hd : Lib.decodeLastL s.toList = (c, (Lib.encodeRune (c : Int)).length) := by rw [hs]; exact Giv.last_enc hc _
    have hrw : (s.size : Int) - ((Lib.encodeRune (c : Int)).length : Int) = ((Giv.encs' l').length : Int) := by omega
    have st : ∀ r, Ev (fun k => if isq set c = true then (if 0 ≤ ((Giv.encs' l').length : Int) then (if ((Giv.encs' l').length : Int) ≤ (s.size : Int) then sprig_zzTrimSet.l1 k (s.extract 0 (Giv.encs' l').length) set else none) else none) else some s) r → Ev (fun k => sprig_zzTrimSet.l1 k s set) r := by
      intro r h
      refine Ev.step (fun k => by simp only [sprig_zzTrimSet.l1]; rw [if_pos (by omega)]) ?_
      refine Ev.thenC (a := ((c : Int), ((Lib.encodeRune (c : Int)).length : Int))) (by unfold Giv.utf8_DecodeLastRuneInString.f; rw [if_pos (by omega), hd]) ?_
      refine Ev.thenC (inset_ev set c hset) ?_
      dsimp only
      rw [w64 (by omega) (by omega), hrw, Int.toNat_natCast]
      exact h
    rw [List.reverse_append, List.reverse_singleton, List.singleton_append, List.dropWhile_cons]
    cases hq : isq set c with
    | true =>
      have e : (s.extract 0 (Giv.encs' l').length).toList = Giv.encs' l' := by rw [extract_upto, hs, List.take_left]
      obtain ⟨r, h1, h2⟩ := ih l' (s.extract 0 (Giv.encs' l').length) (by simp at hm; exact hm) (fun x hx => ho x (List.mem_append_left _ hx)) e (by rw [size_extract _ _ _ (Nat.zero_le _) (by omega)]; omega)
      refine ⟨r, st r ?_, by rw [h2]; rfl⟩
      rw [hq]
      exact Ev.pos rfl (Ev.pos (Int.natCast_nonneg _) (Ev.pos (by omega) h1))
    | false =>
      refine ⟨s, st s ?_, ?_⟩
      · rw [hq]; exact Ev.neg (by decide) (Ev.now _)
      · rw [if_neg (by decide), List.reverse_cons, List.reverse_reverse, hs, Giv.encs_last]
theorem trim_ev (set s : ByteArray) (hset : set.size ≤ 1000) (hs : s.size ≤ 500) (hu : Giv.utf8 s = true) : ∃ r : ByteArray, Ev (fun k => impl_TrimAll.f k set s) r ∧ r.toList = (Giv.trimT set s).toList := by
  obtain ⟨l, e1, e2, e3⟩ := Giv.text_runes_ok s hu
  have hl := len_eq s
  have hex : ∃ s' : ByteArray, s'.toList = Giv.encs' (l.dropWhile (isq set)) ∧ s'.size ≤ 500 := by
    refine ⟨⟨(Giv.encs' (l.dropWhile (isq set))).toArray⟩, tl_mk _, ?_⟩
    rw [len_eq, tl_mk]
    have : l = l.takeWhile (isq set) ++ l.dropWhile (isq set) := List.takeWhile_append_dropWhile.symm
    have h2 := congrArg (fun x => (Giv.encs' x).length) this
    simp only [Giv.encs_app, List.length_append] at h2
    rw [e3] at hl; omega
  obtain ⟨s', g1, g2⟩ := hex
  have hok : ∀ x ∈ l.dropWhile (isq set), Giv.okRune x := fun x hx => e2 x ((List.dropWhile_sublist _).mem hx)
  obtain ⟨r, h1, h2⟩ := right_ev set hset _ (l.dropWhile (isq set)) s' rfl hok g1 g2
  refine ⟨r, ?_, ?_⟩
  · unfold impl_TrimAll.f sprig_TrimAll.f sprig_trimAll.f sprig_zzTrimSet.f
    refine Ev.andThen (Ev.andThen (Ev.andThen (left_ev set hset r l s e2 e3 hs (fun s'' k1 k2 => ?_)) (Ev.now _)) (Ev.now _)) (Ev.now _)
    obtain rfl : s'' = s' := ext_eq (by rw [k1, g1])
    exact Ev.step (f := fun k => sprig_zzTrimSet.l1 k s'' set) (fun k => by simp only [sprig_zzTrimSet.j1]) h1
  · rw [h2]
    unfold Giv.trimT
    rw [e1]
    have q : (fun c : Int => decide (c ∈ Giv.runes set)) ∘ (fun r : Nat => (r : Int)) = isq set := rfl
    have : Giv.trimS (fun c => decide (c ∈ Giv.runes set)) (l.map fun (r : Nat) => (r : Int)) = ((l.dropWhile (isq set)).reverse.dropWhile (isq set)).reverse.map fun (r : Nat) => (r : Int) := by
      unfold Giv.trimS Giv.trimR
      rw [List.dropWhile_map, ← List.map_reverse, List.dropWhile_map, ← List.map_reverse, q]
    rw [this, Giv.bytes_encs]

theorem FnTrimAll : laws_FnTrimAll.Pure := by
  intro set s hset hs
  apply Ev.rounds
  have big : Ev (fun k => laws_FnTrimAll.j0 k set s true) true := Ev.step (f := fun _ => some true) (fun k => by simp only [laws_FnTrimAll.j0, if_true]) (Ev.now _)
  unfold laws_FnTrimAll.f
  by_cases h1 : (set.size : Int) > 2147483647
  · exact Ev.pos h1 big
  refine Ev.neg h1 ?_
  cases h2 : decide ((s.size : Int) > 2147483647) with
  | true => exact big
  | false =>
    refine Ev.step (fun k => by simp only [laws_FnTrimAll.j0]; rw [if_neg (by decide)]) ?_
    refine Ev.andThen (text_ev [set, s] (by simp)) ?_
    cases htx : textL [set, s] with
    | false => exact Ev.neg (by decide) (Ev.now _)
    | true =>
      refine Ev.pos rfl ?_
      simp only [textL, List.all_cons, List.all_nil, Bool.and_true, Bool.and_eq_true, decide_eq_true_eq] at htx
      obtain ⟨⟨z1, u1⟩, ⟨z2, u2⟩⟩ := htx
      obtain ⟨r, a1, a2⟩ := trim_ev set s (by omega) z2 u2
      obtain ⟨r', b1, b2⟩ := trim_ev (⟨#[120, 121]⟩ : ByteArray) (⟨#[121, 97, 120]⟩ : ByteArray) (by decide) (by decide) (by decide +kernel)
      have hf : Giv.spec_TrimAll.f set s = some (Giv.trimT set s) := by unfold Giv.spec_TrimAll.f; rw [if_pos ⟨by omega, by omega⟩]
      refine Ev.andThen a1 (Ev.thenC hf (Ev.pos a2 (Ev.andThen b1 (Ev.const ?_))))
      rw [b2]
      have : (Giv.trimT (⟨#[120, 121]⟩ : ByteArray) (⟨#[121, 97, 120]⟩ : ByteArray)).toList = [97] := by decide +kernel
      rw [this]; rfl

end Go.Proofs.YtjpocldnibmopaaDoor.Pure
