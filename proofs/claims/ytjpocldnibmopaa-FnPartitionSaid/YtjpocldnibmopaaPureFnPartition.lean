/- FnPartition, as a plain statement: the three parts by the first, and by the last place. For all texts of at most 2^47 - 4096 bytes. -/
import Derived.Test.YtjpocldnibmopaaPFnPartitionx2
import Derived.Test.YtjpocldnibmopaaTxt
namespace Go.Proofs.Ytjpocldnibmopaa.Pure
open Go.RowKit Go.Proofs.Ytjpocldnibmopaa.PFnPartition Go.Proofs.YtjpocldnibmopaaW.PrintWords Go.Proofs.YtjpocldnibmopaaW.PrintLast Go.Proofs.Ytjpocldnibmopaa.Txt Go.Proofs.Ytjpocldnibmopaa

/-! ### texts of UTF-8 -/
/-- Are all of these looked at? -/
def textL (l : List ByteArray) : Bool := l.all fun s => s.size ≤ 500 && Giv.utf8 s
theorem textL_cons (s : ByteArray) (l : List ByteArray) : textL (s :: l) = ((decide (s.size ≤ 500) && Giv.utf8 s) && textL l) := rfl
theorem text_ev (l : List ByteArray) (hl : l.length ≤ 1000) : Ev (fun k => laws_text9.f k l) (textL l) := by
  have key : ∀ (d i : Nat), l.length - i = d → i ≤ l.length → Ev (fun k => laws_text9.l0 k l (l.length : Int) (i : Int)) (textL (l.drop i)) := by
    intro d
    induction d with
    | zero =>
      intro i hd hi
      rw [List.drop_eq_nil_of_le (by omega)]
      refine Ev.step (f := fun _ => some true) (fun k => ?_) (Ev.now _)
      simp only [laws_text9.l0]; rw [if_neg (by omega)]
    | succ d ih =>
      intro i hd hi
      have hlt : i < l.length := by omega
      have e : l.drop i = l[i] :: l.drop (i + 1) := List.drop_eq_getElem_cons hlt
      have hr : rdOf ByteArray.empty l (i : Int) = l[i] := by simp [rdOf, List.getElem?_eq_getElem hlt]
      by_cases h5 : l[i].size ≤ 500
      · have ha : Giv.spec_UTF8.f l[i] = some (Giv.utf8 l[i]) := by unfold Giv.spec_UTF8.f; rw [if_pos (by omega)]
        refine Ev.step (f := fun k => (Giv.spec_UTF8.f l[i]).bind fun t => if t = true then laws_text9.l0 k l (l.length : Int) ((i + 1 : Nat) : Int) else some false) (fun k => ?_) ?_
        · simp only [laws_text9.l0]; rw [if_pos (by omega), if_pos (by omega), if_pos (by omega), hr, if_neg (by omega), w64 (by omega) (by omega)]; rfl
        · refine Ev.thenC ha ?_
          cases hx : Giv.utf8 l[i] with
          | true =>
            have e2 : textL (l.drop i) = textL (l.drop (i + 1)) := by rw [e, textL_cons, hx, decide_eq_true h5]; rfl
            rw [e2]; exact Ev.pos rfl (ih (i + 1) (by omega) (by omega))
          | false =>
            have e2 : textL (l.drop i) = false := by rw [e, textL_cons, hx, Bool.and_false, Bool.false_and]
            rw [e2]; exact Ev.neg (by decide) (Ev.now _)
      · have e2 : textL (l.drop i) = false := by rw [e, textL_cons, decide_eq_false h5]; rfl
        rw [e2]
        refine Ev.step (f := fun _ => some false) (fun k => ?_) (Ev.now _)
        simp only [laws_text9.l0]; rw [if_pos (by omega), if_pos (by omega), if_pos (by omega), hr, if_pos (by omega)]
  have := key _ 0 rfl (Nat.zero_le _)
  simpa [laws_text9.f] using this
theorem zz_ev (s p : ByteArray) (hs : s.size ≤ 1000) (hp : p.size ≤ 1000) : Ev (fun k => xstrings_zzIndex.f k s p) (at_ 0 (idx p.toList s.toList)) := by
  have hl := len_eq s; have hl' := len_eq p
  have := search (fun k x => xstrings_zzIndex.l0 k s p x) s.toList p.toList (by omega) (by omega) (fun k x => by
    simp only [xstrings_zzIndex.l0, tl_extract, hl, hl']) 0 (.inl (Nat.zero_le _)) (by omega)
  simpa [xstrings_zzIndex.f] using this
theorem place_ev (p s : ByteArray) (hs : s.size ≤ 1000) (hp : p.size ≤ 1000) : Ev (fun k => spec_Place.f k p s 0) (at_ 0 (idx p.toList s.toList)) := by
  have hl := len_eq s; have hl' := len_eq p
  have := search (fun k x => spec_Place.l0 k p s x) s.toList p.toList (by omega) (by omega) (fun k x => by
    simp only [spec_Place.l0, tl_extract, hl, hl']) 0 (.inl (Nat.zero_le _)) (by omega)
  simpa [spec_Place.f] using this

/-! ### the last place -/
def lastAt (p s : List UInt8) : Nat → Option Nat
  | 0 => if p.isPrefixOf s then some 0 else none
  | i + 1 => if p.isPrefixOf (s.drop (i + 1)) then some (i + 1) else lastAt p s i
theorem lastAt_none {p s : List UInt8} {i : Nat} (h : lastAt p s i = none) : ∀ q, q ≤ i → ¬ p.isPrefixOf (s.drop q) = true := by
  induction i with
  | zero =>
    intro q hq
    obtain rfl : q = 0 := by omega
    rw [lastAt] at h
    intro e
    rw [List.drop_zero] at e
    rw [if_pos e] at h; exact absurd h (by simp)
  | succ i ih =>
    intro q hq
    rw [lastAt] at h
    split at h
    · exact absurd h (by simp)
    · rename_i hn
      by_cases e : q = i + 1
      · subst e; exact hn
      · exact ih h q (by omega)
theorem lastAt_some {p s : List UInt8} {i j : Nat} (h : lastAt p s i = some j) : j ≤ i ∧ p.isPrefixOf (s.drop j) = true := by
  induction i with
  | zero =>
    rw [lastAt] at h
    split at h
    · rename_i hc; obtain rfl := Option.some.inj h; exact ⟨Nat.le_refl _, by rw [List.drop_zero]; exact hc⟩
    · exact absurd h (by simp)
  | succ i ih =>
    rw [lastAt] at h
    split at h
    · obtain rfl := Option.some.inj h; exact ⟨Nat.le_refl _, by assumption⟩
    · have := ih h; exact ⟨by omega, this.2⟩
def lastPlace (p s : List UInt8) : Option Nat := if p.length ≤ s.length then lastAt p s (s.length - p.length) else none
theorem lastPlace_some {p s : List UInt8} {j : Nat} (h : lastPlace p s = some j) : j + p.length ≤ s.length := by
  unfold lastPlace at h
  split at h
  · have := lastAt_some h; omega
  · exact absurd h (by simp)
theorem last_none_iff (p s : List UInt8) : lastPlace p s = none ↔ idx p s = none := by
  constructor
  · intro h
    cases hx : idx p s with
    | none => rfl
    | some j =>
      have h1 := idx_some hx
      unfold lastPlace at h
      rw [if_pos (by omega)] at h
      exact absurd h1.2 (lastAt_none h j (by omega))
  · intro h
    unfold lastPlace
    split
    · cases hx : lastAt p s (s.length - p.length) with
      | none => rfl
      | some j => have h1 := lastAt_some hx; exact absurd h1.2 (idx_none h j (by omega))
    · rfl
theorem lastSearch (l : Nat → Int → Option Int) (s p : List UInt8) (hs : s.length ≤ 1000) (hp : p.length ≤ 1000)
    (h : ∀ k x, l (k + 1) x = if x ≥ 0 then (if 0 ≤ x then (if x ≤ wrap64 (x + p.length) then (if wrap64 (x + p.length) ≤ (s.length : Int) then (if (s.drop x.toNat).take ((wrap64 (x + p.length)).toNat - x.toNat) = p then some x else l k (wrap64 (x - 1))) else none) else none) else none) else some (-1)) :
    Ev (fun k => l k (wrap64 ((s.length : Int) - p.length))) (at_ 0 (lastPlace p s)) := by
  have key : ∀ i : Nat, i + p.length ≤ s.length → Ev (fun k => l k (i : Int)) (at_ 0 (lastAt p s i)) := by
    intro i
    induction i with
    | zero =>
      intro hi
      rw [lastAt]
      by_cases hm : p.isPrefixOf s = true
      · rw [if_pos hm]
        refine Ev.step (f := fun _ => some 0) (fun k => ?_) (Ev.now _)
        have := (pre_iff _ _).1 hm
        rw [h, w64 (by omega) (by omega), if_pos (by omega), if_pos (by omega), if_pos (by omega), if_pos (by omega), if_pos]; rfl
        simpa using this
      · rw [if_neg hm]
        refine Ev.step (f := fun k => l k (-1)) (fun k => ?_) (Ev.step (f := fun _ => some (-1)) (fun k => by rw [h, if_neg (by omega)]) (Ev.now _))
        rw [h, w64 (by omega) (by omega), if_pos (by omega), if_pos (by omega), if_pos (by omega), if_pos (by omega), if_neg, w64 (by omega) (by omega)]; rfl
        intro e; exact hm ((pre_iff _ _).2 (by simpa using e))
    | succ i ih =>
      intro hi
      have e1 : ((((i + 1 : Nat) : Int) + (p.length : Int)).toNat - ((i + 1 : Nat) : Int).toNat) = p.length := by omega
      rw [lastAt]
      by_cases hm : p.isPrefixOf (s.drop (i + 1)) = true
      · rw [if_pos hm]
        refine Ev.step (f := fun _ => some ((i + 1 : Nat) : Int)) (fun k => ?_) (Ev.now _)
        rw [h, w64 (by omega) (by omega), if_pos (by omega), if_pos (by omega), if_pos (by omega), if_pos (by omega), e1, Int.toNat_natCast, if_pos ((pre_iff _ _).1 hm)]
      · rw [if_neg hm]
        refine Ev.step (f := fun k => l k (i : Int)) (fun k => ?_) (ih (by omega))
        rw [h, w64 (by omega) (by omega), if_pos (by omega), if_pos (by omega), if_pos (by omega), if_pos (by omega), e1, Int.toNat_natCast, if_neg (fun e => hm ((pre_iff _ _).2 e)), w64 (by omega) (by omega)]
        rw [show (((i + 1 : Nat) : Int) - 1) = (i : Int) by omega]
  rw [w64 (by omega) (by omega)]
  unfold lastPlace
  by_cases hle : p.length ≤ s.length
  · rw [if_pos hle, show ((s.length : Int) - (p.length : Int)) = ((s.length - p.length : Nat) : Int) by omega]
    exact key _ (by omega)
  · rw [if_neg hle]
    exact Ev.step (f := fun _ => some (-1)) (fun k => by rw [h, if_neg (by omega)]) (Ev.now _)
theorem zzlast_ev (s p : ByteArray) (hs : s.size ≤ 1000) (hp : p.size ≤ 1000) : Ev (fun k => xstrings_zzLastIndex.f k s p) (at_ 0 (lastPlace p.toList s.toList)) := by
  have hl := len_eq s; have hl' := len_eq p
  have := lastSearch (fun k x => xstrings_zzLastIndex.l0 k s p x) s.toList p.toList (by omega) (by omega) (fun k x => by
    simp only [xstrings_zzLastIndex.l0, tl_extract, hl, hl'])
  simpa [xstrings_zzLastIndex.f, hl, hl'] using this
theorem last_ev (p s : ByteArray) (hs : s.size ≤ 1000) (hp : p.size ≤ 1000) : Ev (fun k => spec_LastPlace.f k p s) (at_ 0 (lastPlace p.toList s.toList)) := by
  have hl := len_eq s; have hl' := len_eq p
  have := lastSearch (fun k x => spec_LastPlace.l0 k p s x) s.toList p.toList (by omega) (by omega) (fun k x => by
    simp only [spec_LastPlace.l0, tl_extract, hl, hl'])
  simpa [spec_LastPlace.f, hl, hl'] using this

def partAt (s p : ByteArray) (none' : ByteArray × ByteArray × ByteArray) : Option Nat → ByteArray × ByteArray × ByteArray
  | none => none'
  | some j => (s.extract 0 j, s.extract j (j + p.size), s.extract (j + p.size) s.size)
theorem part_ev (s p : ByteArray) (hs : s.size ≤ 1000) (hp : p.size ≤ 1000) : Ev (fun k => impl_PartitionOf.f k s p) (partAt s p (s, ⟨#[]⟩, ⟨#[]⟩) (idx p.toList s.toList)) := by
  have hl := len_eq s; have hl' := len_eq p
  unfold impl_PartitionOf.f xstrings_Partition.f
  refine Ev.andThen (Ev.andThen (zz_ev s p hs hp) ?_) (Ev.now _)
  cases hx : idx p.toList s.toList with
  | none => exact Ev.pos rfl (Ev.now _)
  | some j =>
    have h1 := (idx_some hx).1
    refine Ev.neg (by simp only [at_]; omega) (Ev.const ?_)
    have w1 : wrap64 ((j : Int) + (p.size : Int)) = ((j + p.size : Nat) : Int) := by rw [w64 (by omega) (by omega)]; omega
    have f2 : j ≤ s.size := by omega
    have f3 : j + p.size ≤ s.size := by omega
    have f4 : j ≤ j + p.size := by omega
    simp only [at_, Nat.add_zero, w1, Int.ofNat_le, Int.natCast_nonneg, Int.toNat_natCast, f2, f3, f4, if_true]
theorem lpart_ev (s p : ByteArray) (hs : s.size ≤ 1000) (hp : p.size ≤ 1000) : Ev (fun k => impl_LastPartitionOf.f k s p) (partAt s p (⟨#[]⟩, ⟨#[]⟩, s) (lastPlace p.toList s.toList)) := by
  have hl := len_eq s; have hl' := len_eq p
  unfold impl_LastPartitionOf.f xstrings_LastPartition.f
  refine Ev.andThen (Ev.andThen (zzlast_ev s p hs hp) ?_) (Ev.now _)
  cases hx : lastPlace p.toList s.toList with
  | none => exact Ev.pos rfl (Ev.now _)
  | some j =>
    have h1 := lastPlace_some hx
    refine Ev.neg (by simp only [at_]; omega) (Ev.const ?_)
    have w1 : wrap64 ((j : Int) + (p.size : Int)) = ((j + p.size : Nat) : Int) := by rw [w64 (by omega) (by omega)]; omega
    have f2 : j ≤ s.size := by omega
    have f3 : j + p.size ≤ s.size := by omega
    have f4 : j ≤ j + p.size := by omega
    simp only [at_, Nat.add_zero, w1, Int.ofNat_le, Int.natCast_nonneg, Int.toNat_natCast, f2, f3, f4, if_true]
theorem lastPlace_pre {p s : List UInt8} {j : Nat} (h : lastPlace p s = some j) : p.isPrefixOf (s.drop j) = true := by
  unfold lastPlace at h
  split at h
  · exact (lastAt_some h).2
  · exact absurd h (by simp)
theorem mid_eq (s p : ByteArray) (j : Nat) (h : p.toList.isPrefixOf (s.toList.drop j) = true) : (s.extract j (j + p.size)).toList = p.toList := by
  rw [tl_extract, show j + p.size - j = p.toList.length by rw [len_eq]; omega]
  exact (pre_iff _ _).1 h

theorem FnPartition : laws_FnPartition.Pure := by
  intro s p hs hp
  apply Ev.rounds
  have big : Ev (fun k => laws_FnPartition.j0 k s p true) true := Ev.step (f := fun _ => some true) (fun k => by simp only [laws_FnPartition.j0, if_true]) (Ev.now _)
  have big1 : Ev (fun k => laws_FnPartition.j1 k s p true) true := Ev.step (f := fun _ => some true) (fun k => by simp only [laws_FnPartition.j1, if_true]) (Ev.now _)
  unfold laws_FnPartition.f
  by_cases h1 : (s.size : Int) > 2147483647
  · exact Ev.pos h1 big
  refine Ev.neg h1 ?_
  by_cases h2 : (p.size : Int) > 2147483647
  · rw [decide_eq_true h2]; exact big
  rw [decide_eq_false h2]
  refine Ev.step (fun k => by simp only [laws_FnPartition.j0]; rw [if_neg (by decide)]) ?_
  refine Ev.andThen (text_ev [s, p] (by simp)) ?_
  cases htx : textL [s, p] with
  | false => exact Ev.neg (by decide) big1
  | true =>
    refine Ev.pos rfl ?_
    simp only [textL, List.all_cons, List.all_nil, Bool.and_true, Bool.and_eq_true, decide_eq_true_eq] at htx
    obtain ⟨⟨z1, _⟩, ⟨z2, _⟩⟩ := htx
    by_cases hp0 : p.toList = []
    · exact Ev.pos hp0 big1
    refine Ev.neg hp0 ?_
    cases hs0 : (s.toList == ([] : List UInt8)) with
    | true => exact big1
    | false =>
      have hl := len_eq s; have hl' := len_eq p
      refine Ev.step (fun k => by simp only [laws_FnPartition.j1]; rw [if_neg (by decide)]) ?_
      refine Ev.andThen (part_ev s p (by omega) (by omega)) (Ev.andThen (lpart_ev s p (by omega) (by omega)) (Ev.andThen (place_ev p s (by omega) (by omega)) (Ev.andThen (last_ev p s (by omega) (by omega)) (Ev.const ?_))))
      cases hx : idx p.toList s.toList with
      | none =>
        rw [(last_none_iff _ _).2 hx]
        simp [at_, partAt, Lib.toList_data]
      | some j =>
        cases hy : lastPlace p.toList s.toList with
        | none => rw [(last_none_iff _ _).1 hy] at hx; exact absurd hx (by simp)
        | some i =>
          have a1 := idx_some hx; have b1 := lastPlace_some hy; have b2 := lastPlace_pre hy
          have m1 := mid_eq s p j a1.2; have m2 := mid_eq s p i b2
          have w1 : wrap64 ((j : Int) + (p.size : Int)) = ((j + p.size : Nat) : Int) := by rw [w64 (by omega) (by omega)]; omega
          have w2 : wrap64 ((i : Int) + (p.size : Int)) = ((i + p.size : Nat) : Int) := by rw [w64 (by omega) (by omega)]; omega
          have f1 : ¬ ((j : Int) < 0) := by omega
          have f2 : j ≤ s.size := by omega
          have f3 : j + p.size ≤ s.size := by omega
          have f4 : i ≤ s.size := by omega
          have f5 : i + p.size ≤ s.size := by omega
          simp only [at_, partAt, Nat.add_zero, w1, w2, m1, m2, Int.ofNat_le, Int.natCast_nonneg, Int.toNat_natCast, f1, f2, f3, f4, f5, if_true, if_false, beq_self_eq_true]

end Go.Proofs.Ytjpocldnibmopaa.Pure
