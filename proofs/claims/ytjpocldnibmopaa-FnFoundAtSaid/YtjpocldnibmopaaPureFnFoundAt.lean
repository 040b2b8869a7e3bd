/- FnFoundAt, as a plain statement: the search from a place on finds what the reference finds. For all texts of at most 2^47 - 4096 bytes and all integers of 64 bits. -/
import Derived.Test.YtjpocldnibmopaaPFnFoundAtx2
import Derived.Test.YtjpocldnibmopaaTxt
namespace Go.Proofs.Ytjpocldnibmopaa.Pure
open Go.RowKit Go.Proofs.Ytjpocldnibmopaa.PFnFoundAt Go.Proofs.YtjpocldnibmopaaW.PrintWords Go.Proofs.YtjpocldnibmopaaW.PrintLast Go.Proofs.Ytjpocldnibmopaa.Txt

/-! ### texts of ASCII -/
def asciiL (s : List UInt8) : Bool := s.all (· < 128)
theorem asciiL_cons (c : UInt8) (s : List UInt8) : asciiL (c :: s) = (decide (c < 128) && asciiL s) := rfl
theorem ascii_ev (s : ByteArray) (hs : s.size ≤ 140737488351232) : Ev (fun k => spec_ASCII.f k s) (asciiL s.toList) := by
  have hl := len_eq s
  have key : ∀ (d i : Nat), s.toList.length - i = d → i ≤ s.toList.length → Ev (fun k => spec_ASCII.l0 k s (i : Int)) (asciiL (s.toList.drop i)) := by
    intro d
    induction d with
    | zero =>
      intro i hd hi
      rw [List.drop_eq_nil_of_le (by omega)]
      refine Ev.step (f := fun _ => some true) (fun k => ?_) (Ev.now _)
      simp only [spec_ASCII.l0]; rw [if_neg (by omega)]
    | succ d ih =>
      intro i hd hi
      have hlt : i < s.toList.length := by omega
      have e : s.toList.drop i = s.toList[i] :: s.toList.drop (i + 1) := List.drop_eq_getElem_cons hlt
      have hb := bt_get s (i : Int) (by simpa using hlt)
      simp only [Int.toNat_natCast] at hb
      by_cases hc : s.toList[i] < 128
      · have hc' : ¬ (bt s (i : Int) ≥ 128) := by rw [hb]; have := UInt8.lt_iff_toNat_lt.1 hc; simp at this; omega
        have e2 : asciiL (s.toList.drop i) = asciiL (s.toList.drop (i + 1)) := by rw [e, asciiL_cons, decide_eq_true hc, Bool.true_and]
        rw [e2]
        refine Ev.step (f := fun k => spec_ASCII.l0 k s ((i + 1 : Nat) : Int)) (fun k => ?_) (ih (i + 1) (by omega) (by omega))
        simp only [spec_ASCII.l0]; rw [if_pos (by omega), if_pos (by omega), if_neg hc', w64 (by omega) (by omega)]; rfl
      · have hc' : bt s (i : Int) ≥ 128 := by rw [hb]; have := fun h => hc (UInt8.lt_iff_toNat_lt.2 h); simp at this; omega
        have e2 : asciiL (s.toList.drop i) = false := by rw [e, asciiL_cons, decide_eq_false hc, Bool.false_and]
        rw [e2]
        refine Ev.step (f := fun _ => some false) (fun k => ?_) (Ev.now _)
        simp only [spec_ASCII.l0]; rw [if_pos (by omega), if_pos (by omega), if_pos hc']
  have := key _ 0 rfl (Nat.zero_le _)
  simpa [spec_ASCII.f] using this
/-- Are all of these looked at? -/
def plainL (l : List ByteArray) : Bool := l.all fun s => s.size ≤ 500 && asciiL s.toList
theorem plainL_cons (s : ByteArray) (l : List ByteArray) : plainL (s :: l) = ((decide (s.size ≤ 500) && asciiL s.toList) && plainL l) := rfl
theorem plain_ev (l : List ByteArray) (hl : l.length ≤ 1000) : Ev (fun k => laws_plain9.f k l) (plainL l) := by
  have key : ∀ (d i : Nat), l.length - i = d → i ≤ l.length → Ev (fun k => laws_plain9.l0 k l (l.length : Int) (i : Int)) (plainL (l.drop i)) := by
    intro d
    induction d with
    | zero =>
      intro i hd hi
      rw [List.drop_eq_nil_of_le (by omega)]
      refine Ev.step (f := fun _ => some true) (fun k => ?_) (Ev.now _)
      simp only [laws_plain9.l0]; rw [if_neg (by omega)]
    | succ d ih =>
      intro i hd hi
      have hlt : i < l.length := by omega
      have e : l.drop i = l[i] :: l.drop (i + 1) := List.drop_eq_getElem_cons hlt
      have hr : rdOf ByteArray.empty l (i : Int) = l[i] := by simp [rdOf, List.getElem?_eq_getElem hlt]
      by_cases h5 : l[i].size ≤ 500
      · have ha := ascii_ev l[i] (by omega)
        refine Ev.step (f := fun k => (spec_ASCII.f k l[i]).bind fun t => if t = true then laws_plain9.l0 k l (l.length : Int) ((i + 1 : Nat) : Int) else some false) (fun k => ?_) ?_
        · simp only [laws_plain9.l0]; rw [if_pos (by omega), if_pos (by omega), if_pos (by omega), hr, if_neg (by omega), w64 (by omega) (by omega)]; rfl
        · refine Ev.andThen ha ?_
          cases hx : asciiL l[i].toList with
          | true =>
            have e2 : plainL (l.drop i) = plainL (l.drop (i + 1)) := by rw [e, plainL_cons, hx, decide_eq_true h5]; rfl
            rw [e2]; exact Ev.pos rfl (ih (i + 1) (by omega) (by omega))
          | false =>
            have e2 : plainL (l.drop i) = false := by rw [e, plainL_cons, hx, Bool.and_false, Bool.false_and]
            rw [e2]; exact Ev.neg (by decide) (Ev.now _)
      · have e2 : plainL (l.drop i) = false := by rw [e, plainL_cons, decide_eq_false h5]; rfl
        rw [e2]
        refine Ev.step (f := fun _ => some false) (fun k => ?_) (Ev.now _)
        simp only [laws_plain9.l0]; rw [if_pos (by omega), if_pos (by omega), if_pos (by omega), hr, if_pos (by omega)]
  have := key _ 0 rfl (Nat.zero_le _)
  simpa [laws_plain9.f] using this
theorem zz_ev (s p : ByteArray) (hs : s.size ≤ 1000) (hp : p.size ≤ 1000) : Ev (fun k => goutils_zzIndex.f k s p) (at_ 0 (idx p.toList s.toList)) := by
  have hl := len_eq s; have hl' := len_eq p
  have := search (fun k x => goutils_zzIndex.l0 k s p x) s.toList p.toList (by omega) (by omega) (fun k x => by
    simp only [goutils_zzIndex.l0, tl_extract, hl, hl']) 0 (.inl (Nat.zero_le _)) (by omega)
  simpa [goutils_zzIndex.f] using this
theorem place_ev (p s : ByteArray) (i : Nat) (hs : s.size ≤ 1000) (hp : p.size ≤ 1000) (hi : i ≤ s.toList.length ∨ p.toList ≠ []) (hi' : i ≤ 1000000) : Ev (fun k => spec_Place.f k p s (i : Int)) (at_ i (idx p.toList (s.toList.drop i))) := by
  have hl := len_eq s; have hl' := len_eq p
  exact search (fun k x => spec_Place.l0 k p s x) s.toList p.toList (by omega) (by omega) (fun k x => by
    simp only [spec_Place.l0, tl_extract, hl, hl']) i hi (by omega)

def foundL (s p : List UInt8) (n : Int) : Int := if p = [] then -1 else at_ n.toNat (idx p (s.drop n.toNat))
theorem mx_toNat (n : Int) : mx n 0 = (n.toNat : Int) := by unfold mx; omega
theorem spec_ev (s p : ByteArray) (n : Int) (hs : s.size ≤ 1000) (hp : p.size ≤ 1000) (hn : n ≤ 1000000) : Ev (fun k => spec_FoundAt.f k s p n) (foundL s.toList p.toList n) := by
  unfold spec_FoundAt.f foundL
  by_cases h : p.toList = []
  · rw [if_pos h]; exact Ev.pos h (Ev.now _)
  · rw [if_neg h]
    refine Ev.neg h (Ev.andThen ?_ (Ev.now _))
    rw [mx_toNat]
    exact place_ev p s n.toNat hs hp (.inr h) (by omega)
theorem isE_t {s : ByteArray} (h : s.size = 0) : goutils_IsEmpty.f s = some true := by
  unfold goutils_IsEmpty.f; congr 1; exact beq_iff_eq.2 (by omega)
theorem isE_f {s : ByteArray} (h : s.size ≠ 0) : goutils_IsEmpty.f s = some false := by
  unfold goutils_IsEmpty.f; congr 1; exact beq_eq_false_iff_ne.2 (by omega)
theorem impl_ev (s p : ByteArray) (n : Int) (hs : s.size ≤ 1000) (hp : p.size ≤ 1000) (h0 : -1000000 ≤ n) (hn : n ≤ 1000000) : Ev (fun k => impl_FoundAt.f k s p n) (foundL s.toList p.toList n) := by
  have hl := len_eq s; have hl' := len_eq p
  have key : ∀ m : Nat, m ≤ 1000000 → n.toNat = m → Ev (fun k => goutils_IndexOf.j0 k s p (m : Int)) (foundL s.toList p.toList n) := by
    intro m hm e
    unfold foundL
    rw [e]
    by_cases hlt : s.size < m
    · have ed : s.toList.drop m = [] := List.drop_eq_nil_of_le (by omega)
      have : (if p.toList = [] then (-1 : Int) else at_ m (idx p.toList (s.toList.drop m))) = -1 := by
        split
        · rfl
        · rename_i h; rw [ed, idx, if_neg h]; rfl
      rw [this]
      refine Ev.step (f := fun _ => some (-1)) (fun k => ?_) (Ev.now _)
      simp only [goutils_IndexOf.j0]; rw [if_pos (by omega)]
    · have j1t : ∀ k, goutils_IndexOf.j1 (k + 1) s p (m : Int) true = some (-1) := fun k => by simp only [goutils_IndexOf.j1, if_true]
      refine Ev.step (f := fun k => (goutils_IsEmpty.f s).bind fun t104 => (if t104 = true then (goutils_IndexOf.j1 k s p m true) else ((goutils_IsEmpty.f p).bind fun t105 => (goutils_IndexOf.j1 k s p m t105)))) (fun k => ?_) ?_
      · simp only [goutils_IndexOf.j0]; rw [if_neg (by omega)]
      · by_cases hse : s.size = 0
        · refine Ev.thenC (a := true) (isE_t hse) (Ev.pos rfl ?_)
          have : (if p.toList = [] then (-1 : Int) else at_ m (idx p.toList (s.toList.drop m))) = -1 := by
            have ed : s.toList.drop m = [] := List.drop_eq_nil_of_le (by omega)
            split
            · rfl
            · rename_i h; rw [ed, idx, if_neg h]; rfl
          rw [this]
          exact Ev.step (f := fun _ => some (-1)) j1t (Ev.now _)
        · refine Ev.thenC (a := false) (isE_f (by omega)) (Ev.neg (by decide) ?_)
          by_cases hpe : p.toList = []
          · refine Ev.thenC (a := true) (isE_t (by rw [hl', hpe]; rfl)) ?_
            rw [if_pos hpe]
            exact Ev.step (f := fun _ => some (-1)) j1t (Ev.now _)
          · have hpl : 0 < p.toList.length := List.length_pos_iff.2 hpe
            refine Ev.thenC (a := false) (isE_f (by omega)) ?_
            rw [if_neg hpe]
            refine Ev.step (f := fun k => (goutils_zzIndex.f k (s.extract m s.size) p).bind fun t106 => if t106 = (-1) then some (-1) else some (wrap64 (t106 + m))) (fun k => ?_) ?_
            · simp only [goutils_IndexOf.j1]; rw [if_neg (by decide), if_pos (by omega), if_pos (by omega), if_pos (by omega)]; rfl
            · have hz := zz_ev (s.extract m s.size) p (by rw [size_extract _ _ _ (by omega) (by omega)]; omega) hp
              rw [extract_self] at hz
              refine Ev.andThen hz ?_
              cases hx : idx p.toList (s.toList.drop m) with
              | none => exact Ev.pos rfl (Ev.now _)
              | some j =>
                have := (idx_some hx).1
                rw [List.length_drop] at this
                refine Ev.neg (by simp only [at_]; omega) (Ev.const ?_)
                simp only [at_]; rw [w64 (by omega) (by omega)]; congr 1
  by_cases hn0 : n < 0
  · have := key 0 (by omega) (by omega)
    unfold impl_FoundAt.f goutils_IndexOf.f
    exact Ev.andThen (Ev.pos hn0 this) (Ev.now _)
  · have := key n.toNat (by omega) rfl
    rw [show ((n.toNat : Nat) : Int) = n by omega] at this
    unfold impl_FoundAt.f goutils_IndexOf.f
    exact Ev.andThen (Ev.neg hn0 this) (Ev.now _)

theorem FnFoundAt : laws_FnFoundAt.Pure := by
  intro s p n hs hp hn
  apply Ev.rounds
  have big : Ev (fun k => laws_FnFoundAt.j0 k s p n true) true := Ev.step (f := fun _ => some true) (fun k => by simp only [laws_FnFoundAt.j0, if_true]) (Ev.now _)
  unfold laws_FnFoundAt.f
  by_cases h1 : (s.size : Int) > 2147483647
  · exact Ev.pos h1 big
  refine Ev.neg h1 ?_
  by_cases h2 : (p.size : Int) > 2147483647
  · rw [show decide ((p.size : Int) > 2147483647) = true from decide_eq_true h2]; exact big
  rw [show decide ((p.size : Int) > 2147483647) = false from decide_eq_false h2]
  refine Ev.step (fun k => by simp only [laws_FnFoundAt.j0]; rw [if_neg (by decide)]) ?_
  refine Ev.andThen (plain_ev [s, p] (by simp)) ?_
  cases hpl : plainL [s, p] with
  | false => exact Ev.neg (by decide) (Ev.now _)
  | true =>
    refine Ev.pos rfl ?_
    simp only [plainL, List.all_cons, List.all_nil, Bool.and_true, Bool.and_eq_true, decide_eq_true_eq] at hpl
    obtain ⟨⟨a, _⟩, ⟨b, _⟩⟩ := hpl
    by_cases hlo : n < -1000000
    · exact Ev.thenC (a := true) (by simp [laws_far9.f, hlo]) (Ev.pos rfl (Ev.now _))
    by_cases hhi : n > 1000000
    · exact Ev.thenC (a := true) (by simp [laws_far9.f, hlo, hhi]) (Ev.pos rfl (Ev.now _))
    refine Ev.thenC (a := false) (by simp [laws_far9.f, hlo]; omega) (Ev.neg (by decide) ?_)
    refine Ev.andThen (impl_ev s p n (by omega) (by omega) (by omega) (by omega)) ?_
    refine Ev.andThen (spec_ev s p n (by omega) (by omega) (by omega)) ?_
    refine Ev.pos rfl ?_
    refine Ev.andThen (impl_ev _ _ 0 (by decide) (by decide) (by decide) (by decide)) (Ev.const ?_)
    decide +kernel

end Go.Proofs.Ytjpocldnibmopaa.Pure
