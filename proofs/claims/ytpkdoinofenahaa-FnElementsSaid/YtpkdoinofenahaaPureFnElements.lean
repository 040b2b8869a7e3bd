/- FnElements, as a plain statement: the last element, all but the last one, the end of its name, a slash ahead. -/
import Derived.Test.YtpkdoinofenahaaPFnElementsx4
import Derived.Test.YtpkdoinofenahaaTxt
namespace Go.Proofs.Ytpkdoinofenahaa.Pure
open Go.RowKit Go.Proofs.Ytpkdoinofenahaa.PFnElements Go.Proofs.YtpkdoinofenahaaW.PrintWords Go.Proofs.YtpkdoinofenahaaW.PrintLast Go.Proofs.Ytpkdoinofenahaa.Txt Go.Proofs.Ytpkdoinofenahaa Go.Lib

/-! ### the parts of a text -/
theorem place_ev (p s : ByteArray) (i : Nat) (hs : s.size ≤ 100000) (hp : p.size ≤ 100000) (hi : i ≤ s.toList.length ∨ p.toList ≠ []) (hi' : i ≤ 1000000) : Ev (fun k => spec_Place.f k p s (i : Int)) (at_ i (idx p.toList (s.toList.drop i))) := by
  have hl := len_eq s; have hl' := len_eq p
  exact search (fun k x => spec_Place.l0 k p s x) s.toList p.toList (by omega) (by omega) (fun k x => by
    simp only [spec_Place.l0, tl_extract, hl, hl']) i hi (by omega)
theorem split_ev (p s : ByteArray) (hs : s.size ≤ 100000) (hp : p.size ≤ 100000) (hp0 : p.toList ≠ []) :
    ∃ l : List ByteArray, Ev (fun k => spec_SplitList.f k p s) l ∧ l.map ByteArray.toList = splitL p.toList s.toList := by
  have hl := len_eq s; have hl' := len_eq p
  have hpp := List.length_pos_iff.2 hp0
  have key : ∀ (d i : Nat) (acc : List ByteArray), s.size - i ≤ d → i ≤ s.size → acc.length + d ≤ 200000 → ∃ l : List ByteArray, Ev (fun k => spec_SplitList.l0 k p s acc (i : Int)) l ∧ l.map ByteArray.toList = acc.map ByteArray.toList ++ splitL p.toList (s.toList.drop i) := by
    intro d
    induction d with
    | zero =>
      intro i acc hd hi ha
      have e : s.toList.drop i = [] := List.drop_eq_nil_of_le (by omega)
      have hx : idx p.toList (s.toList.drop i) = none := by rw [e, idx, if_neg hp0]
      refine ⟨acc ++ [s.extract i s.size], Ev.step (fun k => by simp only [spec_SplitList.l0]; rfl) ?_, ?_⟩
      · refine Ev.andThen (place_ev p s i hs hp (.inr hp0) (by omega)) ?_
        rw [hx, show at_ i none = -1 from rfl]
        refine Ev.congr (f := fun _ => some (acc ++ [s.extract i s.size])) (fun k => ?_) (Ev.now _)
        rw [if_pos (show (-1 : Int) < 0 by decide), if_pos (show 0 ≤ (i : Int) by omega), if_pos (show (i : Int) ≤ (s.size : Int) by omega), if_pos (show acc.length < 8796093022208 by omega), Int.toNat_natCast]
      · rw [splitL_none hp0 hx, List.map_append, List.map_singleton, extract_self]
    | succ d ih =>
      intro i acc hd hi ha
      cases hx : idx p.toList (s.toList.drop i) with
      | none =>
        refine ⟨acc ++ [s.extract i s.size], Ev.step (fun k => by simp only [spec_SplitList.l0]; rfl) ?_, ?_⟩
        · refine Ev.andThen (place_ev p s i hs hp (.inr hp0) (by omega)) ?_
          rw [hx, show at_ i none = -1 from rfl]
          refine Ev.congr (f := fun _ => some (acc ++ [s.extract i s.size])) (fun k => ?_) (Ev.now _)
          rw [if_pos (show (-1 : Int) < 0 by decide), if_pos (show 0 ≤ (i : Int) by omega), if_pos (show (i : Int) ≤ (s.size : Int) by omega), if_pos (show acc.length < 8796093022208 by omega), Int.toNat_natCast]
        · rw [splitL_none hp0 hx, List.map_append, List.map_singleton, extract_self]
      | some j =>
        have hj := (idx_some hx).1
        rw [List.length_drop] at hj
        have c1 : ¬ ((j + i : Nat) : Int) < 0 := Int.not_lt.2 (Int.natCast_nonneg _)
        have c2 : 0 ≤ (i : Int) := Int.natCast_nonneg _
        have c3 : (i : Int) ≤ ((j + i : Nat) : Int) := Int.ofNat_le.2 (Nat.le_add_left _ _)
        have c4 : ((j + i : Nat) : Int) ≤ (s.size : Int) := Int.ofNat_le.2 (by omega)
        have c5 : acc.length < 8796093022208 := by omega
        obtain ⟨l, hl1, hl2⟩ := ih (j + i + p.size) (acc ++ [s.extract i (j + i)]) (by omega) (by omega) (by simp; omega)
        refine ⟨l, Ev.step (fun k => by simp only [spec_SplitList.l0]; rfl) ?_, ?_⟩
        · refine Ev.andThen (place_ev p s i hs hp (.inr hp0) (by omega)) ?_
          rw [hx]
          rw [show at_ i (some j) = ((j + i : Nat) : Int) from rfl]
          rw [wadd _ _ (by omega), Int.toNat_natCast, Int.toNat_natCast]
          refine Ev.congr (fun k => ?_) hl1
          rw [if_neg c1, if_pos c2, if_pos c3, if_pos c4, if_pos c5]
        · rw [hl2, splitL_some hp0 hx, List.map_append, List.map_singleton, tl_extract, List.append_assoc, List.singleton_append]
          congr 2
          · congr 1; omega
          · rw [List.drop_drop]; congr 2; omega
  obtain ⟨l, h1, h2⟩ := key _ 0 [] (Nat.le_refl _) (Nat.zero_le _) (by simp; omega)
  exact ⟨l, by simpa [spec_SplitList.f] using h1, by simpa using h2⟩
/-! ### texts joined -/
/-- The bytes of texts with one between each two. -/
def joinL (p : List UInt8) : List (List UInt8) → List UInt8
  | [] => []
  | [x] => x
  | x :: y :: l => x ++ p ++ joinL p (y :: l)
/-- What stands behind the first part. -/
def tailL (p : List UInt8) (l : List (List UInt8)) : List UInt8 := l.flatMap fun x => p ++ x
theorem joinL_cons (p x : List UInt8) (l : List (List UInt8)) : joinL p (x :: l) = x ++ tailL p l := by
  induction l generalizing x with
  | nil => simp [joinL, tailL]
  | cons y l ih => rw [joinL, ih]; simp [tailL]
theorem joined_ev (p : ByteArray) (l : List ByteArray) (hp : p.size ≤ 100000) (hn : l.length ≤ 100000) (hl : ∀ x ∈ l, x.size ≤ 100000) :
    ∃ r : ByteArray, Ev (fun k => spec_Joined.f k p l) r ∧ r.toList = joinL p.toList (l.map ByteArray.toList) := by
  have key : ∀ (d i : Nat) (acc : ByteArray), l.length - i = d → 0 < i → i ≤ l.length → acc.size ≤ i * 200000 → ∃ r : ByteArray, Ev (fun k => spec_Joined.l0 k p l acc (l.length : Int) (i : Int)) r ∧ r.toList = acc.toList ++ tailL p.toList ((l.drop i).map ByteArray.toList) := by
    intro d
    induction d with
    | zero =>
      intro i acc hd h0 hi ha
      refine ⟨acc, Ev.step (f := fun _ => some acc) (fun k => by simp only [spec_Joined.l0]; rw [if_neg (by omega)]) (Ev.now _), ?_⟩
      rw [List.drop_eq_nil_of_le (by omega)]; simp [tailL]
    | succ d ih =>
      intro i acc hd h0 hi ha
      have hlt : i < l.length := by omega
      have e : l.drop i = l[i] :: l.drop (i + 1) := List.drop_eq_getElem_cons hlt
      have hr : rdOf ByteArray.empty l (i : Int) = l[i] := by simp [rdOf, List.getElem?_eq_getElem hlt]
      have hz := hl l[i] (List.getElem_mem hlt)
      have hs1 := size_append acc p; have hs2 := size_append (acc ++ p) l[i]
      obtain ⟨r, h1, h2⟩ := ih (i + 1) ((acc ++ p) ++ l[i]) (by omega) (by omega) (by omega) (by omega)
      refine ⟨r, Ev.step (f := fun k => spec_Joined.l0 k p l ((acc ++ p) ++ l[i]) (l.length : Int) ((i + 1 : Nat) : Int)) (fun k => ?_) h1, ?_⟩
      · simp only [spec_Joined.l0]
        rw [if_pos (by omega), if_pos (by omega), if_pos (by omega), if_pos (by omega), if_pos (by omega), hr, if_pos (by omega), w64 (by omega) (by omega)]; rfl
      · rw [h2, e, List.map_cons, tl_append, tl_append]; simp [tailL]
  cases l with
  | nil => exact ⟨⟨#[]⟩, Ev.step (f := fun _ => some _) (fun k => by show spec_Joined.l0 (k + 1) p [] ⟨#[]⟩ _ 0 = _; simp only [spec_Joined.l0]; rw [if_neg (by decide)]) (Ev.now _), tl_nil⟩
  | cons x l =>
    have hz := hl x (List.mem_cons_self ..)
    have he : (⟨#[]⟩ : ByteArray) ++ x = x := ext_eq (by rw [tl_append, tl_nil, List.nil_append])
    obtain ⟨r, h1, h2⟩ := key _ 1 x rfl (by omega) (by simp) (by omega)
    refine ⟨r, Ev.step (f := fun k => spec_Joined.l0 k p (x :: l) x ((x :: l).length : Int) ((1 : Nat) : Int)) (fun k => ?_) h1, ?_⟩
    · show spec_Joined.l0 (k + 1) p (x :: l) ⟨#[]⟩ _ 0 = _
      simp only [spec_Joined.l0]
      rw [if_pos (by simp only [List.length_cons]; omega), if_neg (by omega), if_pos (by omega), if_pos (by simp only [List.length_cons]; omega)]
      have hr : rdOf ByteArray.empty (x :: l) 0 = x := rfl
      rw [hr, he, if_pos (by show 0 + x.size ≤ _; omega), w64 (by decide) (by decide)]; rfl
    · rw [h2, List.map_cons, joinL_cons]; rfl
/-! ### by the elements -/
theorem els_ne (s : List UInt8) : Pa.els s ≠ [] := by
  cases s with
  | nil => simp [Pa.els]
  | cons c t =>
    rw [Pa.els]
    split
    · simp
    · split <;> simp
theorem splitL_els (s : List UInt8) : splitL [47] s = Pa.els s := by
  induction s with
  | nil => rfl
  | cons c t ih =>
    rw [Pa.els]
    by_cases hc : c = 47
    · subst hc
      rw [if_pos rfl, splitL_some (j := 0) (by decide) (idx_hit _ _ (by simp)), ← ih]; rfl
    · rw [if_neg hc, ← ih]
      have hn : ¬ ([47] : List UInt8).isPrefixOf (c :: t) = true := by simp; exact fun e => hc e.symm
      cases hx : idx [47] t with
      | none =>
        rw [splitL_none (by decide) (by rw [idx_miss _ _ _ hn, hx]; rfl), splitL_none (by decide) hx]
      | some j =>
        rw [splitL_some (j := j + 1) (by decide) (by rw [idx_miss _ _ _ hn, hx]; rfl), splitL_some (by decide) hx]
        rfl

theorem els_small (s : List UInt8) : ∀ e ∈ Pa.els s, e.length ≤ s.length := by
  induction s with
  | nil => intro e he; simp [Pa.els] at he; simp [he]
  | cons c t ih =>
    intro e he
    rw [Pa.els] at he
    split at he
    · rcases List.mem_cons.1 he with rfl | h
      · simp
      · have := ih e h; simp; omega
    · cases hx : Pa.els t with
      | nil => exact absurd hx (els_ne t)
      | cons a b =>
        rw [hx] at he ih
        rcases List.mem_cons.1 he with rfl | h
        · have := ih a (List.mem_cons_self ..); simp; omega
        · have := ih e (List.mem_cons_of_mem _ h); simp; omega
theorem els_few (s : List UInt8) : (Pa.els s).length ≤ s.length + 1 := by
  induction s with
  | nil => simp [Pa.els]
  | cons c t ih =>
    rw [Pa.els]
    split
    · simp; omega
    · cases hx : Pa.els t with
      | nil => simp
      | cons a b => rw [hx] at ih; simp at ih ⊢; omega

/-- What is told of the elements that were kept. -/
def finish (rooted : Bool) (st : List (List UInt8)) : List UInt8 :=
  if rooted then 47 :: joinL [47] st.reverse else if joinL [47] st.reverse = [] then [46] else joinL [47] st.reverse
theorem finish_ev (rooted : Bool) (out l : List ByteArray) (st : List (List UInt8)) (ho : out.map ByteArray.toList = st.reverse) (hn : out.length ≤ 100000) (hz : ∀ x ∈ out, x.size ≤ 100000) (n : Nat) (_hn' : n = l.length) :
    ∃ r : ByteArray, Ev (fun k => spec_Clean.l0 k rooted out l (n : Int) (n : Int)) r ∧ r.toList = finish rooted st := by
  obtain ⟨r, h1, h2⟩ := joined_ev ⟨#[47]⟩ out (by decide) hn hz
  rw [ho, show (⟨#[47]⟩ : ByteArray).toList = [47] from by rw [Lib.toList_data]] at h2
  have hb : r.size ≤ 10000000000000 := by
    obtain ⟨K, hK⟩ := h1
    rw [len_eq, h2]
    have : ∀ l : List ByteArray, (∀ x ∈ l, x.size ≤ 100000) → (joinL [47] (l.map ByteArray.toList)).length ≤ l.length * 100001 := by
      intro l
      induction l with
      | nil => intro _; simp [joinL]
      | cons x l ih =>
        intro h
        have hx := h x (List.mem_cons_self ..)
        rw [List.map_cons, joinL_cons]
        have ht : ∀ l : List ByteArray, (∀ x ∈ l, x.size ≤ 100000) → (tailL [47] (l.map ByteArray.toList)).length ≤ l.length * 100001 := by
          intro l
          induction l with
          | nil => intro _; simp [tailL]
          | cons y l ih2 =>
            intro h
            have hy := h y (List.mem_cons_self ..)
            have := ih2 (fun z hz => h z (List.mem_cons_of_mem _ hz))
            simp only [tailL, List.map_cons, List.flatMap_cons, List.length_append, List.length_cons, List.length_nil] at this ⊢
            rw [← len_eq]; omega
        have := ht l (fun z hz => h z (List.mem_cons_of_mem _ hz))
        rw [List.length_append, ← len_eq, List.length_cons]; omega
    have := this out hz
    rw [← ho]; omega
  unfold finish
  cases rooted with
  | true =>
    refine ⟨⟨#[47]⟩ ++ r, Ev.step (fun k => by simp only [spec_Clean.l0]; rw [if_neg (by omega)]) (Ev.andThen h1 (Ev.congr (f := fun _ => some (⟨#[47]⟩ ++ r)) (fun k => ?_) (Ev.now _))), ?_⟩
    · simp only [if_true]
      rw [if_pos (by omega)]
    · rw [tl_append, h2, if_pos rfl, show (⟨#[47]⟩ : ByteArray).toList = [47] from by rw [Lib.toList_data]]; rfl
  | false =>
    by_cases he : joinL [47] st.reverse = []
    · refine ⟨⟨#[46]⟩, Ev.step (fun k => by simp only [spec_Clean.l0]; rw [if_neg (by omega)]) (Ev.andThen h1 (Ev.congr (f := fun _ => some ⟨#[46]⟩) (fun k => ?_) (Ev.now _))), ?_⟩
      · rw [if_neg (by decide), if_pos (by rw [h2, he])]
      · rw [if_neg (by decide), if_pos he, Lib.toList_data]
    · refine ⟨r, Ev.step (fun k => by simp only [spec_Clean.l0]; rw [if_neg (by omega)]) (Ev.andThen h1 (Ev.congr (f := fun _ => some r) (fun k => ?_) (Ev.now _))), ?_⟩
      · rw [if_neg (by decide), if_neg (by rw [h2]; exact he)]
      · rw [if_neg (by decide), if_neg he, h2]

theorem loop_ev2 (rooted : Bool) (l : List ByteArray) (hl : l.length ≤ 10000) (hz : ∀ x ∈ l, x.size ≤ 100000) : ∀ (d i : Nat) (out : List ByteArray) (st : List (List UInt8)), l.length - i = d → i ≤ l.length →
    out.map ByteArray.toList = st.reverse → out.length ≤ i → (∀ x ∈ out, x.size ≤ 100000) → (rooted = true → ∀ e ∈ st, e ≠ [46, 46]) →
    ∃ r : ByteArray, Ev (fun k => spec_Clean.l0 k rooted out l (l.length : Int) (i : Int)) r ∧ r.toList = finish rooted (((l.drop i).map ByteArray.toList).foldl (Pa.cleanStep rooted) st) := by
  intro d
  induction d with
  | zero =>
    intro i out st hd hi ho hn hoz _
    obtain rfl : i = l.length := by omega
    rw [List.drop_eq_nil_of_le (Nat.le_refl _)]
    exact finish_ev rooted out l st ho (by omega) hoz l.length rfl
  | succ d ih =>
    intro i out st hd hi ho hn hoz hro
    have hlt : i < l.length := by omega
    have e : l.drop i = l[i] :: l.drop (i + 1) := List.drop_eq_getElem_cons hlt
    have hr : rdOf ByteArray.empty l (i : Int) = l[i] := by simp [rdOf, List.getElem?_eq_getElem hlt]
    have hx := hz l[i] (List.getElem_mem hlt)
    rw [e, List.map_cons, List.foldl_cons]
    have c1 : (i : Int) < (l.length : Int) := Int.ofNat_lt.2 hlt
    have c2 : 0 ≤ (i : Int) := Int.natCast_nonneg _
    -- the round's end
    have go : ∀ (out' : List ByteArray) (st' : List (List UInt8)), st' = Pa.cleanStep rooted st l[i].toList → out'.map ByteArray.toList = st'.reverse → out'.length ≤ i + 1 → (∀ x ∈ out', x.size ≤ 100000) → (rooted = true → ∀ e ∈ st', e ≠ [46, 46]) →
        ∀ g : Nat → Option ByteArray, (∀ k, g (k + 1) = spec_Clean.l0 k rooted out' l (l.length : Int) ((i + 1 : Nat) : Int)) → ∃ r : ByteArray, Ev g r ∧ r.toList = finish rooted (((l.drop (i + 1)).map ByteArray.toList).foldl (Pa.cleanStep rooted) (Pa.cleanStep rooted st l[i].toList)) := by
      intro out' st' h1 h2 h3 h4 h5 g hg
      obtain ⟨r, a, b⟩ := ih (i + 1) out' st' (by omega) (by omega) h2 h3 h4 h5
      exact ⟨r, Ev.step hg a, by rw [← h1]; exact b⟩
    have ws := wsucc i (by omega)
    have bind : ∀ {x : List UInt8} (g g' : Nat → Option ByteArray), (∀ k, g (k + 1) = g' k) → (∃ r : ByteArray, Ev g' r ∧ r.toList = x) → ∃ r : ByteArray, Ev g r ∧ r.toList = x := by
      intro x g g' h ⟨r, a, b⟩
      exact ⟨r, Ev.step h a, b⟩
    by_cases hs : l[i].toList = [] ∨ l[i].toList = [46]
    · refine bind _ (fun k => spec_Clean.j1 k rooted out l (i : Int) (l.length : Int) (i : Int) true) (fun k => ?_) (go out st ?_ ho (by omega) hoz hro _ (fun k => ?_))
      · simp only [spec_Clean.l0]
        rw [if_pos c1, if_pos c2, if_pos c1, hr]
        by_cases h : l[i].toList = []
        · rw [if_pos h]
        · rw [if_neg h, beq_iff_eq.2 (hs.resolve_left h)]
      · unfold Pa.cleanStep; rw [if_pos hs]
      · simp only [spec_Clean.j1, if_true]; rw [ws]
    · have h1 : ¬ l[i].toList = [] := fun h => hs (.inl h)
      have h2 : ¬ l[i].toList = [46] := fun h => hs (.inr h)
      refine bind _ (fun k => spec_Clean.j1 k rooted out l (i : Int) (l.length : Int) (i : Int) false) (fun k => ?_) ?_
      · simp only [spec_Clean.l0]
        rw [if_pos c1, if_pos c2, if_pos c1, hr, if_neg h1, beq_eq_false_iff_ne.2 h2]
      by_cases hdd : l[i].toList = [46, 46]
      · have hb : out.length = st.length := by have := congrArg List.length ho; simpa using this
        cases st with
        | nil =>
          have hout : out = [] := List.length_eq_zero_iff.1 (by rw [hb]; rfl)
          subst hout
          refine bind _ (fun k => spec_Clean.j2 k rooted [] l (l.length : Int) (i : Int) false) (fun k => ?_) ?_
          · simp only [spec_Clean.j1]
            rw [if_neg (by decide), if_pos c2, if_pos c1, hr, if_pos hdd, if_neg (by decide)]
          cases rooted with
          | true =>
            refine go [] [] ?_ rfl (by simp) (by simp) (by simp) _ (fun k => ?_)
            · unfold Pa.cleanStep; rw [if_neg hs, if_pos hdd]; rfl
            · simp only [spec_Clean.j2]; rw [if_neg (by decide), if_pos trivial, ws]
          | false =>
            refine go [⟨#[46, 46]⟩] [[46, 46]] ?_ ?_ (by simp) (by simp; decide) (by simp) _ (fun k => ?_)
            · unfold Pa.cleanStep; rw [if_neg hs, if_pos hdd, hdd]; rfl
            · simp [Lib.toList_data]
            · simp only [spec_Clean.j2]; rw [if_neg (by decide), if_neg (by decide), if_pos (by decide), ws]; rfl
        | cons x st =>
          have hlen : out.length = st.length + 1 := by rw [hb]; rfl
          have hws : wrap64 ((out.length : Int) - 1) = ((out.length - 1 : Nat) : Int) := wsub out.length 1 (by omega) (by omega)
          have hlast : (rdOf ByteArray.empty out ((out.length - 1 : Nat) : Int)).toList = x := by
            have hlt' : out.length - 1 < out.length := by omega
            have h3 : (out.map ByteArray.toList)[out.length - 1]? = some x := by
              rw [ho, List.reverse_cons, List.getElem?_append_right (by simp; omega)]
              simp [hlen]
            rw [List.getElem?_map, List.getElem?_eq_getElem hlt'] at h3
            simp only [rdOf, Int.toNat_natCast, List.getD_eq_getElem?_getD, List.getElem?_eq_getElem hlt', Option.getD_some]
            exact Option.some.inj h3
          have d1 : (out.length : Int) > 0 := by omega
          have d2 : 0 ≤ ((out.length - 1 : Nat) : Int) := Int.natCast_nonneg _
          have d3 : ((out.length - 1 : Nat) : Int) < (out.length : Int) := Int.ofNat_lt.2 (by omega)
          have d4 : ((out.length - 1 : Nat) : Int) ≤ (out.length : Int) := Int.ofNat_le.2 (by omega)
          refine bind _ (fun k => spec_Clean.j2 k rooted out l (l.length : Int) (i : Int) (x != [46, 46])) (fun k => ?_) ?_
          · simp only [spec_Clean.j1]
            rw [if_neg (by decide), if_pos c2, if_pos c1, hr, if_pos hdd, if_pos d1, hws, if_pos d2, if_pos d3, hlast]
          by_cases hxx : x = [46, 46]
          · rw [show (x != [46, 46]) = false from by rw [hxx]; rfl]
            cases hrt : rooted with
            | true => exact absurd hxx (hro hrt x (List.mem_cons_self ..))
            | false =>
              subst hrt
              refine go (out ++ [⟨#[46, 46]⟩]) ([46, 46] :: x :: st) ?_ ?_ (by simp; omega) ?_ (by simp) _ (fun k => ?_)
              · unfold Pa.cleanStep; rw [if_neg hs, if_pos hdd, hdd]; simp [hxx]
              · rw [List.map_append, ho]; simp [Lib.toList_data]
              · intro y hy
                rcases List.mem_append.1 hy with h | h
                · exact hoz y h
                · rw [List.mem_singleton.1 h]; decide
              · simp only [spec_Clean.j2]; rw [if_neg (by decide), if_neg (by decide), if_pos (show out.length < 8796093022208 by omega), ws]
          · rw [show (x != [46, 46]) = true from by simpa using hxx]
            refine go (out.take (out.length - 1)) st ?_ ?_ (by simp; omega) (fun y hy => hoz y (List.mem_of_mem_take hy)) (fun h e he => hro h e (List.mem_cons_of_mem _ he)) _ (fun k => ?_)
            · unfold Pa.cleanStep; rw [if_neg hs, if_pos hdd]; simp [hxx]
            · rw [List.map_take, ho, List.reverse_cons, hlen, Nat.add_sub_cancel, List.take_append_of_le_length (by simp), List.take_of_length_le (by simp)]
            · simp only [spec_Clean.j2]; rw [if_pos trivial, hws, if_pos d2, if_pos d4, Int.toNat_natCast, ws]
      · refine go (out ++ [l[i]]) (l[i].toList :: st) ?_ ?_ (by simp; omega) ?_ ?_ _ (fun k => ?_)
        · unfold Pa.cleanStep; rw [if_neg hs, if_neg hdd]
        · rw [List.map_append, ho]; simp
        · intro y hy
          rcases List.mem_append.1 hy with h | h
          · exact hoz y h
          · rw [List.mem_singleton.1 h]; exact hx
        · intro h e he
          rcases List.mem_cons.1 he with rfl | h'
          · exact hdd
          · exact hro h e h'
        · simp only [spec_Clean.j1]; rw [if_neg (by decide), if_pos c2, if_pos c1, hr, if_neg hdd, if_pos (show out.length < 8796093022208 by omega), ws]

theorem inter_join (p : List UInt8) (l : List (List UInt8)) : p.intercalate l = joinL p l := by
  induction l with
  | nil => rfl
  | cons x l ih =>
    cases l with
    | nil => simp [List.intercalate, joinL]
    | cons y l => rw [joinL, ← ih]; simp [List.intercalate, List.intersperse]
theorem clean_ev (s : ByteArray) (hs : s.size ≤ 500) : ∃ r : ByteArray, Ev (fun k => spec_Clean.f k s) r ∧ r.toList = Pa.cleanEls s.toList := by
  have hl := len_eq s
  obtain ⟨l, h1, h2⟩ := split_ev ⟨#[47]⟩ s (by omega) (by decide) (by rw [Lib.toList_data]; decide)
  rw [show (⟨#[47]⟩ : ByteArray).toList = [47] from by rw [Lib.toList_data], splitL_els] at h2
  have hll : l.length ≤ 501 := by
    have a := els_few s.toList
    have b := congrArg List.length h2
    rw [List.length_map] at b; omega
  have hz : ∀ x ∈ l, x.size ≤ 100000 := by
    intro x hx
    have := els_small s.toList x.toList (by rw [← h2]; exact List.mem_map_of_mem hx)
    rw [len_eq]; omega
  have hb : spec_Begins.f ⟨#[47]⟩ s = some (s.toList.head? == some 47) := by
    unfold spec_Begins.f
    have z : (⟨#[47]⟩ : ByteArray).size = 1 := rfl
    rw [z]
    cases hs' : s.toList with
    | nil => rw [if_neg (by rw [hl, hs']; decide)]; rfl
    | cons c t =>
      rw [if_pos (by rw [hl, hs']; simp only [List.length_cons]; omega), if_pos (by decide), if_pos (by rw [hl, hs']; simp only [List.length_cons]; omega)]
      congr 1
      rw [show (((1 : Nat) : Int)).toNat = 1 from rfl, extract_upto, hs', show (⟨#[47]⟩ : ByteArray).toList = [47] from by rw [Lib.toList_data]]
      simp
  obtain ⟨r, a, b⟩ := loop_ev2 (s.toList.head? == some 47) l (by omega) hz _ 0 [] [] rfl (Nat.zero_le _) rfl (by simp) (by simp) (by simp)
  refine ⟨r, ?_, ?_⟩
  · unfold spec_Clean.f
    exact Ev.thenC hb (Ev.andThen h1 a)
  · rw [b, List.drop_zero, h2]
    unfold finish Pa.cleanEls
    by_cases h0 : s.toList = []
    · rw [h0]; rfl
    · rw [if_neg h0]
      simp only [inter_join]


/-! ### the last slash -/
theorem wpred (n : Nat) (h : n ≤ 1000000) : wrap64 (((n + 1 : Nat) : Int) - 1) = (n : Int) := by
  rw [w64 (by omega) (by omega)]; omega
theorem slash_ev (s : ByteArray) (hs : s.size ≤ 500) : ∀ n, n ≤ s.size → ∃ m, m ≤ n ∧ Ev (fun k => bytealg_LastIndexByteString.l0 k s 47 ((n : Int) - 1)) ((m : Int) - 1) ∧
    (∀ r, Ev (fun k => spec_Clean.f k (s.extract 0 m)) r → Ev (fun k => spec_Dir.l0 k s (n : Int)) r) ∧ (∀ x, s.toList.take n = x → ∃ v, s.toList.take n = s.toList.take m ++ v ∧ (47 : UInt8) ∉ v ∧ (m = 0 ∨ ∃ u, s.toList.take m = u ++ [47])) := by
  have hl := len_eq s
  intro n
  induction n with
  | zero =>
    intro _
    refine ⟨0, Nat.le_refl _, Ev.step (f := fun _ => some (-1)) (fun k => by simp only [bytealg_LastIndexByteString.l0]; rw [if_neg (by omega)]) (Ev.now _), fun r h => ?_, fun x _ => ⟨[], by simp, by simp, .inl rfl⟩⟩
    refine Ev.step (f := fun k => (spec_Clean.f k (s.extract 0 0)).bind fun t => some t) (fun k => ?_) (Ev.andThen h (Ev.now _))
    simp only [spec_Dir.l0]; rw [if_neg (by omega), if_pos (by omega), if_pos (by omega)]; rfl
  | succ n ih =>
    intro hn
    have hg : bt s (n : Int) = ((s.toList[n]'(by omega)).toNat : Int) := bt_get s n (by simpa using (by omega : n < s.toList.length))
    have et : s.toList.take (n + 1) = s.toList.take n ++ [s.toList[n]'(by omega)] := (List.take_append_getElem (by omega)).symm
    have e1 : (((n + 1 : Nat) : Int) - 1) = (n : Int) := by omega
    by_cases hc : s.toList[n]'(by omega) = 47
    · have hb : bt s (n : Int) = 47 := by rw [hg, hc]; rfl
      refine ⟨n + 1, Nat.le_refl _, ?_, fun r h => ?_, fun x _ => ⟨[], by simp, by simp, .inr ⟨s.toList.take n, by rw [et, hc]⟩⟩⟩
      · rw [e1]
        refine Ev.step (f := fun _ => some (n : Int)) (fun k => ?_) (Ev.now _)
        simp only [bytealg_LastIndexByteString.l0]
        rw [if_pos (by omega), if_pos (by omega), if_pos (by omega), if_pos hb]
      · refine Ev.step (f := fun k => (spec_Clean.f k (s.extract 0 (n + 1))).bind fun t => some t) (fun k => ?_) (Ev.andThen h (Ev.now _))
        simp only [spec_Dir.l0]
        rw [wpred n (by omega), if_pos (by omega), if_pos (by omega), if_pos (by omega), if_pos hb, if_pos (by omega), if_pos (by omega)]; rfl
    · have hb : ¬ bt s (n : Int) = 47 := by
        rw [hg]; intro e
        apply hc
        exact UInt8.toNat_inj.1 (by have : (47 : UInt8).toNat = 47 := rfl; omega)
      obtain ⟨m, h1, h2, h3, h4⟩ := ih (by omega)
      refine ⟨m, by omega, ?_, fun r h => ?_, fun x _ => ?_⟩
      · rw [e1]
        refine Ev.step (f := fun k => bytealg_LastIndexByteString.l0 k s 47 ((n : Int) - 1)) (fun k => ?_) h2
        simp only [bytealg_LastIndexByteString.l0]
        rw [if_pos (by omega), if_pos (by omega), if_pos (by omega), if_neg hb, w64 (by omega) (by omega)]
      · refine Ev.step (f := fun k => spec_Dir.l0 k s (n : Int)) (fun k => ?_) (h3 r h)
        simp only [spec_Dir.l0]
        rw [wpred n (by omega), if_pos (by omega), if_pos (by omega), if_pos (by omega), if_neg hb]
      · obtain ⟨v, e, hv, hm⟩ := h4 _ rfl
        refine ⟨v ++ [s.toList[n]'(by omega)], by rw [et, e, List.append_assoc], ?_, hm⟩
        intro h
        rcases List.mem_append.1 h with h | h
        · exact hv h
        · exact hc (List.mem_singleton.1 h).symm
/-- The place behind the last slash. -/
theorem last_ev (s : ByteArray) (hs : s.size ≤ 500) : ∃ m, m ≤ s.size ∧ Ev (fun k => bytealg_LastIndexByteString.f k s 47) ((m : Int) - 1) ∧
    (∀ r, Ev (fun k => spec_Clean.f k (s.extract 0 m)) r → Ev (fun k => spec_Dir.f k s) r) ∧ (∃ v, s.toList = s.toList.take m ++ v ∧ (47 : UInt8) ∉ v) ∧ (m = 0 ∨ ∃ u, s.toList.take m = u ++ [47]) := by
  have hl := len_eq s
  obtain ⟨m, h1, h2, h3, h4⟩ := slash_ev s hs s.size (Nat.le_refl _)
  obtain ⟨v, e, hv, hm⟩ := h4 _ rfl
  rw [List.take_of_length_le (by omega)] at e
  refine ⟨m, h1, ?_, h3, ⟨v, e, hv⟩, hm⟩
  unfold bytealg_LastIndexByteString.f
  rw [w64 (by omega) (by omega)]; exact h2

/-! ### all but the last element -/
theorem dir_ev (s : ByteArray) (hs : s.size ≤ 500) : ∃ a b, Ev (fun k => impl_Dir.f k s) a ∧ Ev (fun k => spec_Dir.f k s) b ∧ a.toList = b.toList := by
  obtain ⟨m, h1, h2, h3, _, _⟩ := last_ev s hs
  have z := size_extract s 0 m (Nat.zero_le _) h1
  obtain ⟨r, a, b⟩ := clean_ev (s.extract 0 m) (by omega)
  refine ⟨⟨(Pa.cleanEls (s.extract 0 m).data.toList).toArray⟩, r, ?_, h3 r a, by rw [b, tl_mk, ← Lib.toList_data]⟩
  unfold impl_Dir.f sprig_Dir.f sprig_dir.f path_Dir.f path_Split.f
  have w1 : wrap64 ((m : Int) - 1 + 1) = (m : Int) := by rw [w64 (by omega) (by omega)]; omega
  refine Ev.andThen (Ev.andThen (Ev.andThen (Ev.andThen (a := (s.extract 0 m, s.extract m s.size)) (Ev.andThen h2 ?_) ?_) (Ev.now _)) (Ev.now _)) (Ev.now _)
  · rw [w1, if_pos (by omega), if_pos (by omega)]; exact Ev.now _
  · refine Ev.thenC (a := ⟨(Pa.cleanEls (s.extract 0 m).data.toList).toArray⟩) ?_ (Ev.now _)
    show Giv.path_Clean.f (s.extract 0 m) = _
    unfold Giv.path_Clean.f; rw [if_pos (by omega)]

/-! ### the last element -/
theorem els_app (u v : List UInt8) : ∃ l, Pa.els (u ++ 47 :: v) = l ++ Pa.els v := by
  induction u with
  | nil => exact ⟨[[]], by simp [Pa.els]⟩
  | cons c u ih =>
    obtain ⟨l, hl⟩ := ih
    by_cases hc : c = 47
    · exact ⟨[] :: l, by simp [Pa.els, hc, hl]⟩
    · cases l with
      | nil =>
        exfalso
        have a := congrArg List.length hl
        have key : ∀ u v : List UInt8, (Pa.els v).length < (Pa.els (u ++ 47 :: v)).length := by
          intro u v
          induction u with
          | nil => simp [Pa.els]
          | cons c u ih =>
            by_cases hc : c = 47
            · simp [Pa.els, hc]; omega
            · cases hx : Pa.els (u ++ 47 :: v) with
              | nil => exact absurd hx (els_ne _)
              | cons a b => simp [Pa.els, hc, hx]; rw [hx] at ih; simpa using ih
        have := key u v
        simp at a; omega
      | cons a b => exact ⟨(c :: a) :: b, by simp [Pa.els, hc, hl]⟩
theorem els_one (v : List UInt8) (h : (47 : UInt8) ∉ v) : Pa.els v = [v] := by
  induction v with
  | nil => rfl
  | cons c v ih =>
    rw [Pa.els, if_neg (fun e => h (by simp [e])), ih (fun e => h (by simp [e]))]

def baseTail (k : Nat) (t : ByteArray) : Option ByteArray := if t.toList = ([] : List UInt8) then (some (⟨#[47]⟩ : ByteArray)) else ((spec_SplitList.f k (⟨#[47]⟩ : ByteArray) t).bind fun t112 => (if 0 ≤ (wrap64 ((t112.length : Int) - 1)) then (if (wrap64 ((t112.length : Int) - 1)) < (t112.length : Int) then (some (rdOf ByteArray.empty t112 (wrap64 ((t112.length : Int) - 1)))) else (none)) else (none)))
theorem strip_ev : ∀ (n : Nat) (s : ByteArray), s.size = n → n ≤ 500 → ∃ t : ByteArray, t.size ≤ n ∧ (t.toList = [] ∨ ∃ u c, t.toList = u ++ [c] ∧ c ≠ 47) ∧
    (∀ r, Ev (fun k => path_Base.j1 k t) r → Ev (fun k => path_Base.l0 k s) r) ∧ (∀ r, Ev (fun k => baseTail k t) r → Ev (fun k => spec_Base.l0 k s) r) := by
  intro n
  induction n with
  | zero =>
    intro s hn h5
    have hl := len_eq s
    refine ⟨s, by omega, .inl (List.length_eq_zero_iff.1 (by omega)), fun r h => ?_, fun r h => ?_⟩
    · exact Ev.step (fun k => by simp only [path_Base.l0]; rw [if_neg (by omega)]) h
    · refine Ev.step (f := fun k => baseTail k s) (fun k => ?_) h
      simp only [spec_Base.l0]; rw [if_neg (by omega)]; rfl
  | succ n ih =>
    intro s hn h5
    have hl := len_eq s
    have hg : bt s (n : Int) = ((s.toList[n]'(by omega)).toNat : Int) := bt_get s n (by simpa using (by omega : n < s.toList.length))
    have et : s.toList.take (n + 1) = s.toList.take n ++ [s.toList[n]'(by omega)] := (List.take_append_getElem (by omega)).symm
    rw [List.take_of_length_le (by omega)] at et
    have ws : wrap64 ((s.size : Int) - 1) = (n : Int) := by rw [w64 (by omega) (by omega)]; omega
    by_cases hc : s.toList[n]'(by omega) = 47
    · have hb : bt s (n : Int) = 47 := by rw [hg, hc]; rfl
      have z := size_extract s 0 n (Nat.zero_le _) (by omega)
      obtain ⟨t, h1, h2, h3, h4⟩ := ih (s.extract 0 n) (by omega) (by omega)
      refine ⟨t, by omega, h2, fun r h => ?_, fun r h => ?_⟩
      · refine Ev.step (f := fun k => path_Base.l0 k (s.extract 0 n)) (fun k => ?_) (h3 r h)
        simp only [path_Base.l0]; rw [ws, if_pos (by omega), if_pos (by omega), if_pos (by omega), if_pos hb, if_pos (by omega)]; rfl
      · refine Ev.step (f := fun k => spec_Base.l0 k (s.extract 0 n)) (fun k => ?_) (h4 r h)
        simp only [spec_Base.l0]; rw [ws, if_pos (by omega), if_pos (by omega), if_pos (by omega), if_pos hb, if_pos (by omega)]; rfl
    · have hb : ¬ bt s (n : Int) = 47 := by
        rw [hg]; intro e
        apply hc
        exact UInt8.toNat_inj.1 (by have : (47 : UInt8).toNat = 47 := rfl; omega)
      refine ⟨s, by omega, .inr ⟨_, _, et, hc⟩, fun r h => ?_, fun r h => ?_⟩
      · refine Ev.step (f := fun k => path_Base.j1 k s) (fun k => ?_) h
        simp only [path_Base.l0]; rw [ws, if_pos (by omega), if_pos (by omega), if_pos (by omega), if_neg hb]
      · refine Ev.step (f := fun k => baseTail k s) (fun k => ?_) h
        simp only [spec_Base.l0]; rw [ws, if_pos (by omega), if_pos (by omega), if_pos (by omega), if_neg hb]; rfl
theorem base_ev (s : ByteArray) (hs : s.size ≤ 500) : ∃ a b, Ev (fun k => impl_Base.f k s) a ∧ Ev (fun k => spec_Base.f k s) b ∧ a.toList = b.toList := by
  unfold impl_Base.f sprig_Base.f sprig_base.f path_Base.f spec_Base.f
  by_cases h0 : s.toList = []
  · exact ⟨⟨#[46]⟩, ⟨#[46]⟩, Ev.andThen (Ev.andThen (Ev.andThen (Ev.pos h0 (Ev.now _)) (Ev.now _)) (Ev.now _)) (Ev.now _), Ev.pos h0 (Ev.now _), rfl⟩
  obtain ⟨t, h1, h2, h3, h4⟩ := strip_ev s.size s rfl hs
  suffices h : ∃ a b, Ev (fun k => path_Base.j1 k t) a ∧ Ev (fun k => baseTail k t) b ∧ a.toList = b.toList by
    obtain ⟨a, b, ha, hb, e⟩ := h
    exact ⟨a, b, Ev.andThen (Ev.andThen (Ev.andThen (Ev.neg h0 (h3 a ha)) (Ev.now _)) (Ev.now _)) (Ev.now _), Ev.neg h0 (h4 b hb), e⟩
  have hl := len_eq t
  obtain ⟨m, g1, g2, _, ⟨v, e, hv⟩, hm⟩ := last_ev t (by omega)
  have w1 : wrap64 ((m : Int) - 1 + 1) = (m : Int) := by rw [w64 (by omega) (by omega)]; omega
  rcases h2 with ht | ⟨u, c, hu, hc⟩
  · have hz : t.size = 0 := by rw [hl, ht]; rfl
    refine ⟨⟨#[47]⟩, ⟨#[47]⟩, Ev.step (fun k => by simp only [path_Base.j1]; rfl) (Ev.andThen g2 ?_), ?_, rfl⟩
    · rw [if_neg (by omega), if_pos ht]; exact Ev.now _
    · unfold baseTail; exact Ev.pos ht (Ev.now _)
  · have htn : t.toList ≠ [] := by rw [hu]; simp
    obtain ⟨l, a1, a2⟩ := split_ev ⟨#[47]⟩ t (by omega) (by decide) (by rw [Lib.toList_data]; decide)
    rw [show (⟨#[47]⟩ : ByteArray).toList = [47] from by rw [Lib.toList_data], splitL_els] at a2
    have few := els_few t.toList
    have a2' := congrArg List.length a2
    rw [List.length_map] at a2'
    have hlast : ∃ l', Pa.els t.toList = l' ++ [v] := by
      rcases hm with rfl | ⟨w, hw⟩
      · simp at e; exact ⟨[], by rw [e, els_one v hv]; rfl⟩
      · rw [hw] at e
        obtain ⟨l', hl'⟩ := els_app w v
        exact ⟨l', by rw [e, List.append_assoc, List.singleton_append, hl', els_one v hv]⟩
    obtain ⟨l', hl'⟩ := hlast
    have hlen : l.length = l'.length + 1 := by rw [a2', hl']; simp
    have hvn : v ≠ [] := by
      intro ev
      rw [ev, List.append_nil] at e
      rcases hm with rfl | ⟨w, hw⟩
      · simp at e; exact htn e
      · rw [hw, hu] at e
        have := List.append_inj_right' e rfl
        simp at this; exact hc this
    have wl : wrap64 ((l.length : Int) - 1) = (l'.length : Int) := by rw [w64 (by omega) (by omega)]; omega
    have hr : (rdOf ByteArray.empty l (l'.length : Int)).toList = v := by
      have hlt : l'.length < l.length := by omega
      have : (l.map ByteArray.toList)[l'.length]? = some v := by rw [a2, hl']; simp
      rw [List.getElem?_map, List.getElem?_eq_getElem hlt] at this
      rw [show rdOf ByteArray.empty l (l'.length : Int) = l[l'.length] by simp [rdOf, List.getElem?_eq_getElem hlt]]
      simpa using this
    have hb : Ev (fun k => baseTail k t) (rdOf ByteArray.empty l (l'.length : Int)) := by
      unfold baseTail
      refine Ev.neg htn (Ev.andThen a1 ?_)
      rw [wl, if_pos (by omega), if_pos (by omega)]; exact Ev.now _
    have ex : (t.extract m t.size).toList = v := by
      rw [extract_self]
      conv => lhs; rw [e]
      have : (t.toList.take m).length = m := by rw [List.length_take]; omega
      rw [List.drop_left' this]
    rcases Nat.eq_zero_or_pos m with hm0 | hm0
    · subst hm0
      refine ⟨t, _, Ev.step (fun k => by simp only [path_Base.j1]; rfl) (Ev.andThen g2 ?_), hb, ?_⟩
      · rw [if_neg (by omega), if_neg htn]; exact Ev.now _
      · rw [hr]; simpa using e
    · refine ⟨t.extract m t.size, _, Ev.step (fun k => by simp only [path_Base.j1]; rfl) (Ev.andThen g2 ?_), hb, by rw [ex, hr]⟩
      rw [w1, if_pos (by omega), if_pos (by omega), if_pos (by omega), Int.toNat_natCast, if_neg (by rw [ex]; exact hvn)]; exact Ev.now _

/-! ### the end of a name -/
theorem ext_alike (s : ByteArray) : ∀ k, (∀ x, path_Ext.l0 k s x = spec_Ext.l0 k s x) ∧ (∀ x b, path_Ext.j1 k s x b = spec_Ext.j1 k s x b) := by
  intro k
  induction k with
  | zero => exact ⟨fun _ => rfl, fun _ _ => rfl⟩
  | succ k ih => exact ⟨fun x => by simp only [path_Ext.l0, spec_Ext.l0, ih.2], fun x b => by simp only [path_Ext.j1, spec_Ext.j1, ih.1]⟩
theorem ext_ends (s : ByteArray) (hs : s.size ≤ 500) : ∀ n, n ≤ s.size → ∃ r, Ev (fun k => spec_Ext.l0 k s ((n : Int) - 1)) r := by
  intro n
  induction n with
  | zero =>
    intro _
    refine ⟨⟨#[]⟩, Ev.step (f := fun k => spec_Ext.j1 k s ((0 : Nat) - 1 : Int) false) (fun k => ?_) (Ev.step (f := fun _ => some _) (fun k => by simp only [spec_Ext.j1]; rw [if_neg (by decide)]) (Ev.now _))⟩
    simp only [spec_Ext.l0]; rw [if_neg (by omega)]
  | succ n ih =>
    intro hn
    have e1 : (((n + 1 : Nat) : Int) - 1) = (n : Int) := by omega
    obtain ⟨r, hr⟩ := ih (by omega)
    rw [e1]
    cases hb : (bt s (n : Int) != 47) with
    | false =>
      refine ⟨⟨#[]⟩, Ev.step (f := fun k => spec_Ext.j1 k s (n : Int) false) (fun k => ?_) (Ev.step (f := fun _ => some _) (fun k => by simp only [spec_Ext.j1]; rw [if_neg (by decide)]) (Ev.now _))⟩
      simp only [spec_Ext.l0]; rw [if_pos (by omega), if_pos (by omega), if_pos (by omega), hb]
    | true =>
      have st : ∀ q, Ev (fun k => spec_Ext.j1 k s (n : Int) true) q → Ev (fun k => spec_Ext.l0 k s (n : Int)) q := fun q h => Ev.step (f := fun k => spec_Ext.j1 k s (n : Int) true) (fun k => by simp only [spec_Ext.l0]; rw [if_pos (by omega), if_pos (by omega), if_pos (by omega), hb]) h
      by_cases h46 : bt s (n : Int) = 46
      · refine ⟨s.extract n s.size, st _ (Ev.step (f := fun _ => some _) (fun k => ?_) (Ev.now _))⟩
        simp only [spec_Ext.j1]; rw [if_pos True.intro, if_pos (by omega), if_pos (by omega), if_pos h46, if_pos (by omega)]; rfl
      · refine ⟨r, st _ (Ev.step (f := fun k => spec_Ext.l0 k s ((n : Int) - 1)) (fun k => ?_) hr)⟩
        simp only [spec_Ext.j1]; rw [if_pos True.intro, if_pos (by omega), if_pos (by omega), if_neg h46, w64 (by omega) (by omega)]

theorem FnElements : laws_FnElements.Pure := by
  intro s hs
  apply Ev.rounds
  have hl := len_eq s
  unfold laws_FnElements.f
  by_cases h1 : (s.size : Int) > 2147483647
  · exact Ev.pos h1 (Ev.now _)
  refine Ev.neg h1 ?_
  by_cases h2 : (s.size : Int) > 500
  · exact Ev.pos h2 (Ev.now _)
  refine Ev.neg h2 ?_
  obtain ⟨a, b, ha, hb, hab⟩ := base_ev s (by omega)
  obtain ⟨c, d, hc, hd, hcd⟩ := dir_ev s (by omega)
  obtain ⟨r, hr⟩ := ext_ends s (by omega) s.size (Nat.le_refl _)
  have w1 : wrap64 ((s.size : Int) - 1) = (s.size : Int) - 1 := w64 (by omega) (by omega)
  have he : Ev (fun k => spec_Ext.f k s) r := by unfold spec_Ext.f; rw [w1]; exact hr
  have he' : Ev (fun k => impl_Ext.f k s) r := by
    unfold impl_Ext.f sprig_Ext.f sprig_ext.f path_Ext.f
    refine Ev.andThen (Ev.andThen (Ev.andThen ?_ (Ev.now _)) (Ev.now _)) (Ev.now _)
    rw [w1]; simp only [(ext_alike s _).1]; exact hr
  have hi : ∃ q, impl_IsAbs.f s = some q ∧ spec_Begins.f ⟨#[47]⟩ s = some q := by
    unfold impl_IsAbs.f sprig_IsAbs.f sprig_isAbs.f path_IsAbs.f spec_Begins.f
    have z : (⟨#[47]⟩ : ByteArray).size = 1 := rfl
    rw [z]
    cases hs' : s.toList with
    | nil =>
      refine ⟨false, ?_, ?_⟩
      · rw [if_neg (by rw [hl, hs']; decide)]; rfl
      · rw [if_neg (by rw [hl, hs']; decide)]
    | cons x t =>
      have hsz : s.size = t.length + 1 := by rw [hl, hs']; rfl
      refine ⟨x == 47, ?_, ?_⟩
      · rw [if_pos (by omega), if_pos (by omega), bt_getD, hs']
        show some (decide _) = _
        have : (x == 47) = ((x.toNat : Int) == 47) := by
          by_cases hx : x = 47
          · subst hx; rfl
          · rw [beq_eq_false_iff_ne.2 hx]; symm; apply beq_eq_false_iff_ne.2
            intro e; apply hx; exact UInt8.toNat_inj.1 (by have : (47 : UInt8).toNat = 47 := rfl; omega)
        rw [this]; rfl
      · rw [if_pos (by omega), if_pos (by decide), if_pos (by omega), show (((1 : Nat) : Int)).toNat = 1 from rfl, extract_upto, hs', show (⟨#[47]⟩ : ByteArray).toList = [47] from by rw [Lib.toList_data]]
        simp
  obtain ⟨q, hq1, hq2⟩ := hi
  refine Ev.andThen ha (Ev.andThen hb (Ev.pos hab (Ev.andThen hc (Ev.andThen hd (Ev.pos hcd (Ev.andThen he' (Ev.andThen he (Ev.pos rfl (Ev.thenC hq1 (Ev.thenC hq2 (Ev.const ?_)))))))))))
  simp

end Go.Proofs.Ytpkdoinofenahaa.Pure
