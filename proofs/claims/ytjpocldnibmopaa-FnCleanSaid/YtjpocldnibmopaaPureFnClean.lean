/- FnClean, as a plain statement: path.Clean's answer by its documentation's rules is the reference's. For all texts of at most 2^47 - 4096 bytes. -/
import Derived.Test.YtjpocldnibmopaaPFnCleanx2
import Derived.Test.YtjpocldnibmopaaTxt
namespace Go.Proofs.Ytjpocldnibmopaa.Pure
open Go.RowKit Go.Proofs.Ytjpocldnibmopaa.PFnClean Go.Proofs.YtjpocldnibmopaaW.PrintWords Go.Proofs.YtjpocldnibmopaaW.PrintLast Go.Proofs.Ytjpocldnibmopaa.Txt Go.Proofs.Ytjpocldnibmopaa Go.Lib

/-! ### the parts of a text -/
theorem place_ev (p s : ByteArray) (i : Nat) (hs : s.size ≤ 100000) (hp : p.size ≤ 100000) (hi : i ≤ s.toList.length ∨ p.toList ≠ []) (hi' : i ≤ 1000000) : Ev (fun k => spec_Place.f k p s (i : Int)) (at_ i (idx p.toList (s.toList.drop i))) := by
  have hl := len_eq s; have hl' := len_eq p
  exact search (fun k x => spec_Place.l0 k p s x) s.toList p.toList (by omega) (by omega) (fun k x => by
    simp only [spec_Place.l0, tl_extract, hl, hl']) i hi (by omega)
theorem split_ev (p s : ByteArray) (hs : s.size ≤ 100000) (hp : p.size ≤ 100000) (hp0 : p.toList ≠ []) :
    ∃ l : List ByteArray, Ev (fun k => spec_SplitList.f k p s) l ∧ l.map ByteArray.toList = splitL p.toList s.toList := by
  have hl := len_eq s; have hl' := len_eq p
  have hpp := List.length_pos_iff.2 hp0
  have key : ∀ (d i : Nat) (acc : List ByteArray), s.size - i ≤ d → i ≤ s.size → acc.length + d ≤ 200000 → ∃ l : List ByteArray, Ev (fun k => spec_SplitList.l0 k p s acc (i : Int)) l ∧ l.map ByteArray.toList = acc.map ByteArray.toList ++ splitL p.toList (s.toList.drop i) := by
    intro d
    induction d with
    | zero =>
      intro i acc hd hi ha
      have e : s.toList.drop i = [] := List.drop_eq_nil_of_le (by omega)
      have hx : idx p.toList (s.toList.drop i) = none := by rw [e, idx, if_neg hp0]
      refine ⟨acc ++ [s.extract i s.size], Ev.step (fun k => by simp only [spec_SplitList.l0]; rfl) ?_, ?_⟩
      · refine Ev.andThen (place_ev p s i hs hp (.inr hp0) (by omega)) ?_
        rw [hx, show at_ i none = -1 from rfl]
        refine Ev.congr (f := fun _ => some (acc ++ [s.extract i s.size])) (fun k => ?_) (Ev.now _)
        rw [if_pos (show (-1 : Int) < 0 by decide), if_pos (show 0 ≤ (i : Int) by omega), if_pos (show (i : Int) ≤ (s.size : Int) by omega), if_pos (show acc.length < 8796093022208 by omega), Int.toNat_natCast]
      · rw [splitL_none hp0 hx, List.map_append, List.map_singleton, extract_self]
    | succ d ih =>
      intro i acc hd hi ha
      cases hx : idx p.toList (s.toList.drop i) with
      | none =>
        refine ⟨acc ++ [s.extract i s.size], Ev.step (fun k => by simp only [spec_SplitList.l0]; rfl) ?_, ?_⟩
        · refine Ev.andThen (place_ev p s i hs hp (.inr hp0) (by omega)) ?_
          rw [hx, show at_ i none = -1 from rfl]
          refine Ev.congr (f := fun _ => some (acc ++ [s.extract i s.size])) (fun k => ?_) (Ev.now _)
          rw [if_pos (show (-1 : Int) < 0 by decide), if_pos (show 0 ≤ (i : Int) by omega), if_pos (show (i : Int) ≤ (s.size : Int) by omega), if_pos (show acc.length < 8796093022208 by omega), Int.toNat_natCast]
        · rw [splitL_none hp0 hx, List.map_append, List.map_singleton, extract_self]
      | some j =>
        have hj := (idx_some hx).1
        rw [List.length_drop] at hj
        have c1 : ¬ ((j + i : Nat) : Int) < 0 := Int.not_lt.2 (Int.natCast_nonneg _)
        have c2 : 0 ≤ (i : Int) := Int.natCast_nonneg _
        have c3 : (i : Int) ≤ ((j + i : Nat) : Int) := Int.ofNat_le.2 (Nat.le_add_left _ _)
        have c4 : ((j + i : Nat) : Int) ≤ (s.size : Int) := Int.ofNat_le.2 (by omega)
        have c5 : acc.length < 8796093022208 := by omega
        obtain ⟨l, hl1, hl2⟩ := ih (j + i + p.size) (acc ++ [s.extract i (j + i)]) (by omega) (by omega) (by simp; omega)
        refine ⟨l, Ev.step (fun k => by simp only [spec_SplitList.l0]; rfl) ?_, ?_⟩
        · refine Ev.andThen (place_ev p s i hs hp (.inr hp0) (by omega)) ?_
          rw [hx]
          rw [show at_ i (some j) = ((j + i : Nat) : Int) from rfl]
          rw [wadd _ _ (by omega), Int.toNat_natCast, Int.toNat_natCast]
          refine Ev.congr (fun k => ?_) hl1
          rw [if_neg c1, if_pos c2, if_pos c3, if_pos c4, if_pos c5]
        · rw [hl2, splitL_some hp0 hx, List.map_append, List.map_singleton, tl_extract, List.append_assoc, List.singleton_append]
          congr 2
          · congr 1; omega
          · rw [List.drop_drop]; congr 2; omega
  obtain ⟨l, h1, h2⟩ := key _ 0 [] (Nat.le_refl _) (Nat.zero_le _) (by simp; omega)
  exact ⟨l, by simpa [spec_SplitList.f] using h1, by simpa using h2⟩
/-! ### texts joined -/
/-- The bytes of texts with one between each two. -/
def joinL (p : List UInt8) : List (List UInt8) → List UInt8
  | [] => []
  | [x] => x
  | x :: y :: l => x ++ p ++ joinL p (y :: l)
/-- What stands behind the first part. -/
def tailL (p : List UInt8) (l : List (List UInt8)) : List UInt8 := l.flatMap fun x => p ++ x
theorem joinL_cons (p x : List UInt8) (l : List (List UInt8)) : joinL p (x :: l) = x ++ tailL p l := by
  induction l generalizing x with
  | nil => simp [joinL, tailL]
  | cons y l ih => rw [joinL, ih]; simp [tailL]
theorem joined_ev (p : ByteArray) (l : List ByteArray) (hp : p.size ≤ 100000) (hn : l.length ≤ 100000) (hl : ∀ x ∈ l, x.size ≤ 100000) :
    ∃ r : ByteArray, Ev (fun k => spec_Joined.f k p l) r ∧ r.toList = joinL p.toList (l.map ByteArray.toList) := by
  have key : ∀ (d i : Nat) (acc : ByteArray), l.length - i = d → 0 < i → i ≤ l.length → acc.size ≤ i * 200000 → ∃ r : ByteArray, Ev (fun k => spec_Joined.l0 k p l acc (l.length : Int) (i : Int)) r ∧ r.toList = acc.toList ++ tailL p.toList ((l.drop i).map ByteArray.toList) := by
    intro d
    induction d with
    | zero =>
      intro i acc hd h0 hi ha
      refine ⟨acc, Ev.step (f := fun _ => some acc) (fun k => by simp only [spec_Joined.l0]; rw [if_neg (by omega)]) (Ev.now _), ?_⟩
      rw [List.drop_eq_nil_of_le (by omega)]; simp [tailL]
    | succ d ih =>
      intro i acc hd h0 hi ha
      have hlt : i < l.length := by omega
      have e : l.drop i = l[i] :: l.drop (i + 1) := List.drop_eq_getElem_cons hlt
      have hr : rdOf ByteArray.empty l (i : Int) = l[i] := by simp [rdOf, List.getElem?_eq_getElem hlt]
      have hz := hl l[i] (List.getElem_mem hlt)
      have hs1 := size_append acc p; have hs2 := size_append (acc ++ p) l[i]
      obtain ⟨r, h1, h2⟩ := ih (i + 1) ((acc ++ p) ++ l[i]) (by omega) (by omega) (by omega) (by omega)
      refine ⟨r, Ev.step (f := fun k => spec_Joined.l0 k p l ((acc ++ p) ++ l[i]) (l.length : Int) ((i + 1 : Nat) : Int)) (fun k => ?_) h1, ?_⟩
      · simp only [spec_Joined.l0]
        rw [if_pos (by omega), if_pos (by omega), if_pos (by omega), if_pos (by omega), if_pos (by omega), hr, if_pos (by omega), w64 (by omega) (by omega)]; rfl
      · rw [h2, e, List.map_cons, tl_append, tl_append]; simp [tailL]
  cases l with
  | nil => exact ⟨⟨#[]⟩, Ev.step (f := fun _ => some _) (fun k => by show spec_Joined.l0 (k + 1) p [] ⟨#[]⟩ _ 0 = _; simp only [spec_Joined.l0]; rw [if_neg (by decide)]) (Ev.now _), tl_nil⟩
  | cons x l =>
    have hz := hl x (List.mem_cons_self ..)
    have he : (⟨#[]⟩ : ByteArray) ++ x = x := ext_eq (by rw [tl_append, tl_nil, List.nil_append])
    obtain ⟨r, h1, h2⟩ := key _ 1 x rfl (by omega) (by simp) (by omega)
    refine ⟨r, Ev.step (f := fun k => spec_Joined.l0 k p (x :: l) x ((x :: l).length : Int) ((1 : Nat) : Int)) (fun k => ?_) h1, ?_⟩
    · show spec_Joined.l0 (k + 1) p (x :: l) ⟨#[]⟩ _ 0 = _
      simp only [spec_Joined.l0]
      rw [if_pos (by simp only [List.length_cons]; omega), if_neg (by omega), if_pos (by omega), if_pos (by simp only [List.length_cons]; omega)]
      have hr : rdOf ByteArray.empty (x :: l) 0 = x := rfl
      rw [hr, he, if_pos (by show 0 + x.size ≤ _; omega), w64 (by decide) (by decide)]; rfl
    · rw [h2, List.map_cons, joinL_cons]; rfl

/-! ### by the elements -/
theorem els_ne (s : List UInt8) : Pa.els s ≠ [] := by
  cases s with
  | nil => simp [Pa.els]
  | cons c t =>
    rw [Pa.els]
    split
    · simp
    · split <;> simp
theorem splitL_els (s : List UInt8) : splitL [47] s = Pa.els s := by
  induction s with
  | nil => rfl
  | cons c t ih =>
    rw [Pa.els]
    by_cases hc : c = 47
    · subst hc
      rw [if_pos rfl, splitL_some (j := 0) (by decide) (idx_hit _ _ (by simp)), ← ih]; rfl
    · rw [if_neg hc, ← ih]
      have hn : ¬ ([47] : List UInt8).isPrefixOf (c :: t) = true := by simp; exact fun e => hc e.symm
      cases hx : idx [47] t with
      | none =>
        rw [splitL_none (by decide) (by rw [idx_miss _ _ _ hn, hx]; rfl), splitL_none (by decide) hx]
      | some j =>
        rw [splitL_some (j := j + 1) (by decide) (by rw [idx_miss _ _ _ hn, hx]; rfl), splitL_some (by decide) hx]
        rfl

theorem els_small (s : List UInt8) : ∀ e ∈ Pa.els s, e.length ≤ s.length := by
  induction s with
  | nil => intro e he; simp [Pa.els] at he; simp [he]
  | cons c t ih =>
    intro e he
    rw [Pa.els] at he
    split at he
    · rcases List.mem_cons.1 he with rfl | h
      · simp
      · have := ih e h; simp; omega
    · cases hx : Pa.els t with
      | nil => exact absurd hx (els_ne t)
      | cons a b =>
        rw [hx] at he ih
        rcases List.mem_cons.1 he with rfl | h
        · have := ih a (List.mem_cons_self ..); simp; omega
        · have := ih e (List.mem_cons_of_mem _ h); simp; omega
theorem els_few (s : List UInt8) : (Pa.els s).length ≤ s.length + 1 := by
  induction s with
  | nil => simp [Pa.els]
  | cons c t ih =>
    rw [Pa.els]
    split
    · simp; omega
    · cases hx : Pa.els t with
      | nil => simp
      | cons a b => rw [hx] at ih; simp at ih ⊢; omega

/-- What is told of the elements that were kept. -/
def finish (rooted : Bool) (st : List (List UInt8)) : List UInt8 :=
  if rooted then 47 :: joinL [47] st.reverse else if joinL [47] st.reverse = [] then [46] else joinL [47] st.reverse
theorem finish_ev (rooted : Bool) (out l : List ByteArray) (st : List (List UInt8)) (ho : out.map ByteArray.toList = st.reverse) (hn : out.length ≤ 100000) (hz : ∀ x ∈ out, x.size ≤ 100000) (n : Nat) (_hn' : n = l.length) :
    ∃ r : ByteArray, Ev (fun k => spec_Clean.l0 k rooted out l (n : Int) (n : Int)) r ∧ r.toList = finish rooted st := by
  obtain ⟨r, h1, h2⟩ := joined_ev ⟨#[47]⟩ out (by decide) hn hz
  rw [ho, show (⟨#[47]⟩ : ByteArray).toList = [47] from by rw [Lib.toList_data]] at h2
  have hb : r.size ≤ 10000000000000 := by
    obtain ⟨K, hK⟩ := h1
    rw [len_eq, h2]
    have : ∀ l : List ByteArray, (∀ x ∈ l, x.size ≤ 100000) → (joinL [47] (l.map ByteArray.toList)).length ≤ l.length * 100001 := by
      intro l
      induction l with
      | nil => intro _; simp [joinL]
      | cons x l ih =>
        intro h
        have hx := h x (List.mem_cons_self ..)
        rw [List.map_cons, joinL_cons]
        have ht : ∀ l : List ByteArray, (∀ x ∈ l, x.size ≤ 100000) → (tailL [47] (l.map ByteArray.toList)).length ≤ l.length * 100001 := by
          intro l
          induction l with
          | nil => intro _; simp [tailL]
          | cons y l ih2 =>
            intro h
            have hy := h y (List.mem_cons_self ..)
            have := ih2 (fun z hz => h z (List.mem_cons_of_mem _ hz))
            simp only [tailL, List.map_cons, List.flatMap_cons, List.length_append, List.length_cons, List.length_nil] at this ⊢
            rw [← len_eq]; omega
        have := ht l (fun z hz => h z (List.mem_cons_of_mem _ hz))
        rw [List.length_append, ← len_eq, List.length_cons]; omega
    have := this out hz
    rw [← ho]; omega
  unfold finish
  cases rooted with
  | true =>
    refine ⟨⟨#[47]⟩ ++ r, Ev.step (fun k => by simp only [spec_Clean.l0]; rw [if_neg (by omega)]) (Ev.andThen h1 (Ev.congr (f := fun _ => some (⟨#[47]⟩ ++ r)) (fun k => ?_) (Ev.now _))), ?_⟩
    · simp only [if_true]
      rw [if_pos (by omega)]
    · rw [tl_append, h2, if_pos rfl, show (⟨#[47]⟩ : ByteArray).toList = [47] from by rw [Lib.toList_data]]; rfl
  | false =>
    by_cases he : joinL [47] st.reverse = []
    · refine ⟨⟨#[46]⟩, Ev.step (fun k => by simp only [spec_Clean.l0]; rw [if_neg (by omega)]) (Ev.andThen h1 (Ev.congr (f := fun _ => some ⟨#[46]⟩) (fun k => ?_) (Ev.now _))), ?_⟩
      · rw [if_neg (by decide), if_pos (by rw [h2, he])]
      · rw [if_neg (by decide), if_pos he, Lib.toList_data]
    · refine ⟨r, Ev.step (fun k => by simp only [spec_Clean.l0]; rw [if_neg (by omega)]) (Ev.andThen h1 (Ev.congr (f := fun _ => some r) (fun k => ?_) (Ev.now _))), ?_⟩
      · rw [if_neg (by decide), if_neg (by rw [h2]; exact he)]
      · rw [if_neg (by decide), if_neg he, h2]

theorem loop_ev2 (rooted : Bool) (l : List ByteArray) (hl : l.length ≤ 10000) (hz : ∀ x ∈ l, x.size ≤ 100000) : ∀ (d i : Nat) (out : List ByteArray) (st : List (List UInt8)), l.length - i = d → i ≤ l.length →
    out.map ByteArray.toList = st.reverse → out.length ≤ i → (∀ x ∈ out, x.size ≤ 100000) → (rooted = true → ∀ e ∈ st, e ≠ [46, 46]) →
    ∃ r : ByteArray, Ev (fun k => spec_Clean.l0 k rooted out l (l.length : Int) (i : Int)) r ∧ r.toList = finish rooted (((l.drop i).map ByteArray.toList).foldl (Pa.cleanStep rooted) st) := by
  intro d
  induction d with
  | zero =>
    intro i out st hd hi ho hn hoz _
    obtain rfl : i = l.length := by omega
    rw [List.drop_eq_nil_of_le (Nat.le_refl _)]
    exact finish_ev rooted out l st ho (by omega) hoz l.length rfl
  | succ d ih =>
    intro i out st hd hi ho hn hoz hro
    have hlt : i < l.length := by omega
    have e : l.drop i = l[i] :: l.drop (i + 1) := List.drop_eq_getElem_cons hlt
    have hr : rdOf ByteArray.empty l (i : Int) = l[i] := by simp [rdOf, List.getElem?_eq_getElem hlt]
    have hx := hz l[i] (List.getElem_mem hlt)
    rw [e, List.map_cons, List.foldl_cons]
    have c1 : (i : Int) < (l.length : Int) := Int.ofNat_lt.2 hlt
    have c2 : 0 ≤ (i : Int) := Int.natCast_nonneg _
    -- the round's end
    have go : ∀ (out' : List ByteArray) (st' : List (List UInt8)), st' = Pa.cleanStep rooted st l[i].toList → out'.map ByteArray.toList = st'.reverse → out'.length ≤ i + 1 → (∀ x ∈ out', x.size ≤ 100000) → (rooted = true → ∀ e ∈ st', e ≠ [46, 46]) →
        ∀ g : Nat → Option ByteArray, (∀ k, g (k + 1) = spec_Clean.l0 k rooted out' l (l.length : Int) ((i + 1 : Nat) : Int)) → ∃ r : ByteArray, Ev g r ∧ r.toList = finish rooted (((l.drop (i + 1)).map ByteArray.toList).foldl (Pa.cleanStep rooted) (Pa.cleanStep rooted st l[i].toList)) := by
      intro out' st' h1 h2 h3 h4 h5 g hg
      obtain ⟨r, a, b⟩ := ih (i + 1) out' st' (by omega) (by omega) h2 h3 h4 h5
      exact ⟨r, Ev.step hg a, by rw [← h1]; exact b⟩
    have ws := wsucc i (by omega)
    have bind : ∀ {x : List UInt8} (g g' : Nat → Option ByteArray), (∀ k, g (k + 1) = g' k) → (∃ r : ByteArray, Ev g' r ∧ r.toList = x) → ∃ r : ByteArray, Ev g r ∧ r.toList = x := by
      intro x g g' h ⟨r, a, b⟩
      exact ⟨r, Ev.step h a, b⟩
    by_cases hs : l[i].toList = [] ∨ l[i].toList = [46]
    · refine bind _ (fun k => spec_Clean.j1 k rooted out l (i : Int) (l.length : Int) (i : Int) true) (fun k => ?_) (go out st ?_ ho (by omega) hoz hro _ (fun k => ?_))
      · simp only [spec_Clean.l0]
        rw [if_pos c1, if_pos c2, if_pos c1, hr]
        by_cases h : l[i].toList = []
        · rw [if_pos h]
        · rw [if_neg h, beq_iff_eq.2 (hs.resolve_left h)]
      · unfold Pa.cleanStep; rw [if_pos hs]
      · simp only [spec_Clean.j1, if_true]; rw [ws]
    · have h1 : ¬ l[i].toList = [] := fun h => hs (.inl h)
      have h2 : ¬ l[i].toList = [46] := fun h => hs (.inr h)
      refine bind _ (fun k => spec_Clean.j1 k rooted out l (i : Int) (l.length : Int) (i : Int) false) (fun k => ?_) ?_
      · simp only [spec_Clean.l0]
        rw [if_pos c1, if_pos c2, if_pos c1, hr, if_neg h1, beq_eq_false_iff_ne.2 h2]
      by_cases hdd : l[i].toList = [46, 46]
      · have hb : out.length = st.length := by have := congrArg List.length ho; simpa using this
        cases st with
        | nil =>
          have hout : out = [] := List.length_eq_zero_iff.1 (by rw [hb]; rfl)
          subst hout
          refine bind _ (fun k => spec_Clean.j2 k rooted [] l (l.length : Int) (i : Int) false) (fun k => ?_) ?_
          · simp only [spec_Clean.j1]
            rw [if_neg (by decide), if_pos c2, if_pos c1, hr, if_pos hdd, if_neg (by decide)]
          cases rooted with
          | true =>
            refine go [] [] ?_ rfl (by simp) (by simp) (by simp) _ (fun k => ?_)
            · unfold Pa.cleanStep; rw [if_neg hs, if_pos hdd]; rfl
            · simp only [spec_Clean.j2]; rw [if_neg (by decide), if_pos trivial, ws]
          | false =>
            refine go [⟨#[46, 46]⟩] [[46, 46]] ?_ ?_ (by simp) (by simp; decide) (by simp) _ (fun k => ?_)
            · unfold Pa.cleanStep; rw [if_neg hs, if_pos hdd, hdd]; rfl
            · simp [Lib.toList_data]
            · simp only [spec_Clean.j2]; rw [if_neg (by decide), if_neg (by decide), if_pos (by decide), ws]; rfl
        | cons x st =>
          have hlen : out.length = st.length + 1 := by rw [hb]; rfl
          have hws : wrap64 ((out.length : Int) - 1) = ((out.length - 1 : Nat) : Int) := wsub out.length 1 (by omega) (by omega)
          have hlast : (rdOf ByteArray.empty out ((out.length - 1 : Nat) : Int)).toList = x := by
            have hlt' : out.length - 1 < out.length := by omega
            have h3 : (out.map ByteArray.toList)[out.length - 1]? = some x := by
              rw [ho, List.reverse_cons, List.getElem?_append_right (by simp; omega)]
              simp [hlen]
            rw [List.getElem?_map, List.getElem?_eq_getElem hlt'] at h3
            simp only [rdOf, Int.toNat_natCast, List.getD_eq_getElem?_getD, List.getElem?_eq_getElem hlt', Option.getD_some]
            exact Option.some.inj h3
          have d1 : (out.length : Int) > 0 := by omega
          have d2 : 0 ≤ ((out.length - 1 : Nat) : Int) := Int.natCast_nonneg _
          have d3 : ((out.length - 1 : Nat) : Int) < (out.length : Int) := Int.ofNat_lt.2 (by omega)
          have d4 : ((out.length - 1 : Nat) : Int) ≤ (out.length : Int) := Int.ofNat_le.2 (by omega)
          refine bind _ (fun k => spec_Clean.j2 k rooted out l (l.length : Int) (i : Int) (x != [46, 46])) (fun k => ?_) ?_
          · simp only [spec_Clean.j1]
            rw [if_neg (by decide), if_pos c2, if_pos c1, hr, if_pos hdd, if_pos d1, hws, if_pos d2, if_pos d3, hlast]
          by_cases hxx : x = [46, 46]
          · rw [show (x != [46, 46]) = false from by rw [hxx]; rfl]
            cases hrt : rooted with
            | true => exact absurd hxx (hro hrt x (List.mem_cons_self ..))
            | false =>
              subst hrt
              refine go (out ++ [⟨#[46, 46]⟩]) ([46, 46] :: x :: st) ?_ ?_ (by simp; omega) ?_ (by simp) _ (fun k => ?_)
              · unfold Pa.cleanStep; rw [if_neg hs, if_pos hdd, hdd]; simp [hxx]
              · rw [List.map_append, ho]; simp [Lib.toList_data]
              · intro y hy
                rcases List.mem_append.1 hy with h | h
                · exact hoz y h
                · rw [List.mem_singleton.1 h]; decide
              · simp only [spec_Clean.j2]; rw [if_neg (by decide), if_neg (by decide), if_pos (show out.length < 8796093022208 by omega), ws]
          · rw [show (x != [46, 46]) = true from by simpa using hxx]
            refine go (out.take (out.length - 1)) st ?_ ?_ (by simp; omega) (fun y hy => hoz y (List.mem_of_mem_take hy)) (fun h e he => hro h e (List.mem_cons_of_mem _ he)) _ (fun k => ?_)
            · unfold Pa.cleanStep; rw [if_neg hs, if_pos hdd]; simp [hxx]
            · rw [List.map_take, ho, List.reverse_cons, hlen, Nat.add_sub_cancel, List.take_append_of_le_length (by simp), List.take_of_length_le (by simp)]
            · simp only [spec_Clean.j2]; rw [if_pos trivial, hws, if_pos d2, if_pos d4, Int.toNat_natCast, ws]
      · refine go (out ++ [l[i]]) (l[i].toList :: st) ?_ ?_ (by simp; omega) ?_ ?_ _ (fun k => ?_)
        · unfold Pa.cleanStep; rw [if_neg hs, if_neg hdd]
        · rw [List.map_append, ho]; simp
        · intro y hy
          rcases List.mem_append.1 hy with h | h
          · exact hoz y h
          · rw [List.mem_singleton.1 h]; exact hx
        · intro h e he
          rcases List.mem_cons.1 he with rfl | h'
          · exact hdd
          · exact hro h e h'
        · simp only [spec_Clean.j1]; rw [if_neg (by decide), if_pos c2, if_pos c1, hr, if_neg hdd, if_pos (show out.length < 8796093022208 by omega), ws]

theorem inter_join (p : List UInt8) (l : List (List UInt8)) : p.intercalate l = joinL p l := by
  induction l with
  | nil => rfl
  | cons x l ih =>
    cases l with
    | nil => simp [List.intercalate, joinL]
    | cons y l => rw [joinL, ← ih]; simp [List.intercalate, List.intersperse]
theorem clean_ev (s : ByteArray) (hs : s.size ≤ 500) : ∃ r : ByteArray, Ev (fun k => spec_Clean.f k s) r ∧ r.toList = Pa.cleanEls s.toList := by
  have hl := len_eq s
  obtain ⟨l, h1, h2⟩ := split_ev ⟨#[47]⟩ s (by omega) (by decide) (by rw [Lib.toList_data]; decide)
  rw [show (⟨#[47]⟩ : ByteArray).toList = [47] from by rw [Lib.toList_data], splitL_els] at h2
  have hll : l.length ≤ 501 := by
    have a := els_few s.toList
    have b := congrArg List.length h2
    rw [List.length_map] at b; omega
  have hz : ∀ x ∈ l, x.size ≤ 100000 := by
    intro x hx
    have := els_small s.toList x.toList (by rw [← h2]; exact List.mem_map_of_mem hx)
    rw [len_eq]; omega
  have hb : spec_Begins.f ⟨#[47]⟩ s = some (s.toList.head? == some 47) := by
    unfold spec_Begins.f
    have z : (⟨#[47]⟩ : ByteArray).size = 1 := rfl
    rw [z]
    cases hs' : s.toList with
    | nil => rw [if_neg (by rw [hl, hs']; decide)]; rfl
    | cons c t =>
      rw [if_pos (by rw [hl, hs']; simp only [List.length_cons]; omega), if_pos (by decide), if_pos (by rw [hl, hs']; simp only [List.length_cons]; omega)]
      congr 1
      rw [show (((1 : Nat) : Int)).toNat = 1 from rfl, extract_upto, hs', show (⟨#[47]⟩ : ByteArray).toList = [47] from by rw [Lib.toList_data]]
      simp
  obtain ⟨r, a, b⟩ := loop_ev2 (s.toList.head? == some 47) l (by omega) hz _ 0 [] [] rfl (Nat.zero_le _) rfl (by simp) (by simp) (by simp)
  refine ⟨r, ?_, ?_⟩
  · unfold spec_Clean.f
    exact Ev.thenC hb (Ev.andThen h1 a)
  · rw [b, List.drop_zero, h2]
    unfold finish Pa.cleanEls
    by_cases h0 : s.toList = []
    · rw [h0]; rfl
    · rw [if_neg h0]
      simp only [inter_join]

theorem FnClean : laws_FnClean.Pure := by
  intro s hs
  apply Ev.rounds
  unfold laws_FnClean.f
  by_cases h1 : (s.size : Int) > 2147483647
  · exact Ev.pos h1 (Ev.now _)
  refine Ev.neg h1 ?_
  by_cases h2 : (s.size : Int) > 500
  · exact Ev.pos h2 (Ev.now _)
  refine Ev.neg h2 ?_
  have hi : impl_Clean.f s = some ⟨(Pa.cleanEls s.data.toList).toArray⟩ := by
    unfold impl_Clean.f sprig_Clean.f sprig_clean.f Giv.path_Clean.f
    rw [if_pos (by omega)]; rfl
  obtain ⟨r, a, b⟩ := clean_ev s (by omega)
  refine Ev.thenC hi (Ev.andThen a (Ev.const ?_))
  rw [b, tl_mk, ← Lib.toList_data]; simp

end Go.Proofs.Ytjpocldnibmopaa.Pure
