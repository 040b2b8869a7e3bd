/- FnCamelLow, as a plain statement: words joined, all but the first one with a capital letter first. -/
import Derived.Test.YtpkdoinofenahaaDoorPFnCamelLowx1
import Derived.Test.YtpkdoinofenahaaDoorStrs
namespace Go.Proofs.YtpkdoinofenahaaDoor.PFnCamelLow
open Go.RowKit Go.Proofs.YtpkdoinofenahaaDoorW.PrintWords Go.Proofs.YtpkdoinofenahaaDoorW.PrintLast Go.Proofs.YtpkdoinofenahaaDoor.Txt Go.Proofs.YtpkdoinofenahaaDoor
def laws_FnCamelLow.Pure : Prop := ∀ (l : List ByteArray) (a1 : Int), (Lit.int .u8 a1).wf = true → ∃ k, laws_FnCamelLow.f k l a1 = some true
theorem laws_FnCamelLow.walk (P : laws_FnCamelLow.Pure) (a0 : Option Addr) (len0 cap0 : Nat) (l : List ByteArray) (a1 : Int) (w : World) (T : Giv.Props w) (w0 : IsStrs w a0 len0 cap0 l) (w1 : (Lit.int .u8 a1).wf = true) :
    Calls Tryd.prog 11 #[.slice a0 len0 cap0, .int .u8 a1] w fun e w' => e = .returned (.bool true) ∧ Below w.heap.size w w' := by
  obtain ⟨rfl, hc, hr⟩ := w0
  obtain ⟨k, h⟩ := P l a1 w1
  exact laws_FnCamelLow.calls k a0 cap0 l a1 true w T (Kd.C_of_reads (h1 := fun _ => rfl) hr) hc h
end Go.Proofs.YtpkdoinofenahaaDoor.PFnCamelLow
namespace Go.Proofs.YtpkdoinofenahaaDoor.Pure
open Go.RowKit Go.Proofs.YtpkdoinofenahaaDoor.PFnCamelLow Go.Proofs.YtpkdoinofenahaaDoorW.PrintWords Go.Proofs.YtpkdoinofenahaaDoorW.PrintLast Go.Proofs.YtpkdoinofenahaaDoor.Txt Go.Proofs.YtpkdoinofenahaaDoor

/-! ### texts joined -/
/-- The bytes of texts with one between each two. -/
def joinL (p : List UInt8) : List (List UInt8) → List UInt8
  | [] => []
  | [x] => x
  | x :: y :: l => x ++ p ++ joinL p (y :: l)
/-- What stands behind the first part. -/
def tailL (p : List UInt8) (l : List (List UInt8)) : List UInt8 := l.flatMap fun x => p ++ x
theorem joinL_cons (p x : List UInt8) (l : List (List UInt8)) : joinL p (x :: l) = x ++ tailL p l := by
  induction l generalizing x with
  | nil => simp [joinL, tailL]
  | cons y l ih => rw [joinL, ih]; simp [tailL]
theorem joined_ev (p : ByteArray) (l : List ByteArray) (hp : p.size ≤ 100000) (hn : l.length ≤ 100000) (hl : ∀ x ∈ l, x.size ≤ 100000) :
    ∃ r : ByteArray, Ev (fun k => spec_Joined.f k p l) r ∧ r.toList = joinL p.toList (l.map ByteArray.toList) := by
  have key : ∀ (d i : Nat) (acc : ByteArray), l.length - i = d → 0 < i → i ≤ l.length → acc.size ≤ i * 200000 → ∃ r : ByteArray, Ev (fun k => spec_Joined.l0 k p l acc (l.length : Int) (i : Int)) r ∧ r.toList = acc.toList ++ tailL p.toList ((l.drop i).map ByteArray.toList) := by
    intro d
    induction d with
    | zero =>
      intro i acc hd h0 hi ha
      refine ⟨acc, Ev.step (f := fun _ => some acc) (fun k => by simp only [spec_Joined.l0]; rw [if_neg (by omega)]) (Ev.now _), ?_⟩
      rw [List.drop_eq_nil_of_le (by omega)]; simp [tailL]
    | succ d ih =>
      intro i acc hd h0 hi ha
      have hlt : i < l.length := by omega
      have e : l.drop i = l[i] :: l.drop (i + 1) := List.drop_eq_getElem_cons hlt
      have hr : rdOf ByteArray.empty l (i : Int) = l[i] := by simp [rdOf, List.getElem?_eq_getElem hlt]
      have hz := hl l[i] (List.getElem_mem hlt)
      have hs1 := size_append acc p; have hs2 := size_append (acc ++ p) l[i]
      obtain ⟨r, h1, h2⟩ := ih (i + 1) ((acc ++ p) ++ l[i]) (by omega) (by omega) (by omega) (by omega)
      refine ⟨r, Ev.step (f := fun k => spec_Joined.l0 k p l ((acc ++ p) ++ l[i]) (l.length : Int) ((i + 1 : Nat) : Int)) (fun k => ?_) h1, ?_⟩
      · simp only [spec_Joined.l0]
        rw [if_pos (by omega), if_pos (by omega), if_pos (by omega), if_pos (by omega), if_pos (by omega), hr, if_pos (by omega), w64 (by omega) (by omega)]; rfl
      · rw [h2, e, List.map_cons, tl_append, tl_append]; simp [tailL]
  cases l with
  | nil => exact ⟨⟨#[]⟩, Ev.step (f := fun _ => some _) (fun k => by show spec_Joined.l0 (k + 1) p [] ⟨#[]⟩ _ 0 = _; simp only [spec_Joined.l0]; rw [if_neg (by decide)]) (Ev.now _), tl_nil⟩
  | cons x l =>
    have hz := hl x (List.mem_cons_self ..)
    have he : (⟨#[]⟩ : ByteArray) ++ x = x := ext_eq (by rw [tl_append, tl_nil, List.nil_append])
    obtain ⟨r, h1, h2⟩ := key _ 1 x rfl (by omega) (by simp) (by omega)
    refine ⟨r, Ev.step (f := fun k => spec_Joined.l0 k p (x :: l) x ((x :: l).length : Int) ((1 : Nat) : Int)) (fun k => ?_) h1, ?_⟩
    · show spec_Joined.l0 (k + 1) p (x :: l) ⟨#[]⟩ _ 0 = _
      simp only [spec_Joined.l0]
      rw [if_pos (by simp only [List.length_cons]; omega), if_neg (by omega), if_pos (by omega), if_pos (by simp only [List.length_cons]; omega)]
      have hr : rdOf ByteArray.empty (x :: l) 0 = x := rfl
      rw [hr, he, if_pos (by show 0 + x.size ≤ _; omega), w64 (by decide) (by decide)]; rfl
    · rw [h2, List.map_cons, joinL_cons]; rfl
def fitsL (l : List ByteArray) : Bool := l.all fun s => decide (s.size ≤ 2147483647)
theorem fitsL_cons (s : ByteArray) (l : List ByteArray) : fitsL (s :: l) = (decide (s.size ≤ 2147483647) && fitsL l) := rfl
theorem fits_ev (l : List ByteArray) : Ev (fun k => laws_zzFits2.f k l) (decide (l.length ≤ 2147483647) && fitsL l) := by
  unfold laws_zzFits2.f
  by_cases h0 : (l.length : Int) > 2147483647
  · rw [decide_eq_false (by omega)]; exact Ev.pos h0 (Ev.now _)
  rw [decide_eq_true (by omega), Bool.true_and]
  refine Ev.neg h0 ?_
  have key : ∀ (d i : Nat), l.length - i = d → i ≤ l.length → Ev (fun k => laws_zzFits2.l0 k l (l.length : Int) (i : Int)) (fitsL (l.drop i)) := by
    intro d
    induction d with
    | zero =>
      intro i hd hi
      rw [List.drop_eq_nil_of_le (by omega)]
      refine Ev.step (f := fun _ => some true) (fun k => ?_) (Ev.now _)
      simp only [laws_zzFits2.l0]; rw [if_neg (by omega)]
    | succ d ih =>
      intro i hd hi
      have hlt : i < l.length := by omega
      have e : l.drop i = l[i] :: l.drop (i + 1) := List.drop_eq_getElem_cons hlt
      have hr : rdOf ByteArray.empty l (i : Int) = l[i] := by simp [rdOf, List.getElem?_eq_getElem hlt]
      by_cases h5 : (l[i].size : Int) > 2147483647
      · have e2 : fitsL (l.drop i) = false := by rw [e, fitsL_cons, decide_eq_false (by omega)]; rfl
        rw [e2]
        refine Ev.step (f := fun _ => some false) (fun k => ?_) (Ev.now _)
        simp only [laws_zzFits2.l0]; rw [if_pos (by omega), if_pos (by omega), if_pos (by omega), hr, if_pos h5]
      · have e2 : fitsL (l.drop i) = fitsL (l.drop (i + 1)) := by rw [e, fitsL_cons, decide_eq_true (by omega)]; rfl
        rw [e2]
        refine Ev.step (f := fun k => laws_zzFits2.l0 k l (l.length : Int) ((i + 1 : Nat) : Int)) (fun k => ?_) (ih (i + 1) (by omega) (by omega))
        simp only [laws_zzFits2.l0]; rw [if_pos (by omega), if_pos (by omega), if_pos (by omega), hr, if_neg h5, w64 (by omega) (by omega)]; rfl
  exact key _ 0 rfl (Nat.zero_le _)
/-- Small letters. -/
def smallB (c : UInt8) : Bool := decide (97 ≤ c.toNat) && decide (c.toNat ≤ 122)
theorem small_ev (s : ByteArray) (hs : s.size ≤ 1000) : Ev (fun k => spec_Small.f k s) (s.toList.all smallB) := by
  have hl := len_eq s
  have key : ∀ (d i : Nat), s.toList.length - i = d → i ≤ s.toList.length → Ev (fun k => spec_Small.l0 k s (s.size : Int) (i : Int)) ((s.toList.drop i).all smallB) := by
    intro d
    induction d with
    | zero =>
      intro i hd hi
      rw [List.drop_eq_nil_of_le (by omega)]
      refine Ev.step (f := fun _ => some true) (fun k => ?_) (Ev.now _)
      simp only [spec_Small.l0]; rw [if_neg (by omega)]
    | succ d ih =>
      intro i hd hi
      have hlt : i < s.toList.length := by omega
      have e : s.toList.drop i = s.toList[i] :: s.toList.drop (i + 1) := List.drop_eq_getElem_cons hlt
      have hb := bt_get s (i : Int) (by simpa using hlt)
      simp only [Int.toNat_natCast] at hb
      by_cases h1 : 97 ≤ s.toList[i].toNat
      · by_cases h2 : s.toList[i].toNat ≤ 122
        · have e2 : (s.toList.drop i).all smallB = (s.toList.drop (i + 1)).all smallB := by rw [e, List.all_cons]; unfold smallB; rw [decide_eq_true h1, decide_eq_true h2]; rfl
          rw [e2]
          refine Ev.step (f := fun k => spec_Small.l0 k s (s.size : Int) ((i + 1 : Nat) : Int)) (fun k => ?_) (ih (i + 1) (by omega) (by omega))
          simp only [spec_Small.l0]; rw [if_pos (by omega), if_pos (by omega), if_pos (by omega), if_neg (by rw [hb]; omega), if_neg (by rw [hb]; omega), w64 (by omega) (by omega)]; rfl
        · have e2 : (s.toList.drop i).all smallB = false := by rw [e, List.all_cons]; unfold smallB; rw [decide_eq_true h1, decide_eq_false h2]; rfl
          rw [e2]
          refine Ev.step (f := fun _ => some false) (fun k => ?_) (Ev.now _)
          simp only [spec_Small.l0]; rw [if_pos (by omega), if_pos (by omega), if_pos (by omega), if_neg (by rw [hb]; omega), if_pos (by rw [hb]; omega)]
      · have e2 : (s.toList.drop i).all smallB = false := by rw [e, List.all_cons]; unfold smallB; rw [decide_eq_false h1]; rfl
        rw [e2]
        refine Ev.step (f := fun _ => some false) (fun k => ?_) (Ev.now _)
        simp only [spec_Small.l0]; rw [if_pos (by omega), if_pos (by omega), if_pos (by omega), if_pos (by rw [hb]; omega)]
  exact key _ 0 rfl (Nat.zero_le _)
def wordB (s : ByteArray) : Bool := decide (2 ≤ s.size) && (decide (s.size ≤ 12) && s.toList.all smallB)
theorem words_ev (l : List ByteArray) (hl : l.length ≤ 2147483647) : Ev (fun k => laws_words9.f k l) (l.all wordB && (decide (0 < l.length) && decide (l.length ≤ 8))) := by
  have key : ∀ (d i : Nat), l.length - i = d → i ≤ l.length → Ev (fun k => laws_words9.l0 k l (l.length : Int) (i : Int)) ((l.drop i).all wordB && (decide (0 < l.length) && decide (l.length ≤ 8))) := by
    intro d
    induction d with
    | zero =>
      intro i hd hi
      rw [List.drop_eq_nil_of_le (by omega), List.all_nil, Bool.true_and]
      by_cases h0 : (l.length : Int) > 0
      · rw [decide_eq_true (show 0 < l.length by omega), Bool.true_and]
        refine Ev.step (f := fun _ => some (decide (l.length ≤ 8))) (fun k => ?_) (Ev.now _)
        simp only [laws_words9.l0]; rw [if_neg (by omega), if_pos h0]
        congr 1
        rw [decide_eq_decide]; omega
      · rw [decide_eq_false (show ¬ 0 < l.length by omega), Bool.false_and]
        refine Ev.step (f := fun _ => some false) (fun k => ?_) (Ev.now _)
        simp only [laws_words9.l0]; rw [if_neg (by omega), if_neg h0]
    | succ d ih =>
      intro i hd hi
      have hlt : i < l.length := by omega
      have e : l.drop i = l[i] :: l.drop (i + 1) := List.drop_eq_getElem_cons hlt
      have hr : rdOf ByteArray.empty l (i : Int) = l[i] := by simp [rdOf, List.getElem?_eq_getElem hlt]
      by_cases h2 : (l[i].size : Int) < 2
      · have e2 : (l.drop i).all wordB = false := by rw [e, List.all_cons]; unfold wordB; rw [decide_eq_false (by omega)]; rfl
        rw [e2, Bool.false_and]
        refine Ev.step (f := fun _ => some false) (fun k => ?_) (Ev.now _)
        simp only [laws_words9.l0]; rw [if_pos (by omega), if_pos (by omega), if_pos (by omega), hr, if_pos h2]
      by_cases h3 : (l[i].size : Int) > 12
      · have e2 : (l.drop i).all wordB = false := by rw [e, List.all_cons]; unfold wordB; rw [decide_eq_true (show 2 ≤ l[i].size by omega), decide_eq_false (show ¬ l[i].size ≤ 12 by omega)]; rfl
        rw [e2, Bool.false_and]
        refine Ev.step (f := fun _ => some false) (fun k => ?_) (Ev.now _)
        simp only [laws_words9.l0]; rw [if_pos (by omega), if_pos (by omega), if_pos (by omega), hr, if_neg h2, if_pos h3]
      have e2 : (l.drop i).all wordB = (l[i].toList.all smallB && (l.drop (i + 1)).all wordB) := by
        rw [e, List.all_cons]; unfold wordB; rw [decide_eq_true (show 2 ≤ l[i].size by omega), decide_eq_true (show l[i].size ≤ 12 by omega)]; rfl
      rw [e2]
      refine Ev.step (f := fun k => (spec_Small.f k l[i]).bind fun t105 => (if t105 = true then (laws_words9.l0 k l (l.length : Int) ((i + 1 : Nat) : Int)) else (some false))) (fun k => ?_) ?_
      · simp only [laws_words9.l0]; rw [if_pos (by omega), if_pos (by omega), if_pos (by omega), hr, if_neg h2, if_neg h3, w64 (by omega) (by omega)]; rfl
      · refine Ev.andThen (small_ev l[i] (by omega)) ?_
        cases l[i].toList.all smallB with
        | true => rw [Bool.true_and]; exact Ev.pos rfl (ih (i + 1) (by omega) (by omega))
        | false => rw [Bool.false_and, Bool.false_and]; exact Ev.neg (by decide) (Ev.now _)
  exact key _ 0 rfl (Nat.zero_le _)
/-- A word with a capital letter first. -/
def capL : List UInt8 → List UInt8
  | [] => []
  | c :: t => Giv.highB c :: t
theorem caps_ev (l : List ByteArray) (hn : l.length ≤ 8) (hw : ∀ x ∈ l, 1 ≤ x.size ∧ x.size ≤ 12) : ∃ r : ByteArray, Ev (fun k => laws_capitals9.f k l) r ∧ r.toList = (l.map ByteArray.toList).flatMap capL ∧ r.size ≤ 100 := by
  have key : ∀ (d i : Nat) (acc : ByteArray), l.length - i = d → i ≤ l.length → acc.size ≤ 12 * i → ∃ r : ByteArray, Ev (fun k => laws_capitals9.l0 k l acc (l.length : Int) (i : Int)) r ∧ r.toList = acc.toList ++ ((l.drop i).map ByteArray.toList).flatMap capL ∧ r.size ≤ 100 := by
    intro d
    induction d with
    | zero =>
      intro i acc hd hi ha
      refine ⟨acc, Ev.step (f := fun _ => some acc) (fun k => by simp only [laws_capitals9.l0]; rw [if_neg (by omega)]) (Ev.now _), ?_, by omega⟩
      rw [List.drop_eq_nil_of_le (by omega)]; simp
    | succ d ih =>
      intro i acc hd hi ha
      have hlt : i < l.length := by omega
      have e : l.drop i = l[i] :: l.drop (i + 1) := List.drop_eq_getElem_cons hlt
      have hr : rdOf ByteArray.empty l (i : Int) = l[i] := by simp [rdOf, List.getElem?_eq_getElem hlt]
      obtain ⟨h1, h2⟩ := hw l[i] (List.getElem_mem hlt)
      have hx1 := size_extract l[i] 0 1 (by omega) (by omega)
      have hx2 := size_extract l[i] 1 l[i].size (by omega) (by omega)
      have fu : Giv.spec_Upper.f (l[i].extract 0 1) = some ⟨((l[i].extract 0 1).toList.map Giv.highB).toArray⟩ := by unfold Giv.spec_Upper.f; rw [if_pos (by omega)]
      obtain ⟨U, hU⟩ : ∃ U : ByteArray, U = ⟨((l[i].extract 0 1).toList.map Giv.highB).toArray⟩ := ⟨_, rfl⟩
      have hUz : U.size = 1 := by rw [len_eq, hU, tl_mk, List.length_map, ← len_eq]; exact hx1
      have hUl : U.toList ++ (l[i].extract 1 l[i].size).toList = capL l[i].toList := by
        rw [hU, tl_mk, extract_upto, extract_self]
        have := len_eq l[i]
        cases h : l[i].toList with
        | nil => rw [h, List.length_nil] at this; omega
        | cons c t => simp [capL]
      rw [← hU] at fu
      have s1 := size_append U (l[i].extract 1 l[i].size)
      have s2 := size_append acc (U ++ l[i].extract 1 l[i].size)
      obtain ⟨r, g1, g2, g3⟩ := ih (i + 1) (acc ++ (U ++ l[i].extract 1 l[i].size)) (by omega) (by omega) (by omega)
      refine ⟨r, Ev.step (f := fun k => laws_capitals9.l0 k l (acc ++ (U ++ l[i].extract 1 l[i].size)) (l.length : Int) ((i + 1 : Nat) : Int)) (fun k => ?_) g1, ?_, g3⟩
      · simp only [laws_capitals9.l0]
        rw [if_pos (by omega), if_pos (by omega), if_pos (by omega), if_pos (by omega), hr, if_pos (by omega), fu, Option.bind_some, if_pos (by omega), if_pos (by omega), w64 (by omega) (by omega)]; rfl
      · rw [g2, e, List.map_cons, List.flatMap_cons, tl_append, tl_append, hUl, List.append_assoc]
  obtain ⟨r, h1, h2, h3⟩ := key _ 0 ⟨#[]⟩ rfl (Nat.zero_le _) (by decide)
  exact ⟨r, h1, by rw [h2, tl_nil]; rfl, h3⟩
theorem drop_last {l : List UInt8} {z : UInt8} (h : l.getLast? = some z) : l.dropLast ++ [z] = l := by
  obtain ⟨ys, rfl⟩ := List.getLast?_eq_some_iff.1 h
  simp
/-- Within a word. -/
theorem cam_word (t rest : List UInt8) (r : UInt8) (hr : Giv.connB r = false) (ht : t.all smallB = true) : Giv.camL r (t ++ rest) = match (r :: t).getLast?, (r :: t).dropLast with | some z, i => i ++ Giv.camL z rest | none, i => i := by
  induction t generalizing r with
  | nil => simp
  | cons c t ih =>
    simp only [List.all_cons, Bool.and_eq_true] at ht
    have hc := ht.1
    unfold smallB at hc
    simp only [Bool.and_eq_true, decide_eq_true_eq] at hc
    have f := Giv.small_facts c hc.1 hc.2
    rw [List.cons_append, Giv.camL, hr, if_neg (by decide), ih c f.1 ht.2]
    simp only [List.getLast?_cons_cons, List.dropLast_cons_cons]
    cases h : (c :: t).getLast? with
    | none => simp at h
    | some z => simp
theorem cam_all (sep : UInt8) (hsep : Giv.connB sep = true) : ∀ (ws : List (List UInt8)) (r : UInt8) (t : List UInt8), Giv.connB r = false → t.all smallB = true → (∀ w ∈ ws, w ≠ [] ∧ w.all smallB = true) → Giv.camL r (t ++ tailL [sep] ws) = r :: t ++ ws.flatMap capL := by
  intro ws
  induction ws with
  | nil =>
    intro r t hr ht _
    rw [cam_word t _ r hr ht]
    show (match (r :: t).getLast?, (r :: t).dropLast with | some z, i => i ++ Giv.camL z [] | none, i => i) = _
    cases h : (r :: t).getLast? with
    | none => simp at h
    | some z =>
      have := drop_last h
      simp only [Giv.camL, List.flatMap_nil, List.append_nil]
      exact this
  | cons w ws ih =>
    intro r t hr ht hws
    obtain ⟨hw0, hw1⟩ := hws w (List.mem_cons_self ..)
    cases w with
    | nil => exact absurd rfl hw0
    | cons d u =>
      simp only [List.all_cons, Bool.and_eq_true] at hw1
      have hd := hw1.1
      unfold smallB at hd
      simp only [Bool.and_eq_true, decide_eq_true_eq] at hd
      have f := Giv.small_facts d hd.1 hd.2
      have fh : Giv.connB (Giv.highB d) = false := by
        have : ∀ n : Fin 256, 97 ≤ n.val → n.val ≤ 122 → Giv.connB (Giv.highB (UInt8.ofNat n.val)) = false := by decide +kernel
        have h2 := this ⟨d.toNat, d.toNat_lt⟩ hd.1 hd.2
        simpa using h2
      have ih2 := ih (Giv.highB d) u fh hw1.2 (fun w hw => hws w (List.mem_cons_of_mem _ hw))
      have et : tailL [sep] ((d :: u) :: ws) = sep :: d :: (u ++ tailL [sep] ws) := by simp [tailL]
      rw [et, cam_word t _ r hr ht]
      have hz : ∀ z, (r :: t).getLast? = some z → Giv.connB z = false := by
        intro z hz
        rcases List.mem_cons.1 (List.mem_of_getLast? hz) with rfl | h
        · exact hr
        · have hs := List.all_eq_true.1 ht z h
          unfold smallB at hs
          simp only [Bool.and_eq_true, decide_eq_true_eq] at hs
          exact (Giv.small_facts z hs.1 hs.2).1
      cases h : (r :: t).getLast? with
      | none => simp at h
      | some z =>
        have hd2 := drop_last h
        show (r :: t).dropLast ++ Giv.camL z (sep :: d :: (u ++ tailL [sep] ws)) = _
        rw [Giv.camL, hz z h, if_neg (by decide), Giv.camL, hsep, f.1, if_pos rfl, if_neg (by decide), ih2, List.flatMap_cons]
        have e3 : (r :: t).dropLast ++ z :: (Giv.highB d :: u ++ ws.flatMap capL) = ((r :: t).dropLast ++ [z]) ++ (Giv.highB d :: u ++ ws.flatMap capL) := by simp
        rw [e3, hd2]; simp [capL]

theorem camIn_small (c : UInt8) (h : smallB c = true) : Giv.camIn c = true := by
  unfold smallB at h; unfold Giv.camIn; rw [h]; rfl
theorem join_len (sep : UInt8) (ws : List (List UInt8)) (h : ∀ w ∈ ws, w.length ≤ 12) : (tailL [sep] ws).length ≤ 13 * ws.length := by
  induction ws with
  | nil => simp [tailL]
  | cons w ws ih =>
    have h1 := h w (List.mem_cons_self ..)
    have h2 := ih (fun x hx => h x (List.mem_cons_of_mem _ hx))
    have e : tailL [sep] (w :: ws) = sep :: (w ++ tailL [sep] ws) := by simp [tailL]
    rw [e, List.length_cons, List.length_append, List.length_cons]; omega
theorem tail_in (sep : UInt8) (hs : Giv.camIn sep = true) (ws : List (List UInt8)) (h : ∀ w ∈ ws, w.all smallB = true) : (tailL [sep] ws).all Giv.camIn = true := by
  induction ws with
  | nil => rfl
  | cons w ws ih =>
    have e : tailL [sep] (w :: ws) = sep :: (w ++ tailL [sep] ws) := by simp [tailL]
    rw [e, List.all_cons, List.all_append, hs, ih (fun x hx => h x (List.mem_cons_of_mem _ hx))]
    have := List.all_eq_true.1 (h w (List.mem_cons_self ..))
    rw [List.all_eq_true.2 (fun x hx => camIn_small x (this x hx))]; rfl
/-- The whole law, for one sign between words. -/
theorem one_sign (sep : ByteArray) (c : UInt8) (hs : sep.toList = [c]) (hc : Giv.connB c = true) (hi : Giv.camIn c = true) (l : List ByteArray) (h0 : 0 < l.length) (h8 : l.length ≤ 8) (hw : l.all wordB = true) :
    Ev (fun k => (spec_Joined.f k sep l).bind fun t157 => ((impl_CamelLow.f t157).bind fun t158 => (if 0 < (l.length : Int) then (if 1 ≤ (l.length : Int) then ((laws_capitals9.f k (l.drop 1)).bind fun t161 => (if (rdOf ByteArray.empty l 0).size + t161.size ≤ 9223372036854775807 then (some (t158.toList == ((rdOf ByteArray.empty l 0) ++ t161).toList)) else (none))) else (none)) else (none)))) true := by
  have hss : sep.size = 1 := by rw [len_eq, hs]; rfl
  have hww : ∀ x ∈ l, 2 ≤ x.size ∧ x.size ≤ 12 ∧ x.toList.all smallB = true := by
    intro x hx
    have := List.all_eq_true.1 hw x hx
    unfold wordB at this
    simpa only [Bool.and_eq_true, decide_eq_true_eq] using this
  obtain ⟨J, hJ, hJl⟩ := joined_ev sep l (by omega) (by omega) (fun x hx => by have := (hww x hx).2.1; omega)
  obtain ⟨C, hC, hCl, hCz⟩ := caps_ev (l.drop 1) (by rw [List.length_drop]; omega) (fun x hx => by have := hww x (List.mem_of_mem_drop hx); omega)
  cases l with
  | nil => simp at h0
  | cons x l =>
    obtain ⟨x2, x12, xs⟩ := hww x (List.mem_cons_self ..)
    have hxl := len_eq x
    rw [List.map_cons, joinL_cons, hs] at hJl
    have hmap : ∀ w ∈ l.map ByteArray.toList, w ≠ [] ∧ w.all smallB = true ∧ w.length ≤ 12 := by
      intro w hw
      obtain ⟨y, hy, rfl⟩ := List.mem_map.1 hw
      obtain ⟨y2, y12, ys⟩ := hww y (List.mem_cons_of_mem _ hy)
      have := len_eq y
      refine ⟨fun e => ?_, ys, by omega⟩
      rw [e, List.length_nil] at this; omega
    have hlen := join_len c (l.map ByteArray.toList) (fun w hw => (hmap w hw).2.2)
    rw [List.length_map] at hlen
    rw [List.length_cons] at h8
    have hJz := len_eq J
    rw [hJl, List.length_append] at hJz
    cases hx : x.toList with
    | nil => rw [hx, List.length_nil] at hxl; omega
    | cons a t =>
      rw [hx] at xs hJl hJz hxl
      have ha := xs
      simp only [List.all_cons, Bool.and_eq_true] at ha
      have ha1 := ha.1
      unfold smallB at ha1
      simp only [Bool.and_eq_true, decide_eq_true_eq] at ha1
      have fa := Giv.small_facts a ha1.1 ha1.2
      have ok : Giv.camOk J = true := by
        unfold Giv.camOk
        rw [hJl, List.cons_append]
        show (decide (97 ≤ a.toNat) && decide (a.toNat ≤ 122) && (a :: (t ++ tailL [c] (l.map ByteArray.toList))).all Giv.camIn) = true
        rw [decide_eq_true ha1.1, decide_eq_true ha1.2, ← List.cons_append, List.all_append, tail_in c hi _ (fun w hw => (hmap w hw).2.1),
          List.all_eq_true.2 (fun y hy => camIn_small y (List.all_eq_true.1 xs y hy))]; rfl
      have hcs : (Giv.camS J).toList = a :: t ++ (l.map ByteArray.toList).flatMap capL := by
        unfold Giv.camS
        rw [hJl, List.cons_append]
        show (⟨(Giv.camL a (t ++ tailL [c] (l.map ByteArray.toList))).toArray⟩ : ByteArray).toList = _
        rw [tl_mk, cam_all c hc _ a t fa.1 ha.2 (fun w hw => ⟨(hmap w hw).1, (hmap w hw).2.1⟩)]
      have f1 : impl_CamelLow.f J = some (Giv.camS J) := by
        unfold impl_CamelLow.f Giv.xstrings_ToCamelCase.f
        rw [if_pos ⟨by simp only [List.length_cons] at hJz hxl; omega, by simp only [List.length_cons] at hJz hxl; omega, ok⟩]; rfl
      have hr : rdOf ByteArray.empty (x :: l) 0 = x := rfl
      refine Ev.andThen hJ (Ev.thenC f1 (Ev.pos (by simp only [List.length_cons]; omega) (Ev.pos (by simp only [List.length_cons]; omega) (Ev.andThen hC (Ev.pos (by rw [hr]; omega) (Ev.const ?_))))))
      rw [hr, hcs, tl_append, hx, hCl]
      simp

theorem FnCamelLow : laws_FnCamelLow.Pure := by
  intro l a1 ha
  apply Ev.rounds
  unfold laws_FnCamelLow.f
  refine Ev.andThen (fits_ev l) ?_
  cases hf : (decide (l.length ≤ 2147483647) && fitsL l) with
  | false => exact Ev.neg (by decide) (Ev.now _)
  | true =>
    refine Ev.pos rfl ?_
    simp only [Bool.and_eq_true, decide_eq_true_eq] at hf
    refine Ev.andThen (words_ev l hf.1) ?_
    cases hw : (l.all wordB && (decide (0 < l.length) && decide (l.length ≤ 8))) with
    | false => exact Ev.neg (by decide) (Ev.now _)
    | true =>
      refine Ev.pos rfl ?_
      simp only [Bool.and_eq_true, decide_eq_true_eq] at hw
      have hb : 0 ≤ a1 ∧ a1 ≤ 255 := by
        have e1 : IntKind.u8.min = 0 := rfl
        have e2 : IntKind.u8.max = 255 := rfl
        simp [Lit.wf] at ha
        omega
      obtain ⟨n, rfl⟩ : ∃ n : Nat, a1 = (n : Int) := ⟨a1.toNat, by omega⟩
      have hm : Int.tmod (n : Int) 3 = ((n % 3 : Nat) : Int) := rfl
      rw [hm]
      have h3 : n % 3 < 3 := Nat.mod_lt _ (by decide)
      refine Ev.thenC rfl (Ev.pos (by omega) (Ev.pos (by show _ < ((3 : Nat) : Int); omega) ?_))
      have : n % 3 = 0 ∨ n % 3 = 1 ∨ n % 3 = 2 := by omega
      rcases this with h | h | h
      · rw [h]; exact one_sign _ 95 (tl_mk [95]) (by decide +kernel) (by decide) l hw.2.1 hw.2.2 hw.1
      · rw [h]; exact one_sign _ 45 (tl_mk [45]) (by decide +kernel) (by decide) l hw.2.1 hw.2.2 hw.1
      · rw [h]; exact one_sign _ 32 (tl_mk [32]) (by decide +kernel) (by decide) l hw.2.1 hw.2.2 hw.1

end Go.Proofs.YtpkdoinofenahaaDoor.Pure
