/- FnJustified, as a plain statement: a text that is filled up has just so many characters, and is in it. -/
import Derived.Test.YtpkdoinofenahaaDoorPFnJustifiedx1
import Derived.Test.YtpkdoinofenahaaDoorRunes
import Derived.Test.YtpkdoinofenahaaDoorTxt
namespace Go.Proofs.YtpkdoinofenahaaDoor.Pure
open Go.RowKit Go.Proofs.YtpkdoinofenahaaDoor.PFnJustified Go.Proofs.YtpkdoinofenahaaDoorW.PrintWords Go.Proofs.YtpkdoinofenahaaDoorW.PrintLast Go.Proofs.YtpkdoinofenahaaDoor.Txt

/-! ### texts of UTF-8 -/
/-- Are all of these looked at? -/
def textL (l : List ByteArray) : Bool := l.all fun s => s.size ≤ 500 && Giv.utf8 s
theorem textL_cons (s : ByteArray) (l : List ByteArray) : textL (s :: l) = ((decide (s.size ≤ 500) && Giv.utf8 s) && textL l) := rfl
theorem text_ev (l : List ByteArray) (hl : l.length ≤ 1000) : Ev (fun k => laws_text9.f k l) (textL l) := by
  have key : ∀ (d i : Nat), l.length - i = d → i ≤ l.length → Ev (fun k => laws_text9.l0 k l (l.length : Int) (i : Int)) (textL (l.drop i)) := by
    intro d
    induction d with
    | zero =>
      intro i hd hi
      rw [List.drop_eq_nil_of_le (by omega)]
      refine Ev.step (f := fun _ => some true) (fun k => ?_) (Ev.now _)
      simp only [laws_text9.l0]; rw [if_neg (by omega)]
    | succ d ih =>
      intro i hd hi
      have hlt : i < l.length := by omega
      have e : l.drop i = l[i] :: l.drop (i + 1) := List.drop_eq_getElem_cons hlt
      have hr : rdOf ByteArray.empty l (i : Int) = l[i] := by simp [rdOf, List.getElem?_eq_getElem hlt]
      by_cases h5 : l[i].size ≤ 500
      · have ha : Giv.spec_UTF8.f l[i] = some (Giv.utf8 l[i]) := by unfold Giv.spec_UTF8.f; rw [if_pos (by omega)]
        refine Ev.step (f := fun k => (Giv.spec_UTF8.f l[i]).bind fun t => if t = true then laws_text9.l0 k l (l.length : Int) ((i + 1 : Nat) : Int) else some false) (fun k => ?_) ?_
        · simp only [laws_text9.l0]; rw [if_pos (by omega), if_pos (by omega), if_pos (by omega), hr, if_neg (by omega), w64 (by omega) (by omega)]; rfl
        · refine Ev.thenC ha ?_
          cases hx : Giv.utf8 l[i] with
          | true =>
            have e2 : textL (l.drop i) = textL (l.drop (i + 1)) := by rw [e, textL_cons, hx, decide_eq_true h5]; rfl
            rw [e2]; exact Ev.pos rfl (ih (i + 1) (by omega) (by omega))
          | false =>
            have e2 : textL (l.drop i) = false := by rw [e, textL_cons, hx, Bool.and_false, Bool.false_and]
            rw [e2]; exact Ev.neg (by decide) (Ev.now _)
      · have e2 : textL (l.drop i) = false := by rw [e, textL_cons, decide_eq_false h5]; rfl
        rw [e2]
        refine Ev.step (f := fun _ => some false) (fun k => ?_) (Ev.now _)
        simp only [laws_text9.l0]; rw [if_pos (by omega), if_pos (by omega), if_pos (by omega), hr, if_pos (by omega)]
  have := key _ 0 rfl (Nat.zero_le _)
  simpa [laws_text9.f] using this
theorem enc_pos (r : Nat) : 1 ≤ (Lib.encodeRune (r : Int)).length := (Giv.enc_len _).1
/-- How many characters. -/
theorem count_encs (s : ByteArray) : ∀ (l : List Nat) (f pos : Nat), (∀ r ∈ l, Giv.okRune r) → s.toList.drop pos = Giv.encs' l → s.size ≤ pos + f → Lib.runeCountFrom s f pos = l.length := by
  intro l
  have hz := len_eq s
  induction l with
  | nil =>
    intro f pos _ h hf
    have : s.toList.length ≤ pos := by
      have := congrArg List.length h
      rw [List.length_drop] at this
      simp [Giv.encs'] at this; omega
    rw [Lib.runeCountFrom_end s f pos (by omega)]; rfl
  | cons r l ih =>
    intro f pos hok h hf
    rw [Giv.encs_cons] at h
    have hp := enc_pos r
    have hlen := congrArg List.length h
    rw [List.length_drop, List.length_append] at hlen
    obtain ⟨f, rfl⟩ : ∃ g, f = g + 1 := ⟨f - 1, by omega⟩
    have hd := Giv.decL s pos
    rw [h, Giv.dec_enc (hok r (List.mem_cons_self ..))] at hd
    rw [Lib.runeCountFrom, if_pos (by omega), ← hd]
    have h2 : s.toList.drop (pos + (Lib.encodeRune (r : Int)).length) = Giv.encs' l := by
      rw [← List.drop_drop, h, List.drop_left]
    rw [ih f _ (fun q hq => hok q (List.mem_cons_of_mem _ hq)) h2 (by omega), List.length_cons]; omega
theorem count_of (s : ByteArray) (l : List Nat) (hok : ∀ r ∈ l, Giv.okRune r) (h : s.toList = Giv.encs' l) : Lib.runeCount s = l.length :=
  count_encs s l s.size 0 hok (by simpa using h) (by omega)
theorem rep_encs (pad : ByteArray) (lp : List Nat) (h : pad.toList = Giv.encs' lp) (q : Nat) : Giv.repL pad q = Giv.encs' (List.replicate q lp).flatten := by
  induction q with
  | zero => rfl
  | succ q ih => rw [Giv.repL_succ, ih, h, List.replicate_succ', List.flatten_append, Giv.encs_app]; simp
theorem pad_encs (pad : ByteArray) (hu : Giv.utf8 pad = true) (h1 : 1 ≤ pad.size) (rem : Nat) : ∃ l : List Nat, (∀ r ∈ l, Giv.okRune r) ∧ Giv.padL pad rem = Giv.encs' l ∧ l.length = rem := by
  obtain ⟨lp, e1, e2, e3⟩ := Giv.text_runes_ok pad hu
  have hc := count_of pad lp e2 e3
  have hp1 := Giv.count_pos pad h1
  have hmod : rem % lp.length < lp.length := Nat.mod_lt _ (by omega)
  refine ⟨(List.replicate (rem / lp.length) lp).flatten ++ lp.take (rem % lp.length), ?_, ?_, ?_⟩
  · intro r hr
    rcases List.mem_append.1 hr with h | h
    · obtain ⟨l', hl', hr'⟩ := List.mem_flatten.1 h
      rw [(List.mem_replicate.1 hl').2] at hr'
      exact e2 r hr'
    · exact e2 r (List.mem_of_mem_take h)
  · unfold Giv.padL
    rw [hc, Giv.encs_app, rep_encs pad lp e3]
    congr 1
    obtain ⟨-, -, h3⟩ := Giv.part_runes pad hu 0 (rem % lp.length)
    rw [e1, List.drop_zero, ← List.map_take, Giv.bytes_encs] at h3
    rw [h3]
    show _ = (pad.extract 0 (Giv.adv pad (rem % lp.length) 0).2).toList
    rw [extract_upto]
  · have hdm := Nat.div_add_mod rem lp.length
    rw [List.length_append, List.length_take]
    simp only [List.length_flatten, List.map_replicate, List.sum_replicate_nat]
    rw [Nat.min_eq_left (by omega), Nat.mul_comm]; omega
/-- A result: just so many characters, and the text in it. -/
structure Good (s t : ByteArray) (n : Nat) : Prop where
  small : t.size ≤ 1000000
  count : Lib.runeCount t = max n (Lib.runeCount s)
  mid : ∃ a b : List UInt8, t.toList = a ++ (s.toList ++ b)
theorem good_of (s t : ByteArray) (n : Nat) (hu : Giv.utf8 s = true) (hs : s.size ≤ 500) (a b : List UInt8) (la lb : List Nat) (ha : ∀ r ∈ la, Giv.okRune r) (hb : ∀ r ∈ lb, Giv.okRune r) (ea : a = Giv.encs' la) (eb : b = Giv.encs' lb) (ht : t.toList = a ++ (s.toList ++ b)) (hla : a.length ≤ 301000) (hlb : b.length ≤ 301000)
    (hn : la.length + lb.length + Lib.runeCount s = max n (Lib.runeCount s)) : Good s t n := by
  obtain ⟨ls, e1, e2, e3⟩ := Giv.text_runes_ok s hu
  have hc := count_of s ls e2 e3
  refine ⟨?_, ?_, a, b, ht⟩
  · have h1 := len_eq t
    have h2 := len_eq s
    rw [h1, ht, List.length_append, List.length_append]; omega
  · rw [count_of t (la ++ (ls ++ lb)) ?_ (by rw [ht, ea, eb, e3, Giv.encs_app, Giv.encs_app])]
    · rw [List.length_append, List.length_append, ← hn]; omega
    · intro r hr
      rcases List.mem_append.1 hr with h | h
      · exact ha r h
      rcases List.mem_append.1 h with h | h
      · exact e2 r h
      · exact hb r h
theorem good_same (s : ByteArray) (n : Nat) (hs : s.size ≤ 500) (h : ¬ Lib.runeCount s < n) : Good s s n :=
  ⟨by omega, by omega, [], [], by simp⟩
theorem place_ev (p s : ByteArray) (hs : s.size ≤ 1000000) (hp : p.size ≤ 1000000) : Ev (fun k => spec_Place.f k p s 0) (at_ 0 (idx p.toList s.toList)) := by
  have hl := len_eq s; have hl' := len_eq p
  have := search (fun k x => spec_Place.l0 k p s x) s.toList p.toList (by omega) (by omega) (fun k x => by
    simp only [spec_Place.l0, tl_extract, hl, hl']) 0 (.inl (Nat.zero_le _)) (by omega)
  simpa [spec_Place.f] using this
theorem holds_ev (p s : ByteArray) (hs : s.size ≤ 1000000) (hp : p.size ≤ 1000000) (h : ∃ a b : List UInt8, s.toList = a ++ (p.toList ++ b)) : Ev (fun k => spec_Holds.f k p s) true := by
  unfold spec_Holds.f
  refine Ev.andThen (place_ev p s hs hp) (Ev.const ?_)
  cases hi : idx p.toList s.toList with
  | some j => simp [at_]
  | none =>
    exfalso
    obtain ⟨a, b, e⟩ := h
    refine idx_none hi a.length (by rw [e]; simp) ?_
    rw [e, List.drop_left, pre_iff, List.take_left]
theorem loop3 (s : ByteArray) (n : Nat) (hs : s.size ≤ 500) (ts : List ByteArray) (hts : ts.length ≤ 3) (hg : ∀ t ∈ ts, Good s t n) : Ev (fun k => laws_FnJustified.l0 k s (n : Int) ts (ts.length : Int) 0) true := by
  have hcs := Giv.count_le s
  have key : ∀ (d i : Nat), ts.length - i = d → i ≤ ts.length → Ev (fun k => laws_FnJustified.l0 k s (n : Int) ts (ts.length : Int) (i : Int)) true := by
    intro d
    induction d with
    | zero =>
      intro i hd hi
      refine Ev.step (f := fun _ => some true) (fun k => ?_) (Ev.now _)
      simp only [laws_FnJustified.l0]; rw [if_neg (by omega)]
      unfold impl_LenOf.f Giv.xstrings_Len.f
      rw [if_pos (by show 2 ≤ _; omega)]
      show some (decide _) = _
      decide +kernel
    | succ d ih =>
      intro i hd hi
      have hlt : i < ts.length := by omega
      have hr : rdOf ByteArray.empty ts (i : Int) = ts[i] := by simp [rdOf, List.getElem?_eq_getElem hlt]
      have G := hg ts[i] (List.getElem_mem hlt)
      have f1 : impl_LenOf.f ts[i] = some ((Lib.runeCount ts[i] : Nat) : Int) := by unfold impl_LenOf.f Giv.xstrings_Len.f; rw [if_pos (by have := G.small; omega)]; rfl
      have f2 : impl_LenOf.f s = some ((Lib.runeCount s : Nat) : Int) := by unfold impl_LenOf.f Giv.xstrings_Len.f; rw [if_pos (by omega)]; rfl
      refine Ev.step (f := fun k => (impl_LenOf.f ts[i]).bind fun t121 => ((impl_LenOf.f s).bind fun t122 => (if t121 = (mx (n : Int) t122) then ((spec_Holds.f k s ts[i]).bind fun t124 => (if t124 = true then (laws_FnJustified.l0 k s (n : Int) ts (ts.length : Int) ((i + 1 : Nat) : Int)) else (some false))) else (some false)))) (fun k => ?_) ?_
      · simp only [laws_FnJustified.l0]; rw [if_pos (by omega), if_pos (by omega), if_pos (by omega), hr, w64 (by omega) (by omega)]; rfl
      · refine Ev.thenC f1 (Ev.thenC f2 (Ev.pos ?_ (Ev.andThen (holds_ev s ts[i] G.small (by omega) G.mid) (Ev.pos rfl (ih (i + 1) (by omega) (by omega))))))
        have := G.count
        unfold mx
        rw [this]
        split <;> omega
  exact key _ 0 rfl (Nat.zero_le _)

theorem FnJustified : laws_FnJustified.Pure := by
  intro s n pad hs hn hp
  apply Ev.rounds
  unfold laws_FnJustified.f
  have jtrue : Ev (fun k => laws_FnJustified.j1 k s n pad true) true := Ev.step (f := fun _ => some true) (fun k => by simp only [laws_FnJustified.j1]; rfl) (Ev.now _)
  have key : ∀ b : Bool, Ev (fun k => laws_FnJustified.j0 k s n pad b) true := by
    intro b
    cases b with
    | true => exact Ev.step (f := fun _ => some true) (fun k => by simp only [laws_FnJustified.j0]; rfl) (Ev.now _)
    | false =>
      refine Ev.step (f := fun k => (laws_text9.f k (([s, pad] : List ByteArray))).bind fun t112 => (if t112 = true then (if pad.toList = ([] : List UInt8) then (laws_FnJustified.j1 k s n pad true) else (if n < 0 then (laws_FnJustified.j1 k s n pad true) else (laws_FnJustified.j1 k s n pad (decide (n > 300))))) else (laws_FnJustified.j1 k s n pad true))) (fun k => by simp only [laws_FnJustified.j0]; rfl) ?_
      refine Ev.andThen (text_ev [s, pad] (by simp)) ?_
      cases htx : textL [s, pad] with
      | false => exact Ev.neg (by decide) jtrue
      | true =>
        refine Ev.pos rfl ?_
        simp only [textL, List.all_cons, List.all_nil, Bool.and_true, Bool.and_eq_true, decide_eq_true_eq] at htx
        obtain ⟨⟨z1, u1⟩, ⟨z2, u2⟩⟩ := htx
        by_cases he : pad.toList = []
        · exact Ev.pos he jtrue
        refine Ev.neg he ?_
        by_cases hn0 : n < 0
        · exact Ev.pos hn0 jtrue
        refine Ev.neg hn0 ?_
        by_cases hn3 : n > 300
        · rw [decide_eq_true hn3]; exact jtrue
        rw [decide_eq_false hn3]
        have hp1 : 1 ≤ pad.size := by
          have := len_eq pad
          cases h : pad.toList with
          | nil => exact absurd h he
          | cons a t => rw [h, List.length_cons] at this; omega
        obtain ⟨m, rfl⟩ : ∃ m : Nat, n = (m : Int) := ⟨n.toNat, by omega⟩
        have f1 : impl_LeftJustify.f s (m : Int) pad = some (Giv.leftS s (m : Int) pad) := by unfold impl_LeftJustify.f Giv.xstrings_LeftJustify.f; rw [if_pos (by omega)]; rfl
        have f2 : impl_RightJustify.f s (m : Int) pad = some (Giv.rightS s (m : Int) pad) := by unfold impl_RightJustify.f Giv.xstrings_RightJustify.f; rw [if_pos (by omega)]; rfl
        have f3 : impl_Center.f s (m : Int) pad = some (Giv.centerS s (m : Int) pad) := by unfold impl_Center.f Giv.xstrings_Center.f; rw [if_pos (by omega)]; rfl
        have none_ok : ∀ r ∈ ([] : List Nat), Giv.okRune r := by simp
        have g1 : Good s (Giv.leftS s (m : Int) pad) m := by
          unfold Giv.leftS; rw [Int.toNat_natCast]
          split
          · rename_i hl
            obtain ⟨l, h1, h2, h3⟩ := pad_encs pad u2 hp1 (m - Lib.runeCount s)
            exact good_of s _ m u1 z1 [] (Giv.padL pad (m - Lib.runeCount s)) [] l none_ok h1 rfl h2 (by rw [tl_mk]; rfl) (by simp) (Giv.padL_len pad _ (by omega) (by omega)) (by rw [h3]; simp; omega)
          · exact good_same s m z1 (by assumption)
        have g2 : Good s (Giv.rightS s (m : Int) pad) m := by
          unfold Giv.rightS; rw [Int.toNat_natCast]
          split
          · rename_i hl
            obtain ⟨l, h1, h2, h3⟩ := pad_encs pad u2 hp1 (m - Lib.runeCount s)
            exact good_of s _ m u1 z1 (Giv.padL pad (m - Lib.runeCount s)) [] l [] h1 none_ok h2 rfl (by rw [tl_mk]; simp) (Giv.padL_len pad _ (by omega) (by omega)) (by simp) (by rw [h3]; simp; omega)
          · exact good_same s m z1 (by assumption)
        have g3 : Good s (Giv.centerS s (m : Int) pad) m := by
          unfold Giv.centerS; rw [Int.toNat_natCast]
          split
          · rename_i hl
            obtain ⟨l, h1, h2, h3⟩ := pad_encs pad u2 hp1 ((m - Lib.runeCount s) / 2)
            obtain ⟨l', h1', h2', h3'⟩ := pad_encs pad u2 hp1 ((m - Lib.runeCount s + 1) / 2)
            exact good_of s _ m u1 z1 _ _ l l' h1 h1' h2 h2' (by rw [tl_mk]) (Giv.padL_len pad _ (by omega) (by omega)) (Giv.padL_len pad _ (by omega) (by omega)) (by rw [h3, h3']; omega)
          · exact good_same s m z1 (by assumption)
        have hL := loop3 s m z1 [Giv.leftS s (m : Int) pad, Giv.rightS s (m : Int) pad, Giv.centerS s (m : Int) pad] (by simp) (by
          intro t ht
          simp only [List.mem_cons, List.not_mem_nil, or_false] at ht
          rcases ht with rfl | rfl | rfl
          · exact g1
          · exact g2
          · exact g3)
        refine Ev.step (f := fun k => (impl_LeftJustify.f s (m : Int) pad).bind fun t113 => ((impl_RightJustify.f s (m : Int) pad).bind fun t114 => ((impl_Center.f s (m : Int) pad).bind fun t115 => ((some (([t113, t114, t115] : List ByteArray) : List ByteArray)).bind fun y116 => (laws_FnJustified.l0 k s (m : Int) y116 (y116.length : Int) 0))))) (fun k => by simp only [laws_FnJustified.j1]; rfl) ?_
        exact Ev.thenC f1 (Ev.thenC f2 (Ev.thenC f3 (Ev.thenC rfl hL)))
  by_cases h1 : (s.size : Int) > 2147483647
  · exact Ev.pos h1 (key _)
  · exact Ev.neg h1 (key _)

end Go.Proofs.YtpkdoinofenahaaDoor.Pure
