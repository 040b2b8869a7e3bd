/- Semantic versions: tests with bars between them, one after the other, plain. -/
import Derived.Test.YtoebognfkigooaaGreatDoorSvCe
import Derived.Lib.Join
namespace Go.Proofs.YtoebognfkigooaaGreatDoor.Sv
open Go.RowKit Go.Proofs.YtoebognfkigooaaGreatDoor.PFnSemverEither Go.Proofs.YtoebognfkigooaaGreatDoorW.PrintWords Go.Proofs.YtoebognfkigooaaGreatDoor.Txt Go.Proofs.YtoebognfkigooaaGreatDoor Go.Proofs.YtoebognfkigooaaGreatDoor.Vals
set_option linter.unusedVariables false
set_option linter.unusedSimpArgs false
set_option maxRecDepth 20000
theorem bars_snoc (x : List UInt8) : ∀ l : List (List UInt8), l ≠ [] → bars (l ++ [x]) = bars l ++ (124 :: 124 :: x)
  | [], h => absurd rfl h
  | [a], _ => by simp [bars]
  | a :: b :: l, _ => by
    have := bars_snoc x (b :: l) (by simp)
    simp only [List.cons_append] at this ⊢
    simp only [bars]
    rw [this]; simp
theorem gtext_tr (tr : List UInt8) : ∀ ps : List Pc, gtext tr ps = gtext [] ps ++ tr
  | [] => by simp [gtext]
  | p :: ps => by rw [gtext, gtext, gtext_tr tr ps]; simp
/-- What a constraint of tests, one in each group, says of itself. -/
def shown (cs : List Cn) : List UInt8 := Lib.join (cs.map fun c => c.op ++ c.vt) [32, 124, 124, 32]
theorem shown_snoc (c : Cn) (cs : List Cn) (h : cs ≠ []) : shown (cs ++ [c]) = shown cs ++ ([32, 124, 124, 32] ++ (c.op ++ c.vt)) := by
  cases cs with
  | nil => exact absurd rfl h
  | cons a r =>
    unfold shown
    rw [List.cons_append, List.map_cons, List.map_cons, Lib.join_cons, Lib.join_cons, List.map_append]
    unfold Lib.joinTail
    simp
/-- Tests with bars between, each group with a blank behind it. -/
def AccE (x y z i : Nat) (T : ByteArray) (B : Bool) : Prop := ∃ (gs : List Gr) (cs : List Cn), gs.length = i ∧ (gs.map fun g => g.2.map Prod.snd) = cs.map (fun c => [c]) ∧ (gs ≠ [] → T.toList ++ [32] = bars (gs.map gseg)) ∧ (gs = [] → T = ⟨#[]⟩) ∧ T.toList = shown cs ∧ B = (gs.any fun g => g.2.all fun q => askC x y z q.2) ∧ (∀ g ∈ gs, g.1 = [32] ∧ GrOk g) ∧ T.size ≤ 50 * i
theorem AccE.none (x y z : Nat) : AccE x y z 0 ⟨#[]⟩ false := ⟨[], [], rfl, rfl, fun h => absurd rfl h, fun _ => rfl, by rw [tl_nil]; rfl, rfl, by simp, Nat.le_refl _⟩
theorem AccE.step {x y z i : Nat} {T : ByteArray} {B : Bool} (h : AccE x y z i T B) {o s : ByteArray} (ho : o.toList ∈ nine) {d1 d2 d3 : List UInt8} (n1 : Num9 d1) (n2 : Num9 d2) (n3 : Num9 d3) (hs : s.toList = d1 ++ (sg 46 d2 ++ sg 46 d3)) {T' : ByteArray} (hT : (i = 0 ∧ T' = T) ∨ (0 < i ∧ T' = T ++ ⟨#[32, 124, 124, 32]⟩)) :
    AccE x y z (i + 1) (T' ++ (o ++ s)) (B || askB o.toList (ord3 x y z (val 0 d1) (val 0 d2) (val 0 d3)) x y z (val 0 d1) (val 0 d2) (val 0 d3) false false false) := by
  obtain ⟨gs, cs, hl, hm, ht, ht0, hsh, hB, hg, hz⟩ := h
  have hop := nine_ops _ ho
  have hol := nine_len _ ho
  have hsz : s.size ≤ 29 := by
    rw [len_eq, hs]; have a1 := n1.2.2; have a2 := n2.2.2; have a3 := n3.2.2
    rw [sg_num n2, sg_num n3]; simp; omega
  have h4 : (⟨#[32, 124, 124, 32]⟩ : ByteArray).toList = [32, 124, 124, 32] := by rw [Lib.toList_data]
  have hz' : (T' ++ (o ++ s)).size ≤ 50 * (i + 1) := by
    rw [size_append, size_append, len_eq o]
    rcases hT with ⟨_, rfl⟩ | ⟨_, rfl⟩
    · omega
    · rw [size_append, show (⟨#[32, 124, 124, 32]⟩ : ByteArray).size = 4 from rfl]; omega
  have hcl : cs.length = gs.length := by
    have := congrArg List.length hm
    simpa using this.symm
  rcases hT with ⟨hi, rfl⟩ | ⟨hi, rfl⟩
  · have hgs : gs = [] := List.eq_nil_of_length_eq_zero (by omega)
    have hcs : cs = [] := List.eq_nil_of_length_eq_zero (by omega)
    have hT0 := ht0 hgs
    subst hgs hcs hT0
    refine ⟨[([32], [([], ⟨o.toList, [], d1, d2, d3⟩)])], [⟨o.toList, [], d1, d2, d3⟩], by simp [hi], rfl, fun _ => ?_, fun h => by simp at h, ?_, ?_, ?_, hz'⟩
    · rw [tl_append, tl_append, tl_nil, hs]; simp [bars, gseg, gtext, Cn.text, Cn.vt]
    · rw [tl_append, tl_append, tl_nil, hs]; unfold shown; rw [List.map_cons, List.map_nil, Lib.join_one]; simp [Cn.vt]
    · rw [hB]; simp only [List.any_cons, List.any_nil, List.all_cons, List.all_nil, Bool.and_true, Bool.or_false, Bool.false_or]; rw [ask_num _ _ _ _ _ n1 n2 n3]
    · intro g hgm; rw [List.mem_singleton.1 hgm]
      exact ⟨rfl, .inr rfl, ⟨([], ⟨o.toList, [], d1, d2, d3⟩), [], rfl, num_ok n1 n2 n3 hop (.inl rfl), num_small n1 n2 n3, .inl rfl, by simp⟩, fun q hq => by rw [List.mem_singleton.1 hq]; exact num_dirty n1 n2 n3 hop⟩
  · have hne : gs ≠ [] := by intro h; rw [h] at hl; simp at hl; omega
    have hnc : cs ≠ [] := by intro h; rw [h] at hcl; simp at hcl; exact hne (List.eq_nil_of_length_eq_zero hcl.symm)
    obtain ⟨q, hq1, hq2, hq3, hq4, hq5⟩ : ∃ q : Pc, (q.2.Ok ∧ q.2.Small ∧ (q.1 = [] ∨ (q.1 = [32] ∧ q.2.op ≠ []))) ∧ DirtyOk q.2 ∧ q.1 ++ q.2.text = [32] ++ (o.toList ++ s.toList) ∧ q.2.op ++ q.2.vt = o.toList ++ s.toList ∧ askC x y z q.2 = askB o.toList (ord3 x y z (val 0 d1) (val 0 d2) (val 0 d3)) x y z (val 0 d1) (val 0 d2) (val 0 d3) false false false := by
      by_cases he : o.toList = []
      · refine ⟨([], ⟨o.toList, [32], d1, d2, d3⟩), ⟨num_ok n1 n2 n3 hop (.inr rfl), num_small n1 n2 n3, .inl rfl⟩, num_dirty n1 n2 n3 hop, ?_, ?_, ask_num _ _ _ _ _ n1 n2 n3 _ _ _⟩
        · rw [hs]; simp [Cn.text, Cn.vt, he]
        · rw [hs]; rfl
      · refine ⟨([32], ⟨o.toList, [], d1, d2, d3⟩), ⟨num_ok n1 n2 n3 hop (.inl rfl), num_small n1 n2 n3, .inr ⟨rfl, he⟩⟩, num_dirty n1 n2 n3 hop, ?_, ?_, ask_num _ _ _ _ _ n1 n2 n3 _ _ _⟩
        · rw [hs]; simp [Cn.text, Cn.vt]
        · rw [hs]; rfl
    refine ⟨gs ++ [([32], [q])], cs ++ [q.2], by simp [hl], by rw [List.map_append, List.map_append, hm]; rfl, fun _ => ?_, fun h => by simp at h, ?_, ?_, ?_, hz'⟩
    · rw [List.map_append, List.map_cons, List.map_nil, bars_snoc _ _ (by simpa using hne), ← ht hne, tl_append, tl_append, tl_append, h4]
      have e : gseg ([32], [q]) = [32] ++ (o.toList ++ s.toList) ++ [32] := by rw [← hq3]; simp [gseg, gtext]
      rw [e]; simp
    · rw [shown_snoc _ _ hnc, ← hsh, hq4, tl_append, tl_append, tl_append, h4]; simp
    · rw [hB, List.any_append, List.any_cons, List.any_nil, List.all_cons, List.all_nil, Bool.and_true, Bool.or_false, hq5]
    · intro g hgm
      rcases List.mem_append.1 hgm with h | h
      · exact hg g h
      · rw [List.mem_singleton.1 h]
        exact ⟨rfl, .inr rfl, ⟨q, [], rfl, hq1.1, hq1.2.1, hq1.2.2, by simp⟩, fun e he => by rw [List.mem_singleton.1 he]; exact hq2⟩
/-- The groups, the last one without a blank behind it. -/
theorem AccE.groups {x y z i : Nat} {T : ByteArray} {B : Bool} (h : AccE x y z i T B) (h0 : 0 < i) (h5 : i ≤ 5) : ∃ (gs : List Gr) (cs : List Cn), gs ≠ [] ∧ gs.length ≤ 32 ∧ (∀ g ∈ gs, GrOk g) ∧ T.size ≤ 512 ∧ T.toList = bars (gs.map gseg) ∧ (gs.map fun g => g.2.map Prod.snd) = cs.map (fun c => [c]) ∧ T.toList = shown cs ∧ cs.length = i ∧ (∀ c ∈ cs, c.Ok ∧ c.Small) ∧ B = (gs.any fun g => g.2.all fun q => askC x y z q.2) := by
  obtain ⟨gs, cs, hl, hm, ht, ht0, hsh, hB, hg, hz⟩ := h
  have hcl : cs.length = gs.length := by
    have := congrArg List.length hm
    simpa using this.symm
  have hne : gs ≠ [] := by intro h; rw [h] at hl; simp at hl; omega
  obtain ⟨init, last, rfl⟩ : ∃ a b, gs = a ++ [b] := ⟨gs.dropLast, gs.getLast hne, (List.dropLast_concat_getLast hne).symm⟩
  obtain ⟨e1, e2⟩ := hg last (by simp)
  have hlen : init.length + 1 = i := by simpa using hl
  refine ⟨init ++ [([], last.2)], cs, by simp, by simp; omega, ?_, by omega, ?_, ?_, hsh, by rw [hcl, hl], ?_, ?_⟩
  · intro g hgm
    rcases List.mem_append.1 hgm with h | h
    · exact (hg g (by simp [h])).2
    · rw [List.mem_singleton.1 h]; exact ⟨.inl rfl, e2.2⟩
  · have hk := ht hne
    have e3 : gseg last = gseg ([], last.2) ++ [32] := by unfold gseg; rw [e1]; exact gtext_tr [32] last.2
    have key : bars ((init ++ [last]).map gseg) = bars ((init ++ [(([] : List UInt8), last.2)]).map gseg) ++ [32] := by
      by_cases hi : init = []
      · subst hi; simp [bars, e3]
      · rw [List.map_append, List.map_append, List.map_cons, List.map_nil, List.map_cons, List.map_nil, bars_snoc _ _ (by simpa using hi), bars_snoc _ _ (by simpa using hi), e3]; simp
    rw [key] at hk
    exact List.append_cancel_right hk
  · rw [← hm]; simp
  · intro c hc
    have : [c] ∈ (init ++ [last]).map fun g => g.2.map Prod.snd := by rw [hm]; exact List.mem_map.2 ⟨c, hc, rfl⟩
    obtain ⟨g, hgm, hgc⟩ := List.mem_map.1 this
    have : c ∈ g.2.map Prod.snd := by rw [hgc]; simp
    obtain ⟨q, hq, rfl⟩ := List.mem_map.1 this
    exact ⟨((hg g hgm).2.pcs q hq).1, ((hg g hgm).2.pcs q hq).2.1⟩
  · rw [hB]; simp
end Go.Proofs.YtoebognfkigooaaGreatDoor.Sv
