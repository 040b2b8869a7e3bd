/- A part of a dictionary, however its keys came: pairs decide. And the map that holds keys alone. -/
import Derived.Test.YtaclgcpfcejplaaValKp
import Derived.Test.YtaclgcpfcejplaaValTe
import Derived.Test.YtaclgcpfcejplaaValQ
namespace Go.Proofs.Ytaclgcpfcejplaa.Vals
open Go.RowKit Go.ChangeMaps Go.Proofs.YtaclgcpfcejplaaW.PrintWords Go.Proofs.Ytaclgcpfcejplaa.Txt
set_option linter.unusedVariables false
set_option maxRecDepth 20000

/-! ### lists that ascend -/
theorem asc_ext {α : Type} (R : α → α → Prop) (hir : ∀ a, ¬ R a a) (htr : ∀ a b c, R a b → R b c → R a c) : ∀ (l m : List α), l.Pairwise R → m.Pairwise R → (∀ x, x ∈ l ↔ x ∈ m) → l = m
  | [], [], _, _, _ => rfl
  | [], b :: m, _, _, h => by have := (h b).2 (by simp); simp at this
  | a :: l, [], _, _, h => by have := (h a).1 (by simp); simp at this
  | a :: l, b :: m, hl, hm, h => by
    obtain ⟨h1, h2⟩ := List.pairwise_cons.1 hl
    obtain ⟨k1, k2⟩ := List.pairwise_cons.1 hm
    have e : a = b := by
      rcases List.mem_cons.1 ((h a).1 (by simp)) with e | e
      · exact e
      · rcases List.mem_cons.1 ((h b).2 (by simp)) with e' | e'
        · exact e'.symm
        · exact absurd (htr _ _ _ (h1 b e') (k1 a e)) (hir a)
    subst e
    rw [asc_ext R hir htr l m h2 k2 fun x => ?_]
    have hx := h x
    simp only [List.mem_cons] at hx
    constructor
    · intro hxl
      rcases hx.1 (.inr hxl) with e | e
      · subst e; exact absurd (h1 _ hxl) (hir _)
      · exact e
    · intro hxm
      rcases hx.2 (.inr hxm) with e | e
      · subst e; exact absurd (k1 _ hxm) (hir _)
      · exact e
/-- The part of a dictionary that q lets in. -/
def Sel {α : Type} (ks : List ByteArray) (l : List α) (q : ByteArray → Prop) (K : List ByteArray) (L : List α) : Prop := Asc K ∧ K.length = L.length ∧ ∀ s u, (s, u) ∈ K.zip L ↔ q s ∧ (s, u) ∈ ks.zip l
section
variable {α : Type} {ks : List ByteArray} {l : List α} {q : ByteArray → Prop} {K : List ByteArray} {L : List α}
theorem pair_at (hl : ks.length = l.length) {a : Nat} (ha : a < ks.length) : (ks[a], l[a]'(by omega)) ∈ ks.zip l := by
  rw [List.mem_iff_getElem]
  exact ⟨a, by rw [List.length_zip]; omega, by simp⟩
theorem pair_one (hk : Asc ks) {s : ByteArray} {u v : α} (h1 : (s, u) ∈ ks.zip l) (h2 : (s, v) ∈ ks.zip l) : u = v := by
  obtain ⟨i, hi, e⟩ := List.mem_iff_getElem.1 h1
  obtain ⟨j, hj, e'⟩ := List.mem_iff_getElem.1 h2
  rw [List.getElem_zip] at e e'
  rw [List.length_zip] at hi hj
  have k1 := congrArg Prod.fst e
  have k2 := congrArg Prod.fst e'
  have hij := zip_set.asc_inj' hk (i := i) (j := j) (by omega) (by omega) (k1.trans k2.symm)
  subst hij
  exact (congrArg Prod.snd e).symm.trans (congrArg Prod.snd e')
theorem Sel.none (hq : ∀ s ∈ ks, ¬ q s) : Sel ks l q [] [] := ⟨List.Pairwise.nil, rfl, fun s u => by
  constructor
  · intro h; simp at h
  · rintro ⟨h1, h2⟩; exact absurd h1 (hq s (List.of_mem_zip h2).1)⟩
theorem Sel.congr {q' : ByteArray → Prop} (h : Sel ks l q K L) (hq : ∀ s ∈ ks, q s ↔ q' s) : Sel ks l q' K L := ⟨h.1, h.2.1, fun s u => by
  rw [h.2.2 s u]
  exact ⟨fun ⟨h1, h2⟩ => ⟨(hq s (List.of_mem_zip h2).1).1 h1, h2⟩, fun ⟨h1, h2⟩ => ⟨(hq s (List.of_mem_zip h2).1).2 h1, h2⟩⟩⟩
theorem Sel.put (h : Sel ks l q K L) (hk : Asc ks) (hl : ks.length = l.length) {a : Nat} (ha : a < ks.length) : Sel ks l (fun x => q x ∨ x = ks[a]) (putK K ks[a]) (putL K L ks[a] (l[a]'(by omega))) := by
  obtain ⟨h1, h2, h3⟩ := h
  have hp := pair_at (ks := ks) (l := l) hl ha
  refine ⟨h1.put _, put_len h2, fun s u => ?_⟩
  by_cases hd : isD K ks[a] = true
  · obtain ⟨hi, hs⟩ := isD_mem hd
    have hq := (h3 ks[a] (L[atD K ks[a]]'(by omega))).1 (by have := pair_at (ks := K) (l := L) h2 hi; rwa [hs] at this)
    have hu := pair_one hk hq.2 hp
    unfold putK putL
    rw [if_pos hd, if_pos hd, ← hu, List.set_getElem_self, h3 s u]
    constructor
    · exact fun ⟨x, y⟩ => ⟨.inl x, y⟩
    · rintro ⟨x | rfl, y⟩
      · exact ⟨x, y⟩
      · exact ⟨hq.1, y⟩
  · have e1 : (K.take (atD K ks[a]) ++ ks[a] :: K.drop (atD K ks[a])).zip (L.take (atD K ks[a]) ++ (l[a]'(by omega)) :: L.drop (atD K ks[a])) = (K.take (atD K ks[a])).zip (L.take (atD K ks[a])) ++ (ks[a], l[a]'(by omega)) :: (K.drop (atD K ks[a])).zip (L.drop (atD K ks[a])) := by
      rw [List.zip_append (by simp [h2])]; rfl
    have e2 : K.zip L = (K.take (atD K ks[a])).zip (L.take (atD K ks[a])) ++ (K.drop (atD K ks[a])).zip (L.drop (atD K ks[a])) := by
      rw [← List.zip_append (by simp [h2]), List.take_append_drop, List.take_append_drop]
    have h3' := h3 s u
    unfold putK putL
    rw [if_neg hd, if_neg hd, e1]
    rw [e2] at h3'
    simp only [List.mem_append, List.mem_cons] at h3' ⊢
    constructor
    · rintro (x | x | x)
      · have := h3'.1 (.inl x); exact ⟨.inl this.1, this.2⟩
      · rw [Prod.mk.injEq] at x; obtain ⟨rfl, rfl⟩ := x; exact ⟨.inr rfl, hp⟩
      · have := h3'.1 (.inr x); exact ⟨.inl this.1, this.2⟩
    · rintro ⟨x | rfl, y⟩
      · rcases h3'.2 ⟨x, y⟩ with z | z
        · exact .inl z
        · exact .inr (.inr z)
      · exact .inr (.inl (by rw [pair_one hk y hp]))
theorem Sel.same {K' : List ByteArray} {L' : List α} (h : Sel ks l q K L) (h' : Sel ks l q K' L') : K = K' ∧ L = L' := by
  have pw : ∀ {K : List ByteArray} {L : List α}, Asc K → K.length = L.length → (K.zip L).Pairwise fun x y => Op.bytesLess x.1.toList y.1.toList = true := fun {K L} ha hl => by
    have e : (K.zip L).map Prod.fst = K := List.map_fst_zip (by omega)
    have h0 : ((K.zip L).map Prod.fst).Pairwise (fun a b => Op.bytesLess a.toList b.toList = true) := by rw [e]; exact ha
    exact List.pairwise_map.1 h0
  have hz := asc_ext (fun x y : ByteArray × α => Op.bytesLess x.1.toList y.1.toList = true) (fun a h => less_ne h rfl) (fun a b c h k => less_trans _ _ _ h k) _ _ (pw h.1 h.2.1) (pw h'.1 h'.2.1) (fun x => by rw [h.2.2 x.1 x.2, h'.2.2 x.1 x.2])
  have f1 := congrArg (List.map Prod.fst) hz
  have f2 := congrArg (List.map Prod.snd) hz
  rw [List.map_fst_zip (by have := h.2.1; omega), List.map_fst_zip (by have := h'.2.1; omega)] at f1
  rw [List.map_snd_zip (by have := h.2.1; omega), List.map_snd_zip (by have := h'.2.1; omega)] at f2
  exact ⟨f1, f2⟩
theorem pick_zip (p : Nat → Bool) (hl : ks.length = l.length) : ∀ n, (pickI p ks n).zip (pickI p l n) = pickI p (ks.zip l) n
  | 0 => rfl
  | n + 1 => by
    unfold pickI
    rw [List.zip_append (pickI_len p hl n), pick_zip p hl n]
    congr 1
    split
    · rcases Nat.lt_or_ge n ks.length with h | h
      · rw [List.getElem?_eq_getElem h, List.getElem?_eq_getElem (by omega), List.getElem?_eq_getElem (by rw [List.length_zip]; omega), List.getElem_zip]; rfl
      · rw [List.getElem?_eq_none h, List.getElem?_eq_none (by omega), List.getElem?_eq_none (by rw [List.length_zip]; omega)]; rfl
    · rfl
theorem pick_mem {β : Type} (p : Nat → Bool) (m : List β) : ∀ n (x : β), x ∈ pickI p m n ↔ ∃ j, j < n ∧ p j = true ∧ m[j]? = some x
  | 0, x => by simp [pickI]
  | n + 1, x => by
    unfold pickI
    rw [List.mem_append, pick_mem p m n x]
    constructor
    · rintro (⟨j, h1, h2, h3⟩ | h)
      · exact ⟨j, by omega, h2, h3⟩
      · by_cases hp : p n = true
        · rw [if_pos hp] at h
          refine ⟨n, by omega, hp, ?_⟩
          cases hm : m[n]? with
          | none => rw [hm] at h; simp at h
          | some y => rw [hm] at h; simp at h; rw [h]
        · rw [if_neg hp] at h; simp at h
    · rintro ⟨j, h1, h2, h3⟩
      rcases Nat.lt_or_eq_of_le (Nat.le_of_lt_succ h1) with h | h
      · exact .inl ⟨j, h, h2, h3⟩
      · subst h; rw [if_pos h2, h3]; exact .inr (by simp)
theorem pick_sub {β : Type} (p : Nat → Bool) (m : List β) : ∀ n, (pickI p m n).Sublist (m.take n)
  | 0 => by simp [pickI]
  | n + 1 => by
    unfold pickI
    rw [List.take_add_one]
    refine List.Sublist.append (pick_sub p m n) ?_
    split
    · exact List.Sublist.refl _
    · exact List.nil_sublist _
theorem Sel.fin (h : Sel ks l q K L) (hk : Asc ks) (hl : ks.length = l.length) (p : Nat → Bool) (hp : ∀ j (h : j < ks.length), p j = true ↔ q ks[j]) : K = pickI p ks ks.length ∧ L = pickI p l ks.length := by
  refine h.same ⟨List.Pairwise.sublist (by have := pick_sub p ks ks.length; rwa [List.take_length] at this) hk, pickI_len p hl _, fun s u => ?_⟩
  rw [pick_zip p hl, pick_mem]
  constructor
  · rintro ⟨j, h1, h2, h3⟩
    rw [List.getElem?_eq_getElem (by rw [List.length_zip]; omega), List.getElem_zip] at h3
    injection h3 with h3
    injection h3 with e1 e2
    exact ⟨by rw [← e1]; exact (hp j h1).1 h2, by rw [← e1, ← e2]; exact pair_at hl h1⟩
  · rintro ⟨h1, h2⟩
    obtain ⟨j, hj, e⟩ := List.mem_iff_getElem.1 h2
    have hj' : j < ks.length := by rw [List.length_zip] at hj; omega
    refine ⟨j, hj', (hp j hj').2 ?_, by rw [List.getElem?_eq_getElem hj, e]⟩
    rw [List.getElem_zip] at e
    have := congrArg Prod.fst e
    rw [show ks[j] = s from this]; exact h1
end
/-! ### a map that holds keys alone -/
def SetIs (w : World) (b : Nat) (S : List ByteArray) : Prop := ∃ es clk, w.heap[b]? = some (.map es clk) ∧ TextKeys es ∧ (es.toList.map (·.key)).Nodup ∧ ∀ s, (∃ e ∈ es.toList, e.key = .string s) ↔ s ∈ S
section
variable {P : Program} {w : World} {mt kt et : TypeId} {b : Nat} {S : List ByteArray}
theorem SetIs.update (h : SetIs w b S) (hm : P.underlying mt = some (.map kt et)) (hk : P.underlying kt = some .string) (s : ByteArray) (x : Value) :
    ∃ o, (Instr.mapUpdate mt (.map (some b)) (.string s) x).run P w = .ok () (setBlock w b o) ∧ SetIs (setBlock w b o) b (S ++ [s]) := by
  obtain ⟨es, clk, h1, h2, h3, h4⟩ := h
  by_cases hin : s ∈ S
  · obtain ⟨e, he, hek⟩ := (h4 s).2 hin
    obtain ⟨j, e0, hj, he0, hrun⟩ := run_update_old hm hk h1 h2 s x he hek
    have hkeys : (es.modify j fun e => { e with key := .string s, val := x }).toList.map (·.key) = es.toList.map (·.key) := by
      have := modify_pairs (x := x) h3 hj he0
      have h' := congrArg (List.map Prod.fst) this
      rw [List.map_map, List.map_map, List.map_map] at h'
      refine h'.trans (List.map_congr_left fun y hy => ?_)
      show (swapP s x (y.key, y.val)).1 = y.key
      unfold swapP
      split
      · rename_i hh; exact (keyIs_iff.1 hh).symm
      · rfl
    have hex : ∀ t, (∃ e ∈ (es.modify j fun e => { e with key := .string s, val := x }).toList, e.key = .string t) ↔ ∃ e ∈ es.toList, e.key = .string t := fun t => by
      have a : (.string t) ∈ (es.modify j fun e => { e with key := .string s, val := x }).toList.map (·.key) ↔ (.string t) ∈ es.toList.map (·.key) := by rw [hkeys]
      simpa only [List.mem_map] using a
    refine ⟨_, hrun, _, clk, setBlock_at h1, fun y hy => ?_, by rw [hkeys]; exact h3, fun t => ?_⟩
    · have : y.key ∈ es.toList.map (·.key) := by rw [← hkeys]; exact List.mem_map.2 ⟨y, hy, rfl⟩
      obtain ⟨z, hz, hzk⟩ := List.mem_map.1 this
      obtain ⟨t, ht⟩ := h2 z hz
      exact ⟨t, hzk.symm.trans ht⟩
    · rw [hex, h4 t, List.mem_append, List.mem_singleton]
      exact ⟨.inl, fun e => e.elim id fun e => by rw [e]; exact hin⟩
  · have hn : ∀ e ∈ es.toList, e.key ≠ .string s := fun e he hek => hin ((h4 s).1 ⟨e, he, hek⟩)
    have hrun := run_update_new hm hk h1 h2 s x hn
    refine ⟨_, hrun, _, clk + 1, setBlock_at h1, fun y hy => ?_, ?_, fun t => ?_⟩
    · rw [Array.toList_push] at hy
      rcases List.mem_append.1 hy with hy | hy
      · exact h2 y hy
      · rw [List.mem_singleton.1 hy]; exact ⟨s, rfl⟩
    · rw [Array.toList_push, List.map_append]
      refine List.nodup_append.2 ⟨h3, by simp, fun a ha b hb => ?_⟩
      obtain ⟨e, he, rfl⟩ := List.mem_map.1 ha
      have hb' : b = .string s := by simpa using hb
      rw [hb']; exact hn e he
    · rw [Array.toList_push, List.mem_append, List.mem_singleton, ← h4 t]
      constructor
      · rintro ⟨e, he, hek⟩
        rcases List.mem_append.1 he with he | he
        · exact .inl ⟨e, he, hek⟩
        · rw [List.mem_singleton.1 he] at hek; injection hek with hek; exact .inr hek.symm
      · rintro (⟨e, he, hek⟩ | rfl)
        · exact ⟨e, List.mem_append_left _ he, hek⟩
        · exact ⟨_, List.mem_append_right _ (List.mem_singleton.2 rfl), rfl⟩
theorem SetIs.yes (h : SetIs w b S) (hm : P.underlying mt = some (.map kt et)) (hk : P.underlying kt = some .string) {s : ByteArray} (hs : s ∈ S) : ∃ v, (Instr.lookup mt (.map (some b)) (.string s) true).run P w = .ok (.tuple #[v, .bool true]) w := by
  obtain ⟨es, clk, h1, h2, h3, h4⟩ := h
  obtain ⟨e, he, hek⟩ := (h4 s).2 hs
  have := run_lookup_yes hm hk h1 h2 s he hek h3 true
  simp only [if_true] at this
  exact ⟨_, this⟩
theorem SetIs.no (h : SetIs w b S) (hm : P.underlying mt = some (.map kt et)) (hk : P.underlying kt = some .string) {s : ByteArray} (hs : s ∉ S) {z : Value} (hz : (zeroValue et).run P w = .ok z w) : (Instr.lookup mt (.map (some b)) (.string s) true).run P w = .ok (.tuple #[z, .bool false]) w := by
  obtain ⟨es, clk, h1, h2, h3, h4⟩ := h
  have := run_lookup_no hm hk h1 h2 s (fun e he hek => hs ((h4 s).1 ⟨e, he, hek⟩)) hz true
  simpa only [if_true] using this
theorem SetIs.keep {w' : World} (h : SetIs w b S) (e : w'.heap[b]? = w.heap[b]?) : SetIs w' b S := by
  obtain ⟨es, clk, h1, h2⟩ := h
  exact ⟨es, clk, e.trans h1, h2⟩
end
end Go.Proofs.Ytaclgcpfcejplaa.Vals
