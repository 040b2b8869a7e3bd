/- Plain laws: a key put into, or taken out of, ascending keys; what it makes of a map's entries. -/
import Derived.Test.YtaclgcpfcejplaaGreatDoorValDict
import Derived.Test.YtaclgcpfcejplaaGreatDoorValE
namespace Go.Proofs.YtaclgcpfcejplaaGreatDoor.Vals
open Go.RowKit Go.MapKept Go.ChangeMaps Go.Proofs.YtaclgcpfcejplaaGreatDoor.Txt
set_option linter.unusedVariables false

abbrev lessB (a b : ByteArray) : Bool := Op.bytesLess a.toList b.toList
/-- Where a key stands among ascending ones, or ought to. -/
def atD (ks : List ByteArray) (s : ByteArray) : Nat := (ks.takeWhile fun k => lessB k s).length
def isD (ks : List ByteArray) (s : ByteArray) : Bool := decide (ks[atD ks s]? = some s)
theorem atD_le (ks : List ByteArray) (s : ByteArray) : atD ks s ≤ ks.length := by
  unfold atD; exact (List.takeWhile_sublist _).length_le
theorem atD_take (ks : List ByteArray) (s : ByteArray) : ks.take (atD ks s) = ks.takeWhile fun k => lessB k s :=
  (List.prefix_iff_eq_take.1 (List.takeWhile_prefix _)).symm
theorem mem_while {α : Type} (p : α → Bool) : ∀ {l : List α} {x : α}, x ∈ l.takeWhile p → p x = true
  | [], x, h => by simp at h
  | a :: r, x, h => by
    rw [List.takeWhile_cons] at h
    split at h
    · rcases List.mem_cons.1 h with rfl | h
      · assumption
      · exact mem_while p h
    · simp at h
theorem erase_map {α β : Type} (f : α → β) : ∀ (l : List α) (i : Nat), (l.map f).eraseIdx i = (l.eraseIdx i).map f
  | [], i => by simp
  | a :: r, 0 => by simp
  | a :: r, i + 1 => by simp [erase_map f r i]
theorem atD_less {ks : List ByteArray} {s : ByteArray} {j : Nat} (hj : j < ks.length) (h : j < atD ks s) : lessB ks[j] s = true := by
  have hm : ks[j] ∈ ks.takeWhile fun k => lessB k s := by
    rw [← atD_take, List.mem_iff_getElem]
    exact ⟨j, by rw [List.length_take]; omega, List.getElem_take⟩
  exact mem_while (fun k => lessB k s) hm
theorem atD_of {s : ByteArray} : ∀ {ks : List ByteArray} {i : Nat}, i ≤ ks.length → (∀ j (h : j < ks.length), j < i → lessB ks[j] s = true) → (∀ h : i < ks.length, lessB ks[i] s = false) → atD ks s = i
  | [], i, h, _, _ => by simp at h; subst h; rfl
  | k :: r, 0, _, _, h => by
    have := h (by simp)
    unfold atD
    rw [List.takeWhile_cons, if_neg (by simpa using this)]; rfl
  | k :: r, i + 1, hi, h1, h2 => by
    have h0 := h1 0 (by simp) (by omega)
    have ih := atD_of (ks := r) (i := i) (by simpa using hi) (fun j hj hji => by have := h1 (j + 1) (by simpa using hj) (by omega); simpa using this) (fun h => by have := h2 (by simpa using h); simpa using this)
    unfold atD at ih ⊢
    rw [List.takeWhile_cons, if_pos (by simpa using h0), List.length_cons, ih]
theorem atD_stop {ks : List ByteArray} {s : ByteArray} (h : atD ks s < ks.length) : lessB ks[atD ks s] s = false := by
  cases hb : lessB ks[atD ks s] s with
  | false => rfl
  | true =>
    exfalso
    have key : ∀ (ks : List ByteArray) (h : atD ks s < ks.length), lessB ks[atD ks s] s = true → False := by
      intro ks
      induction ks with
      | nil => intro h; simp at h
      | cons k r ih =>
        intro h hb
        by_cases hk : lessB k s = true
        · have e : atD (k :: r) s = atD r s + 1 := by unfold atD; rw [List.takeWhile_cons, if_pos hk, List.length_cons]
          simp only [e, List.getElem_cons_succ] at hb
          exact ih (by rw [e, List.length_cons] at h; omega) hb
        · have e : atD (k :: r) s = 0 := by unfold atD; rw [List.takeWhile_cons, if_neg hk]; rfl
          simp only [e, List.getElem_cons_zero] at hb
          exact hk hb
    exact key ks h hb
/-- A key that is there stands at its place. -/
theorem atD_mem {ks : List ByteArray} {s : ByteArray} (ha : Asc ks) {i : Nat} (hi : i < ks.length) (e : ks[i] = s) : atD ks s = i :=
  atD_of (by omega) (fun j hj hji => by rw [← e]; exact List.pairwise_iff_getElem.1 ha j i hj hi hji) (fun _ => by rw [e]; exact less_irrefl _)
theorem isD_of {ks : List ByteArray} {s : ByteArray} (ha : Asc ks) (h : s ∈ ks) : isD ks s = true := by
  obtain ⟨i, hi, e⟩ := List.mem_iff_getElem.1 h
  unfold isD
  rw [atD_mem ha hi e, List.getElem?_eq_getElem hi, e]; simp
theorem isD_mem {ks : List ByteArray} {s : ByteArray} (h : isD ks s = true) : ∃ hi : atD ks s < ks.length, ks[atD ks s] = s := by
  unfold isD at h
  rw [decide_eq_true_eq] at h
  exact List.getElem?_eq_some_iff.1 h
theorem isD_no {ks : List ByteArray} {s : ByteArray} (ha : Asc ks) (h : isD ks s = false) : s ∉ ks := fun hm => by rw [isD_of ha hm] at h; cases h
/-- The keys with one more. -/
def putK (ks : List ByteArray) (s : ByteArray) : List ByteArray := if isD ks s = true then ks else ks.take (atD ks s) ++ s :: ks.drop (atD ks s)
def putL {α : Type} (ks : List ByteArray) (l : List α) (s : ByteArray) (u : α) : List α := if isD ks s = true then l.set (atD ks s) u else l.take (atD ks s) ++ u :: l.drop (atD ks s)
/-- The keys without one. -/
def takeK (ks : List ByteArray) (s : ByteArray) : List ByteArray := if isD ks s = true then ks.eraseIdx (atD ks s) else ks
def takeL {α : Type} (ks : List ByteArray) (l : List α) (s : ByteArray) : List α := if isD ks s = true then l.eraseIdx (atD ks s) else l
theorem put_len {α : Type} {ks : List ByteArray} {l : List α} {s : ByteArray} {u : α} (h : ks.length = l.length) : (putK ks s).length = (putL ks l s u).length := by
  unfold putK putL
  split
  · rw [List.length_set]; exact h
  · simp only [List.length_append, List.length_cons, List.length_take, List.length_drop, h]
theorem take_len {α : Type} {ks : List ByteArray} {l : List α} {s : ByteArray} (h : ks.length = l.length) : (takeK ks s).length = (takeL ks l s).length := by
  unfold takeK takeL
  split
  · rw [List.length_eraseIdx, List.length_eraseIdx, h]
  · exact h
theorem Asc.put {ks : List ByteArray} (ha : Asc ks) (s : ByteArray) : Asc (putK ks s) := by
  unfold putK
  split
  · exact ha
  · rename_i hn
    have hn' : isD ks s = false := by simpa using hn
    have hns := isD_no ha hn'
    refine List.pairwise_append.2 ⟨ha.sublist (List.take_sublist _ _), List.pairwise_cons.2 ⟨fun b hb => ?_, ha.sublist (List.drop_sublist _ _)⟩, fun a hA b hb => ?_⟩
    · obtain ⟨j, hj, rfl⟩ := List.mem_iff_getElem.1 hb
      rw [List.length_drop] at hj
      rw [List.getElem_drop]
      have hst := atD_stop (s := s) (ks := ks) (by omega)
      have hge : lessB ks[atD ks s + j] s = false := by
        rcases Nat.eq_zero_or_pos j with h0 | h0
        · subst h0; exact hst
        · cases hb : lessB ks[atD ks s + j] s with
          | false => rfl
          | true =>
            have := List.pairwise_iff_getElem.1 ha (atD ks s) (atD ks s + j) (by omega) (by omega) (by omega)
            have h2 : lessB ks[atD ks s] s = true := less_trans _ _ _ this hb
            rw [hst] at h2; cases h2
      cases hc : lessB s ks[atD ks s + j] with
      | true => exact hc
      | false =>
        have := less_total _ _ hc hge
        exact absurd (List.getElem_mem (by omega : atD ks s + j < ks.length)) (by rw [← ext_eq this]; exact hns)
    · have hA' : lessB a s = true := by rw [atD_take] at hA; exact mem_while (fun k => lessB k s) hA
      rcases List.mem_cons.1 hb with rfl | hb
      · exact hA'
      · obtain ⟨j, hj, rfl⟩ := List.mem_iff_getElem.1 hb
        obtain ⟨i, hi, rfl⟩ := List.mem_iff_getElem.1 hA
        rw [List.length_take] at hi
        rw [List.length_drop] at hj
        rw [List.getElem_drop, List.getElem_take]
        exact List.pairwise_iff_getElem.1 ha i (atD ks s + j) (by omega) (by omega) (by omega)
theorem Asc.take {ks : List ByteArray} (ha : Asc ks) (s : ByteArray) : Asc (takeK ks s) := by
  unfold takeK
  split
  · exact ha.sublist (List.eraseIdx_sublist _ _)
  · exact ha
theorem putK_all {ks : List ByteArray} {s : ByteArray} {p : ByteArray → Prop} (h : ∀ k ∈ ks, p k) (hs : p s) : ∀ k ∈ putK ks s, p k := by
  intro k hk
  unfold putK at hk
  split at hk
  · exact h k hk
  · rcases List.mem_append.1 hk with hk | hk
    · exact h k (List.mem_of_mem_take hk)
    · rcases List.mem_cons.1 hk with rfl | hk
      · exact hs
      · exact h k (List.mem_of_mem_drop hk)
theorem takeK_all {ks : List ByteArray} {s : ByteArray} {p : ByteArray → Prop} (h : ∀ k ∈ ks, p k) : ∀ k ∈ takeK ks s, p k := by
  intro k hk
  unfold takeK at hk
  split at hk
  · exact h k (List.mem_of_mem_eraseIdx hk)
  · exact h k hk
theorem putL_mem {α : Type} {ks : List ByteArray} {l : List α} {s : ByteArray} {u : α} {p : α → Prop} (h : ∀ k ∈ l, p k) (hs : p u) : ∀ k ∈ putL ks l s u, p k := by
  intro k hk
  unfold putL at hk
  split at hk
  · rcases List.mem_or_eq_of_mem_set hk with hk | rfl
    · exact h k hk
    · exact hs
  · rcases List.mem_append.1 hk with hk | hk
    · exact h k (List.mem_of_mem_take hk)
    · rcases List.mem_cons.1 hk with rfl | hk
      · exact hs
      · exact h k (List.mem_of_mem_drop hk)
theorem takeL_mem {α : Type} {ks : List ByteArray} {l : List α} {s : ByteArray} {p : α → Prop} (h : ∀ k ∈ l, p k) : ∀ k ∈ takeL ks l s, p k := by
  intro k hk
  unfold takeL at hk
  split at hk
  · exact h k (List.mem_of_mem_eraseIdx hk)
  · exact h k hk
theorem Rights.of_mem {l : List V} {d : Int} (h : ∀ v ∈ l, Right v d) : Rights l d := Rights.mk fun i hi => h _ (List.getElem_mem hi)
theorem Rights.mem {l : List V} {d : Int} (h : Rights l d) : ∀ v ∈ l, Right v d := fun v hv => by
  obtain ⟨i, hi, rfl⟩ := List.mem_iff_getElem.1 hv; exact h.at_ i hi
theorem Fines.of_mem {l : List V} (h : ∀ v ∈ l, Fine v) : Fines l := Fines.mk fun i hi => h _ (List.getElem_mem hi)
theorem Fines.mem {l : List V} (h : Fines l) : ∀ v ∈ l, Fine v := fun v hv => by
  obtain ⟨i, hi, rfl⟩ := List.mem_iff_getElem.1 hv; exact h.at_ i hi
/-! ### entries -/
/-- A key, this one. -/
def keyIs (s : ByteArray) : Value → Bool
  | .string t => decide (t = s)
  | _ => false
theorem keyIs_iff {s : ByteArray} {v : Value} : keyIs s v = true ↔ v = .string s := by
  cases v <;> simp [keyIs]
/-- With another value for a key. -/
def swapP (s : ByteArray) (x : Value) (p : Value × Value) : Value × Value := if keyIs s p.1 = true then (.string s, x) else p
theorem modify_pairs {es : Array MapEntry} {j : Nat} {e0 : MapEntry} {s : ByteArray} {x : Value} (hn : (es.toList.map (·.key)).Nodup) (hj : es.toList[j]? = some e0) (he : e0.key = .string s) :
    (es.modify j fun e => { e with key := .string s, val := x }).toList.map (fun e => (e.key, e.val)) = (es.toList.map fun e => (e.key, e.val)).map (swapP s x) := by
  obtain ⟨hjl, hj'⟩ := List.getElem?_eq_some_iff.1 hj
  apply List.ext_getElem
  · simp
  · intro i h1 h2
    simp only [List.getElem_map, Array.getElem_toList, Array.getElem_modify]
    have hil : i < es.size := by simpa using h1
    by_cases hij : j = i
    · subst hij
      rw [if_pos rfl]
      have : es[j].key = .string s := by rw [← he, ← hj']; rfl
      unfold swapP
      rw [if_pos (keyIs_iff.2 this)]
    · rw [if_neg hij]
      unfold swapP
      rw [if_neg]
      intro hk
      have hk' := keyIs_iff.1 hk
      have hp := List.pairwise_iff_getElem.1 (List.pairwise_map.1 hn)
      have e1 : es.toList[j].key = .string s := by rw [hj', he]
      have e2 : (es.toList[i]'(by simpa using hil)).key = .string s := hk'
      rcases Nat.lt_or_gt_of_ne hij with h | h
      · exact hp j i hjl (by simpa using hil) h (by rw [e1, e2])
      · exact hp i j (by simpa using hil) hjl h (by rw [e1, e2])
theorem zip_set {ks : List ByteArray} {xs : List Value} (ha : Asc ks) (hl : ks.length = xs.length) {i : Nat} (hi : i < ks.length) (x : Value) :
    ((ks.map Value.string).zip xs).map (swapP ks[i] x) = (ks.map Value.string).zip (xs.set i x) := by
  apply List.ext_getElem
  · simp
  · intro j h1 h2
    have hj : j < ks.length := by simp at h1; omega
    simp only [List.getElem_map, List.getElem_zip, List.getElem_set]
    unfold swapP
    by_cases hij : i = j
    · subst hij
      rw [if_pos (keyIs_iff.2 rfl), if_pos rfl]
    · rw [if_neg, if_neg hij]
      intro h
      have := keyIs_iff.1 h
      injection this with this
      exact hij (asc_inj' ha hi hj this.symm)
where
  asc_inj' {ks : List ByteArray} (h : Asc ks) {i j : Nat} (hi : i < ks.length) (hj : j < ks.length) (e : ks[i] = ks[j]) : i = j := by
    have hp := List.pairwise_iff_getElem.1 h.nodup
    rcases Nat.lt_trichotomy i j with h | h | h
    · exact absurd e (hp i j hi hj h)
    · exact h
    · exact absurd e.symm (hp j i hj hi h)
theorem erase_filter {α : Type} (p : α → Bool) : ∀ (l : List α) (j : Nat) (h : j < l.length), (∀ i (hi : i < l.length), p l[i] = decide (i ≠ j)) → l.eraseIdx j = l.filter p
  | [], j, h, _ => by simp at h
  | a :: r, 0, _, hp => by
    have h0 := hp 0 (by simp)
    simp only [List.getElem_cons_zero, ne_eq, not_true_eq_false, decide_false] at h0
    rw [List.eraseIdx_cons_zero, List.filter_cons, if_neg (by rw [h0]; simp)]
    refine (List.filter_eq_self.2 fun b hb => ?_).symm
    obtain ⟨i, hi, rfl⟩ := List.mem_iff_getElem.1 hb
    have := hp (i + 1) (by simpa using hi)
    simpa using this
  | a :: r, j + 1, h, hp => by
    have h0 := hp 0 (by simp)
    simp only [List.getElem_cons_zero, ne_eq, Nat.zero_ne_add_one, not_false_eq_true, decide_true] at h0
    rw [List.eraseIdx_cons_succ, List.filter_cons, if_pos h0, erase_filter p r j (by simpa using h) fun i hi => by
      have := hp (i + 1) (by simpa using hi)
      simpa using this]
theorem erase_pairs {es : Array MapEntry} {j : Nat} {e0 : MapEntry} {s : ByteArray} (hn : (es.toList.map (·.key)).Nodup) (hj : es.toList[j]? = some e0) (he : e0.key = .string s) :
    (es.eraseIdxIfInBounds j).toList.map (fun e => (e.key, e.val)) = (es.toList.map fun e => (e.key, e.val)).filter fun p => !keyIs s p.1 := by
  obtain ⟨hjl, hj'⟩ := List.getElem?_eq_some_iff.1 hj
  rw [← erase_filter _ _ j (by simpa using hjl)]
  · rw [Array.toList_eraseIdxIfInBounds, erase_map]
  · intro i hi
    have hil : i < es.toList.length := by simpa using hi
    simp only [List.getElem_map]
    have hp := List.pairwise_iff_getElem.1 (List.pairwise_map.1 hn)
    have e1 : es.toList[j].key = .string s := by rw [hj', he]
    by_cases hij : i = j
    · subst hij
      rw [keyIs_iff.2 e1]; simp
    · have : keyIs s es.toList[i].key = false := by
        cases hk : keyIs s es.toList[i].key with
        | false => rfl
        | true =>
          exfalso
          have e2 := keyIs_iff.1 hk
          rcases Nat.lt_or_gt_of_ne hij with h | h
          · exact hp i j hil hjl h (by rw [e1, e2])
          · exact hp j i hjl hil h (by rw [e1, e2])
      rw [this]; simp [hij]
theorem zip_erase {ks : List ByteArray} {xs : List Value} (ha : Asc ks) (hl : ks.length = xs.length) {i : Nat} (hi : i < ks.length) :
    ((ks.map Value.string).zip xs).filter (fun p => !keyIs ks[i] p.1) = ((ks.eraseIdx i).map Value.string).zip (xs.eraseIdx i) := by
  rw [← erase_filter _ _ i (by simp; omega)]
  · have hz : ∀ (a : List Value) (b : List Value) (i : Nat), a.length = b.length → (a.zip b).eraseIdx i = (a.eraseIdx i).zip (b.eraseIdx i) := by
      intro a
      induction a with
      | nil => intro b i h; simp
      | cons x a ih =>
        intro b i h
        cases b with
        | nil => simp at h
        | cons y b =>
          cases i with
          | zero => simp
          | succ i => simp only [List.zip_cons_cons, List.eraseIdx_cons_succ]; rw [ih b i (by simpa using h)]
    rw [hz _ _ _ (by simpa using hl), erase_map]
  · intro j hj
    have hjl : j < ks.length := by simp at hj; omega
    simp only [List.getElem_zip, List.getElem_map]
    by_cases hij : j = i
    · subst hij
      rw [keyIs_iff.2 rfl]; simp
    · have : keyIs ks[i] (.string ks[j]) = false := by
        cases hk : keyIs ks[i] (.string ks[j]) with
        | false => rfl
        | true =>
          have := keyIs_iff.1 hk
          injection this with this
          exact absurd (zip_set.asc_inj' ha hjl hi this) hij
      rw [this]; simp [hij]
theorem zip_put {ks : List ByteArray} {xs : List Value} (hl : ks.length = xs.length) (a : Nat) (s : ByteArray) (x : Value) :
    (((ks.map Value.string).zip xs) ++ [(Value.string s, x)]).Perm (((ks.take a ++ s :: ks.drop a).map Value.string).zip (xs.take a ++ x :: xs.drop a)) := by
  have e1 : ((ks.take a ++ s :: ks.drop a).map Value.string).zip (xs.take a ++ x :: xs.drop a) = ((ks.take a).map Value.string).zip (xs.take a) ++ (Value.string s, x) :: ((ks.drop a).map Value.string).zip (xs.drop a) := by
    rw [List.map_append, List.map_cons, List.zip_append (by simp [hl])]; rfl
  have e2 : (ks.map Value.string).zip xs = ((ks.take a).map Value.string).zip (xs.take a) ++ ((ks.drop a).map Value.string).zip (xs.drop a) := by
    rw [← List.zip_append (by simp [hl]), ← List.map_append, List.take_append_drop, List.take_append_drop]
  rw [e1, e2]
  exact (List.perm_append_singleton _ _).trans (List.perm_middle.symm)
end Go.Proofs.YtaclgcpfcejplaaGreatDoor.Vals
