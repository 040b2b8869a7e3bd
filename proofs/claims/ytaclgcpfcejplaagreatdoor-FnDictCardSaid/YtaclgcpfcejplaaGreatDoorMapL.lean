/- A range over a map whose entries were all there before: what was met is a rearrangement of the entries; sorted keys that ascend are the keys. And the step of the loop at the operations. -/
import Derived.Test.YtaclgcpfcejplaaGreatDoorMapM
import Derived.Maps.RangeWalk
import Derived.Sort.OwnSorted
import Derived.Sort.Walk0
namespace Go.Proofs.YtaclgcpfcejplaaGreatDoor.Vals
open Go.RowKit Go.MapKept Go.ChangeMaps Go.Proofs.YtaclgcpfcejplaaGreatDoor.Txt
open Go.Proofs (encStr)
set_option linter.unusedVariables false

/-- A value's text, as a list of bytes. -/
def keyText : Value → List UInt8
  | .string s => s.data.toList
  | _ => []
theorem enc_keyText (s : ByteArray) : encStr (keyText (.string s)) = .string s := by simp [encStr, keyText]
/-- What the loop over a map has met. -/
structure Seen (es : Array MapEntry) (seen : Array Nat) (done : List MapEntry) : Prop where
  same : done.map (·.born) = seen.toList
  mem : ∀ e ∈ done, e ∈ es.toList
  nd : (done.map (·.born)).Nodup
theorem Seen.start (es : Array MapEntry) : Seen es #[] [] := ⟨rfl, fun e he => absurd he (by simp), by simp⟩
theorem Seen.step {es : Array MapEntry} {seen : Array Nat} {done : List MapEntry} {e : MapEntry} (h : Seen es seen done) (he : e ∈ (leftOf es seen).toList) : Seen es (seen.push e.born) (done ++ [e]) := by
  obtain ⟨h1, h2⟩ := mem_left he
  refine ⟨by simp [h.same], fun x hx => ?_, ?_⟩
  · rcases List.mem_append.1 hx with hx | hx
    · exact h.mem x hx
    · rw [List.mem_singleton.1 hx]; exact h1
  · rw [List.map_append]
    refine List.nodup_append.2 ⟨h.nd, by simp, fun a ha b hb => ?_⟩
    have hb' : b = e.born := by simpa using hb
    rintro rfl
    rw [h.same] at ha
    have : seen.contains e.born = true := by rw [Array.contains_iff_mem, ← Array.mem_toList_iff, ← hb']; exact ha
    rw [this] at h2; cases h2
theorem Seen.done {es : Array MapEntry} {seen : Array Nat} {done : List MapEntry} (h : Seen es seen done) (hn : (es.toList.map (·.born)).Nodup) (h0 : (leftOf es seen).size = 0) : done.Perm es.toList := by
  have hnd : ∀ {l : List MapEntry}, (l.map (·.born)).Nodup → l.Nodup := fun {l} h => (List.pairwise_map.1 h).imp fun hne e => hne (by rw [e])
  refine (List.perm_ext_iff_of_nodup (hnd h.nd) (hnd hn)).2 fun x => ⟨h.mem x, fun hx => ?_⟩
  have hc := all_seen es seen h0 x hx
  rw [Array.contains_iff_mem, ← Array.mem_toList_iff, ← h.same] at hc
  obtain ⟨d, hd, hdx⟩ := List.mem_map.1 hc
  have hde := h.mem d hd
  have : d = x := by
    obtain ⟨i, hi, rfl⟩ := List.mem_iff_getElem.1 hde
    obtain ⟨j, hj, rfl⟩ := List.mem_iff_getElem.1 hx
    by_cases hij : i = j
    · subst hij; rfl
    · exfalso
      have hp := List.pairwise_iff_getElem.1 (List.pairwise_map.1 hn)
      rcases Nat.lt_or_gt_of_ne hij with h' | h'
      · exact hp i j hi hj h' hdx
      · exact hp j i hj hi h' hdx.symm
  rw [← this]; exact hd
/-- The entries' keys and values, as they stand for keys and values in order. -/
theorem keys_perm {es : List MapEntry} {ks : List ByteArray} {xs : List Value} (hp : (es.map fun e => (e.key, e.val)).Perm ((ks.map Value.string).zip xs)) (hl : ks.length ≤ xs.length) : (es.map (·.key)).Perm (ks.map Value.string) := by
  have h := hp.map Prod.fst
  rw [List.map_map, List.map_fst_zip (by simpa using hl)] at h
  exact h
theorem keyTexts_perm {es : List MapEntry} {ks : List ByteArray} (hp : (es.map (·.key)).Perm (ks.map Value.string)) : (es.map fun e => keyText e.key).Perm (ks.map fun k => k.data.toList) := by
  have h := hp.map keyText
  rw [List.map_map, List.map_map] at h
  exact h
theorem keys_enc {es : List MapEntry} {ks : List ByteArray} (hp : (es.map (·.key)).Perm (ks.map Value.string)) {done : List MapEntry} (hd : ∀ e ∈ done, e ∈ es) : done.map (·.key) = (done.map fun e => keyText e.key).map encStr := by
  rw [List.map_map]
  refine List.map_congr_left fun e he => ?_
  have : e.key ∈ ks.map Value.string := hp.mem_iff.1 (List.mem_map.2 ⟨e, hd e he, rfl⟩)
  obtain ⟨s, _, hs⟩ := List.mem_map.1 this
  show e.key = encStr (keyText e.key)
  rw [← hs, enc_keyText]
theorem enc_keys (ks : List ByteArray) : (ks.map fun k => k.data.toList).map encStr = ks.map Value.string := by
  rw [List.map_map]; exact List.map_congr_left fun k _ => by simp [encStr]
/-- Keys that ascend, sorted. -/
theorem sorted_keys {ks : List ByteArray} (h : Asc ks) {ss : List (List UInt8)} (hp : ss.Perm (ks.map fun k => k.data.toList)) : ss.mergeSort (fun x y => decide (x ≤ y)) = ks.map fun k => k.data.toList := by
  have tr : ∀ a b c : List UInt8, decide (a ≤ b) = true → decide (b ≤ c) = true → decide (a ≤ c) = true := fun a b c h1 h2 => by simp only [decide_eq_true_eq] at *; exact List.le_trans h1 h2
  have tot : ∀ a b : List UInt8, (decide (a ≤ b) || decide (b ≤ a)) = true := fun a b => by simp only [Bool.or_eq_true, decide_eq_true_eq]; exact List.le_total a b
  refine List.Perm.eq_of_pairwise (le := fun a b => decide (a ≤ b) = true) (fun a b _ _ h1 h2 => ?_) (List.pairwise_mergeSort tr tot ss) ?_ ((List.mergeSort_perm ss _).trans hp)
  · simp only [decide_eq_true_eq] at h1 h2
    exact List.le_antisymm h1 h2
  · refine List.pairwise_map.2 (List.Pairwise.imp ?_ h)
    intro a b hab
    rw [bytesLess_eq, Lib.toList_data, Lib.toList_data] at hab
    simp only [decide_eq_true_eq] at hab ⊢
    exact List.le_of_lt hab
/-- An entry for each key. -/
theorem entry_at {es : List MapEntry} {ks : List ByteArray} {xs : List Value} (hp : (es.map fun e => (e.key, e.val)).Perm ((ks.map Value.string).zip xs)) (i : Nat) (hi : i < ks.length) (hx : i < xs.length) : ∃ e ∈ es, e.key = .string ks[i] ∧ e.val = xs[i] := by
  have hm : ((Value.string ks[i], xs[i]) : Value × Value) ∈ (ks.map Value.string).zip xs := by
    rw [List.mem_iff_getElem]
    exact ⟨i, by rw [List.length_zip, List.length_map]; omega, by simp⟩
  obtain ⟨e, he, h⟩ := List.mem_map.1 (hp.mem_iff.2 hm)
  exact ⟨e, he, congrArg Prod.fst h, congrArg Prod.snd h⟩
theorem keys_nodup {es : List MapEntry} {ks : List ByteArray} (hp : (es.map (·.key)).Perm (ks.map Value.string)) (h : Asc ks) : (es.map (·.key)).Nodup := by
  refine hp.nodup_iff.2 (List.pairwise_map.2 (h.nodup.imp fun hne e => hne ?_))
  injection e
theorem keys_text {es : Array MapEntry} {ks : List ByteArray} (hp : (es.toList.map (·.key)).Perm (ks.map Value.string)) : TextKeys es := fun e he => by
  have : e.key ∈ ks.map Value.string := hp.mem_iff.1 (List.mem_map.2 ⟨e, he, rfl⟩)
  obtain ⟨s, _, hs⟩ := List.mem_map.1 this
  exact ⟨s, hs.symm⟩

section
variable {P : Program} (w : World) {ops : Array Oper} {rest : List Oper} {o : Oper} {a : Act} {Q : Exit → Act → World → Prop}
theorem wpList_range_at (hg : o.guard = none) (m : Operand) (t : TypeId) (hop : o.op = Op.range t m) (k e : TypeId) (ht : P.underlying t = some (.map k e)) (b : Nat) (es : Array MapEntry) (clk : Nat) (hm : a.eval m = .map (some b)) (hb : w.heap[b]? = some (.map es clk)) (r : Nat) (hr : w.heap.size = r)
    (hK : wpList P ops Q rest (a.put o.dst (.pointer (some ⟨r, 0, none⟩))) (w.alloc (.mapIter (some b) clk #[] clk))) : wpList P ops Q (o :: rest) a w := by
  subst hr
  refine wpList_plain hg fun K' hK' => ?_
  unfold Oper.wp
  simp [execOp, hop, hm, run_range_map w t k e b es clk ht hb, Result.andThen]
  exact hK' _ _ hK
theorem wpList_next_at (hg : o.guard = none) (it : Operand) (hop : o.op = Op.next it false) (r bm since : Nat) (seen : Array Nat) (es : Array MapEntry) (done : List MapEntry)
    (hit : a.eval it = .pointer (some ⟨r, 0, none⟩)) (hr : w.heap[r]? = some (.mapIter (some bm) since seen since)) (hb : w.heap[bm]? = some (.map es since)) (hold : ∀ x ∈ es.toList, x.born < since) (hne : bm ≠ r) (hn : (es.toList.map (·.born)).Nodup) (hs : Seen es seen done)
    (hDone : Hid ((leftOf es seen).size = 0) → wpList P ops Q rest (a.put o.dst (.tuple #[.bool false])) w)
    (hMore : ∀ (e : MapEntry) (w' : World), Hid (e ∈ es.toList ∧ Seen es (seen.push e.born) (done ++ [e]) ∧ (leftOf es (seen.push e.born)).size < (leftOf es seen).size ∧ w'.heap[r]? = some (.mapIter (some bm) since (seen.push e.born) since) ∧ (∀ k, k ≠ r → w'.heap[k]? = w.heap[k]?) ∧ w'.heap.size = w.heap.size ∧ (∀ B w0, Below B w0 w → B ≤ r → Below B w0 w') ∧ w.grownBy w' (some r)) →
      (Instr.entry (.pointer (some ⟨r, 0, none⟩))).run P w' = .ok (.tuple #[e.key, e.val]) w' → wpList P ops Q rest (a.put o.dst (.tuple #[.bool true, e.key, e.val])) w') : wpList P ops Q (o :: rest) a w := by
  refine wpList_plain hg fun K' hK' => ?_
  unfold Oper.wp
  rcases run_next_at (P := P) w o.type r bm since since seen es since hr hb hold (Nat.le_refl _) with ⟨h0, hrun⟩ | ⟨e, he, w1, hw1, hrun⟩
  · simp [execOp, hop, hit, hrun, Result.andThen]
    exact hK' _ _ (hDone (show Hid _ from h0))
  · simp [execOp, hop, hit, hrun, Result.andThen]
    have hr1 : w1.heap[r]? = some (.mapIter (some bm) since seen since) := by rcases hw1 with rfl | rfl <;> exact hr
    have hsz : w1.heap.size = w.heap.size := by rcases hw1 with rfl | rfl <;> rfl
    have hoth : ∀ k, k ≠ r → (setBlock w1 r (.mapIter (some bm) since (seen.push e.born) since)).heap[k]? = w.heap[k]? := fun k hk => by
      rw [setBlock_other _ hk]; rcases hw1 with rfl | rfl <;> rfl
    refine hK' _ _ (hMore e _ (show Hid _ from ⟨(mem_left he).1, hs.step he, left_shrinks es seen e he, setBlock_at hr1, hoth, by rw [setBlock_size]; exact hsz, fun B w0 h hB => below_setBlock ?_ hB _, ?_⟩) ?_)
    · rcases hw1 with rfl | rfl
      · exact h
      · exact h.trans ⟨rfl, rfl, rfl, Nat.le_refl _, fun _ _ => rfl⟩
    · refine ⟨?_, ?_, ?_, by rw [setBlock_size, hsz]; exact Nat.le_refl _, fun k hk hkr => hoth k (fun e => hkr (by rw [e]))⟩
      all_goals (rcases hw1 with rfl | rfl <;> rfl)
    · exact run_entry_at _ r bm since seen es since e (setBlock_at hr1) ((hoth bm hne).trans hb) (mem_left he).1 hn
end
end Go.Proofs.YtaclgcpfcejplaaGreatDoor.Vals
