/- Walk of spec.Put: a dictionary with one more key. -/
import Derived.Test.YtaclgcpfcejplaaValQ
import Derived.Test.YtaclgcpfcejplaaValC
import Derived.Deep.RegionHeld3
namespace Go.Proofs.Ytaclgcpfcejplaa.Vals
open Go.RowKit Go.ChangeMaps Go.Proofs.YtaclgcpfcejplaaW.PrintWords Go.Proofs.Ytaclgcpfcejplaa.Txt
set_option linter.unusedVariables false
set_option maxRecDepth 20000

theorem own_empty {w : World} {B g : Nat} {e : TypeId} {size : Nat} (hb : B ≤ g) (h : w.heap[g]? = some (.cells #[] e (0, 0))) : w.ownsRow B e size (.slice (some ⟨g, 0, none⟩) 0 0) 0 [] :=
  ⟨by simp, .inr ⟨g, 0, #[], rfl, hb, h, Nat.le_refl _, by unfold maxLen; omega, by simp, by simp⟩⟩
theorem bdrew (w : World) : Below w.heap.size w w.drew := ⟨rfl, rfl, rfl, Nat.le_refl _, fun _ _ => rfl⟩
theorem alloc2_new (w : World) (o o' : Obj) : ((w.alloc o).alloc o').heap[w.heap.size + 1]? = some o' := by have h := heap_alloc_new (w.alloc o) o'; rw [World.size_alloc] at h; exact h
theorem row_box {w : World} {b : Nat} {cs : Array Value} {t : TypeId} {s : Nat} (h : w.heap[b]? = some (.cells cs t (0, 0))) (hs : cs.toList.length = 1 * s) : RowIs w (fun _ => True) s (.slice (some ⟨b, 0, none⟩) 1 1) 1 cs.toList :=
  ⟨some ⟨b, 0, none⟩, 1, rfl, Nat.le_refl _, by unfold maxLen; omega, hs, fun _ => ⟨b, 0, rfl, trivial, fun j u hu => by rw [Nat.zero_add, blk_cell h]; simpa using hu⟩⟩
theorem RowIs.pre {w : World} {P : Nat → Prop} {s b n c a : Nat} {xs : List Value} (h : RowIs w P s (.slice (some ⟨b, 0, none⟩) n c) n xs) (ha : a ≤ n) : RowIs w P s (.slice (some ⟨b, 0, none⟩) a c) a (xs.take (a * s)) := by
  obtain ⟨h1, h2⟩ := h.sizes
  obtain ⟨_, _, _, _, _, hx⟩ := h.form
  have hl : a * s ≤ n * s := Nat.mul_le_mul_right s ha
  refine ⟨_, _, rfl, by omega, by omega, by rw [List.length_take]; omega, fun h0 => ?_⟩
  obtain ⟨b', o', hA, hP, hc⟩ := h.elem (by omega)
  refine ⟨b', o', hA, hP, fun j u hu => ?_⟩
  rw [List.getElem?_take] at hu
  split at hu
  · exact hc _ _ hu
  · cases hu
theorem RowIs.post {w : World} {P : Nat → Prop} {s b n c a : Nat} {xs : List Value} (h : RowIs w P s (.slice (some ⟨b, 0, none⟩) n c) n xs) (ha : a ≤ n) : RowIs w P s (.slice (if c = a then some ⟨b, 0, none⟩ else some ⟨b, a * s, none⟩) (n - a) (c - a)) (n - a) (xs.drop (a * s)) := by
  obtain ⟨h1, h2⟩ := h.sizes
  obtain ⟨_, _, _, _, _, hx⟩ := h.form
  refine ⟨_, _, rfl, by omega, by omega, by rw [List.length_drop, hx, Nat.sub_mul], fun h0 => ?_⟩
  obtain ⟨b', o', hA, hP, hc⟩ := h.elem (by omega)
  injection hA with hA
  injection hA with hb ho
  subst hb; subst ho
  refine ⟨b, a * s, by rw [if_neg (by omega)], hP, fun j u hu => ?_⟩
  rw [List.getElem?_drop] at hu
  have := hc _ _ hu
  rw [Nat.zero_add] at this
  exact this
def set6L (xs : List Value) (a : Nat) (v0 v1 v2 v3 v4 v5 : Value) : List Value := (((((xs.set (a * 6) v0).set (a * 6 + 1) v1).set (a * 6 + 2) v2).set (a * 6 + 3) v3).set (a * 6 + 4) v4).set (a * 6 + 5) v5
theorem set6L_at {xs : List Value} {a n : Nat} (hl : xs.length = n * 6) (ha : a < n) (v0 v1 v2 v3 v4 v5 : Value) : (∀ i j, j < 6 → i ≠ a → (set6L xs a v0 v1 v2 v3 v4 v5)[i * 6 + j]? = xs[i * 6 + j]?) ∧ (∀ j, j < 6 → (set6L xs a v0 v1 v2 v3 v4 v5)[a * 6 + j]? = [v0, v1, v2, v3, v4, v5][j]?) := by
  have hb : a * 6 + 5 < xs.length := by omega
  refine ⟨fun i j hj hi => ?_, fun j hj => ?_⟩
  · unfold set6L
    simp only [List.getElem?_set, List.length_set]
    rw [if_neg (by omega), if_neg (by omega), if_neg (by omega), if_neg (by omega), if_neg (by omega), if_neg (by omega)]
  · unfold set6L
    simp only [List.getElem?_set, List.length_set]
    have h6 : j = 0 ∨ j = 1 ∨ j = 2 ∨ j = 3 ∨ j = 4 ∨ j = 5 := by omega
    rcases h6 with rfl | rfl | rfl | rfl | rfl | rfl
    · rw [if_neg (by omega), if_neg (by omega), if_neg (by omega), if_neg (by omega), if_neg (by omega), if_pos (by omega), if_pos (by omega)]; rfl
    · rw [if_neg (by omega), if_neg (by omega), if_neg (by omega), if_neg (by omega), if_pos (by omega), if_pos (by omega)]; rfl
    · rw [if_neg (by omega), if_neg (by omega), if_neg (by omega), if_pos (by omega), if_pos (by omega)]; rfl
    · rw [if_neg (by omega), if_neg (by omega), if_pos (by omega), if_pos (by omega)]; rfl
    · rw [if_neg (by omega), if_pos (by omega), if_pos (by omega)]; rfl
    · rw [if_pos (by omega), if_pos (by omega)]; rfl
theorem IsVs.set6 {w : World} {P : Nat → Prop} {l : List V} {xs : List Value} (h : IsVs w P l xs) {a : Nat} (ha : a < l.length) {u : V} {v0 v1 v2 v3 v4 v5 : Value} (hu : IsV w P u [v0, v1, v2, v3, v4, v5]) : IsVs w P (l.set a u) (set6L xs a v0 v1 v2 v3 v4 v5) := by
  have hl := h.len
  obtain ⟨h1, h2⟩ := set6L_at hl ha v0 v1 v2 v3 v4 v5
  refine IsVs.mk (by unfold set6L; simp [hl]) fun i hi => ?_
  rw [List.length_set] at hi
  by_cases hia : i = a
  · subst hia
    rw [List.getElem_set_self]
    exact ⟨_, hu, fun j hj => h2 j hj⟩
  · rw [List.getElem_set_ne (Ne.symm hia)]
    obtain ⟨c, hc, _, hx⟩ := h.at_ i hi
    exact ⟨c, hc, fun j hj => (h1 i j hj hia).trans (hx j hj)⟩
/-- A row of values of the call's own: one is overwritten. -/
theorem own_set6 {w : World} {B : Nat} {g n cap a : Nat} {xs : List Value} (h : w.ownsRow B 26 6 (.slice (some ⟨g, 0, none⟩) n cap) n xs) (ha : a < n) (v0 v1 v2 v3 v4 v5 : Value) {w' : World}
    (hw : w' = (((((w.setCell ⟨g, a * 6, none⟩ v0).setCell ⟨g, a * 6 + 1, none⟩ v1).setCell ⟨g, a * 6 + 2, none⟩ v2).setCell ⟨g, a * 6 + 3, none⟩ v3).setCell ⟨g, a * 6 + 4, none⟩ v4).setCell ⟨g, a * 6 + 5, none⟩ v5) :
    w'.ownsRow B 26 6 (.slice (some ⟨g, 0, none⟩) n cap) n (set6L xs a v0 v1 v2 v3 v4 v5) ∧ (∀ k, k ≠ g → w'.heap[k]? = w.heap[k]?) ∧ Below g w w' := by
  obtain ⟨hl, hc⟩ := h
  rcases hc with ⟨h0, _⟩ | ⟨g', cap', cur, hv, hb, hh, h1, h2, h3, h4⟩
  · cases h0
  injection hv with hv1 _ hv3
  injection hv1 with hv1
  injection hv1 with hv1
  subst hv1
  subst hv3
  have h5 := blk_set (blk_set (blk_set (blk_set (blk_set (blk_set hh (a * 6) v0) (a * 6 + 1) v1) (a * 6 + 2) v2) (a * 6 + 3) v3) (a * 6 + 4) v4) (a * 6 + 5) v5
  rw [← hw] at h5
  refine ⟨⟨by unfold set6L; simp [hl], .inr ⟨g, cap, _, rfl, hb, h5, h1, h2, by simp [h3], ?_⟩⟩, fun k hk => ?_, ?_⟩
  · simp only [Array.toList_setIfInBounds]
    rw [← h4]
    unfold set6L
    simp only [List.take_set]
  · rw [hw, Below.heap_setCell _ _ _ _ hk, Below.heap_setCell _ _ _ _ hk, Below.heap_setCell _ _ _ _ hk, Below.heap_setCell _ _ _ _ hk, Below.heap_setCell _ _ _ _ hk, Below.heap_setCell _ _ _ _ hk]
  · rw [hw]
    have s : ∀ (W : World) (j : Nat) (v : Value), Below g w W → Below g w (W.setCell ⟨g, j, none⟩ v) := fun W j v h => h.setCell (p := ⟨g, j, none⟩) (Nat.le_refl _) v
    exact s _ _ _ (s _ _ _ (s _ _ _ (s _ _ _ (s _ _ _ (s _ _ _ (Below.refl _ _))))))
/-- Its cells may be written. -/
theorem own_cell {w : World} {B : Nat} {g n cap : Nat} {e : TypeId} {s : Nat} {xs : List Value} (h : w.ownsRow B e s (.slice (some ⟨g, 0, none⟩) n cap) n xs) {j : Nat} (hj : j < n * s) : (∃ u, w.cell? ⟨g, j, none⟩ = some u) ∧ w.frozen? ⟨g, j, none⟩ = false := by
  obtain ⟨hl, hc⟩ := h
  rcases hc with ⟨h0, _⟩ | ⟨g', cap', cur, hv, hb, hh, h1, h2, h3, h4⟩
  · cases h0
  injection hv with hv1 _ hv3
  injection hv1 with hv1
  injection hv1 with hv1
  subst hv1
  subst hv3
  have hsz : j < cur.size := by rw [h3]; exact Nat.lt_of_lt_of_le hj (Nat.mul_le_mul_right s h1)
  exact ⟨⟨cur[j], by rw [blk_cell hh]; exact Array.getElem?_eq_getElem hsz⟩, by simp [World.frozen?, hh]⟩
theorem below_drewn {B : Nat} {w W : World} (h : Below B w W) : Below B w W.drew := h.trans ⟨rfl, rfl, rfl, Nat.le_refl _, fun _ _ => rfl⟩
theorem dsize (w : World) : w.drew.heap.size = w.heap.size := rfl
theorem textsOne (ks : List ByteArray) : ∀ u ∈ ks.map Value.string, u.oneCell' = true := by
  intro u hu
  obtain ⟨k, _, rfl⟩ := List.mem_map.1 hu
  rfl
section
variable {P : Program} (w : World)
/-- append onto a slice that isn't nil. -/
theorem run_append_some (base : Nat) (t ty e : TypeId) (i : TypeInfo) (z : Value) (size bytes : Nat) (ht : P.underlying t = some (.slice e)) (hi : P.info? e = some i) (hz : i.zero = some z)
    (hsize : i.size = size) (hby : i.bytes = bytes) (hzs : z.cells.size = size) (hsz : 0 < size)
    (g n kc : Nat) (xs : List Value) (hown : w.ownsRow base e size (.slice (some ⟨g, 0, none⟩) n kc) n xs)
    (R : Nat → Prop) (A : Option Addr) (m c : Nat) (news : List Value) (hr : RowIs w R size (.slice A m c) m news) (h1 : ∀ u ∈ news, u.oneCell' = true)
    (h63 : n + m ≤ maxLen) (hbytes : (n + m) * bytes ≤ 140737488355328) (hbase : base ≤ w.heap.size) :
    ∃ g' cap w', (Builtin.append_ #[t, t] ty #[.slice (some ⟨g, 0, none⟩) n kc, .slice A m c]).run P w = .ok (.slice (some ⟨g', 0, none⟩) (n + m) cap) w' ∧ w'.ownsRow base e size (.slice (some ⟨g', 0, none⟩) (n + m) cap) (n + m) (xs ++ news) ∧ w.grownBy w' (some g) ∧
      (g' = g ∨ g' = w.heap.size) := by
  have hlen : news.length = m * size := by obtain ⟨_, _, _, _, _, h⟩ := hr.form; exact h
  rcases A with _ | ad
  · have hm : m = 0 := by
      rcases Nat.eq_zero_or_pos m with h0 | h0
      · exact h0
      · obtain ⟨_, _, h, _⟩ := hr.elem h0
        cases h
    subst hm
    have hn : news = [] := List.eq_nil_of_length_eq_zero (by simpa using hlen)
    subst hn
    exact ⟨g, kc, w, run_append_nothing w base t ty e i size ht hi _ n xs hown c, by simpa using hown, ⟨rfl, rfl, rfl, Nat.le_refl _, fun _ _ _ => rfl⟩, .inl rfl⟩
  · have hcells : ∀ j u, news[j]? = some u → w.cell? (ad.add j) = some u := fun j u hu => by
      have hjl := (List.getElem?_eq_some_iff.1 hu).1
      have h0 : 0 < m := by
        rcases Nat.eq_zero_or_pos m with h0 | h0
        · rw [hlen, h0, Nat.zero_mul] at hjl; omega
        · exact h0
      obtain ⟨b, o, h, _, hc⟩ := hr.elem h0
      injection h with h
      subst h
      rw [← Go.Proofs.Ytaclgcpfcejplaa.Vals.add_eq rfl]
      exact hc j u hu
    obtain ⟨v', w', hrun, h2, h3, h4, h5⟩ := run_append_own_at (P := P) w base t ty e i z size bytes ht hi hz hsize hby hzs hsz _ n xs hown ad m c news hlen hcells h1 h63 hbytes hbase
    rcases h2.2 with ⟨rfl, h0⟩ | ⟨g', cap, cur, rfl, _⟩
    · exact absurd (h4.1 rfl).1 (by simp)
    · refine ⟨g', cap, w', hrun, h2, h3, ?_⟩
      rcases h5 with h | h
      · exact .inl (by simpa [Value.ownBlock] using h)
      · exact .inr (by simpa [Value.ownBlock] using h)
theorem step_append_some {ops : Array Oper} {o : Oper} {a : Act} {K : Act → World → Prop} {Q : Exit → Act → World → Prop} {E : Prop} (hgd : o.guard = none) (s x : Operand) (t : TypeId)
    (ho : o.op = .call { callee := .builtin .append, args := #[s, x], argTypes := #[t, t] })
    (base : Nat) (e : TypeId) (i : TypeInfo) (z : Value) (size bytes : Nat) (ht : P.underlying t = some (.slice e)) (hi : P.info? e = some i) (hz : i.zero = some z)
    (hsize : i.size = size) (hby : i.bytes = bytes) (hzs : z.cells.size = size) (hsz : 0 < size)
    (g n kc : Nat) (xs : List Value) (hs : a.eval s = .slice (some ⟨g, 0, none⟩) n kc) (hown : w.ownsRow base e size (.slice (some ⟨g, 0, none⟩) n kc) n xs)
    (R : Nat → Prop) (A : Option Addr) (m c : Nat) (news : List Value) (hx : a.eval x = .slice A m c) (hr : RowIs w R size (.slice A m c) m news) (h1 : ∀ u ∈ news, u.oneCell' = true)
    (h63 : n + m ≤ maxLen) (hbytes : (n + m) * bytes ≤ 140737488355328) (hbase : base ≤ w.heap.size)
    (h : ∀ g' cap w', w'.ownsRow base e size (.slice (some ⟨g', 0, none⟩) (n + m) cap) (n + m) (xs ++ news) → w.grownBy w' (some g) → (g' = g ∨ g' = w.heap.size) → K (a.put o.dst (.slice (some ⟨g', 0, none⟩) (n + m) cap)) w') :
    if Region.wanted o (yielded ops a.tmps) = true then Oper.wp P o a w K Q else E := by
  have hw : Region.wanted o (yielded ops a.tmps) = true := by simp [Region.wanted, hgd]
  rw [if_pos hw]
  obtain ⟨g', cap, w', hrun, h2, h3, h4⟩ := run_append_some (P := P) w base t o.type e i z size bytes ht hi hz hsize hby hzs hsz g n kc xs hown R A m c news hr h1 h63 hbytes hbase
  unfold Oper.wp execOp
  simp only [ho, resolve, invoke, builtin, Sem.run_bind, Sem.run_pure, Result.andThen_ok, List.map_toArray, List.map_cons, List.map_nil, hs, hx, hrun]
  exact h g' cap w' h2 h3 h4
end
/-- What spec.Put, spec.Taken and their like answer: a dictionary as data. -/
def DictSpec (ks : List ByteArray) (l : List V) (w : World) (e : Ending) (w' : World) : Prop := ∃ kv lv, e = .returned (.agg #[.int .i64 7, .int .i64 0, .float .f64 0, .string ⟨#[]⟩, kv, lv]) ∧
  Hid (IsV w' (fun _ => True) (.mk 7 0 0 ⟨#[]⟩ ks l) [.int .i64 7, .int .i64 0, .float .f64 0, .string ⟨#[]⟩, kv, lv]) ∧ Hid (Below w.heap.size w w')

end Go.Proofs.Ytaclgcpfcejplaa.Vals
