/- Walk of spec.Put: a dictionary with one more key. -/
import Derived.Test.YtaclgcpfcejplaaGreatDoorValQ
import Derived.Test.YtaclgcpfcejplaaGreatDoorValC
import Derived.Deep.RegionHeld3
namespace Go.Proofs.YtaclgcpfcejplaaGreatDoor.Vals
open Go.RowKit Go.ChangeMaps Go.Proofs.YtaclgcpfcejplaaGreatDoorW.PrintWords Go.Proofs.YtaclgcpfcejplaaGreatDoor.Txt
set_option linter.unusedVariables false
set_option maxRecDepth 20000

theorem own_empty {w : World} {B g : Nat} {e : TypeId} {size : Nat} (hb : B ≤ g) (h : w.heap[g]? = some (.cells #[] e (0, 0))) : w.ownsRow B e size (.slice (some ⟨g, 0, none⟩) 0 0) 0 [] :=
  ⟨by simp, .inr ⟨g, 0, #[], rfl, hb, h, Nat.le_refl _, by unfold maxLen; omega, by simp, by simp⟩⟩
theorem bdrew (w : World) : Below w.heap.size w w.drew := ⟨rfl, rfl, rfl, Nat.le_refl _, fun _ _ => rfl⟩
theorem alloc2_new (w : World) (o o' : Obj) : ((w.alloc o).alloc o').heap[w.heap.size + 1]? = some o' := by have h := heap_alloc_new (w.alloc o) o'; rw [World.size_alloc] at h; exact h
theorem row_box {w : World} {b : Nat} {cs : Array Value} {t : TypeId} {s : Nat} (h : w.heap[b]? = some (.cells cs t (0, 0))) (hs : cs.toList.length = 1 * s) : RowIs w (fun _ => True) s (.slice (some ⟨b, 0, none⟩) 1 1) 1 cs.toList :=
  ⟨some ⟨b, 0, none⟩, 1, rfl, Nat.le_refl _, by unfold maxLen; omega, hs, fun _ => ⟨b, 0, rfl, trivial, fun j u hu => by rw [Nat.zero_add, blk_cell h]; simpa using hu⟩⟩
theorem RowIs.pre {w : World} {P : Nat → Prop} {s b n c a : Nat} {xs : List Value} (h : RowIs w P s (.slice (some ⟨b, 0, none⟩) n c) n xs) (ha : a ≤ n) : RowIs w P s (.slice (some ⟨b, 0, none⟩) a c) a (xs.take (a * s)) := by
  obtain ⟨h1, h2⟩ := h.sizes
  obtain ⟨_, _, _, _, _, hx⟩ := h.form
  have hl : a * s ≤ n * s := Nat.mul_le_mul_right s ha
  refine ⟨_, _, rfl, by omega, by omega, by rw [List.length_take]; omega, fun h0 => ?_⟩
  obtain ⟨b', o', hA, hP, hc⟩ := h.elem (by omega)
  refine ⟨b', o', hA, hP, fun j u hu => ?_⟩
  rw [List.getElem?_take] at hu
  split at hu
  · exact hc _ _ hu
  · cases hu
theorem RowIs.post {w : World} {P : Nat → Prop} {s b n c a : Nat} {xs : List Value} (h : RowIs w P s (.slice (some ⟨b, 0, none⟩) n c) n xs) (ha : a ≤ n) : RowIs w P s (.slice (if c = a then some ⟨b, 0, none⟩ else some ⟨b, a * s, none⟩) (n - a) (c - a)) (n - a) (xs.drop (a * s)) := by
  obtain ⟨h1, h2⟩ := h.sizes
  obtain ⟨_, _, _, _, _, hx⟩ := h.form
  refine ⟨_, _, rfl, by omega, by omega, by rw [List.length_drop, hx, Nat.sub_mul], fun h0 => ?_⟩
  obtain ⟨b', o', hA, hP, hc⟩ := h.elem (by omega)
  injection hA with hA
  injection hA with hb ho
  subst hb; subst ho
  refine ⟨b, a * s, by rw [if_neg (by omega)], hP, fun j u hu => ?_⟩
  rw [List.getElem?_drop] at hu
  have := hc _ _ hu
  rw [Nat.zero_add] at this
  exact this
def set6L (xs : List Value) (a : Nat) (v0 v1 v2 v3 v4 v5 : Value) : List Value := (((((xs.set (a * 6) v0).set (a * 6 + 1) v1).set (a * 6 + 2) v2).set (a * 6 + 3) v3).set (a * 6 + 4) v4).set (a * 6 + 5) v5
theorem set6L_at {xs : List Value} {a n : Nat} (hl : xs.length = n * 6) (ha : a < n) (v0 v1 v2 v3 v4 v5 : Value) : (∀ i j, j < 6 → i ≠ a → (set6L xs a v0 v1 v2 v3 v4 v5)[i * 6 + j]? = xs[i * 6 + j]?) ∧ (∀ j, j < 6 → (set6L xs a v0 v1 v2 v3 v4 v5)[a * 6 + j]? = [v0, v1, v2, v3, v4, v5][j]?) := by
  have hb : a * 6 + 5 < xs.length := by omega
  refine ⟨fun i j hj hi => ?_, fun j hj => ?_⟩
  · unfold set6L
    simp only [List.getElem?_set, List.length_set]
    rw [if_neg (by omega), if_neg (by omega), if_neg (by omega), if_neg (by omega), if_neg (by omega), if_neg (by omega)]
  · unfold set6L
    simp only [List.getElem?_set, List.length_set]
    have h6 : j = 0 ∨ j = 1 ∨ j = 2 ∨ j = 3 ∨ j = 4 ∨ j = 5 := by omega
    rcases h6 with rfl | rfl | rfl | rfl | rfl | rfl
    · rw [if_neg (by omega), if_neg (by omega), if_neg (by omega), if_neg (by omega), if_neg (by omega), if_pos (by omega), if_pos (by omega)]; rfl
    · rw [if_neg (by omega), if_neg (by omega), if_neg (by omega), if_neg (by omega), if_pos (by omega), if_pos (by omega)]; rfl
    · rw [if_neg (by omega), if_neg (by omega), if_neg (by omega), if_pos (by omega), if_pos (by omega)]; rfl
    · rw [if_neg (by omega), if_neg (by omega), if_pos (by omega), if_pos (by omega)]; rfl
    · rw [if_neg (by omega), if_pos (by omega), if_pos (by omega)]; rfl
    · rw [if_pos (by omega), if_pos (by omega)]; rfl
theorem IsVs.set6 {w : World} {P : Nat → Prop} {l : List V} {xs : List Value} (h : IsVs w P l xs) {a : Nat} (ha : a < l.length) {u : V} {v0 v1 v2 v3 v4 v5 : Value} (hu : IsV w P u [v0, v1, v2, v3, v4, v5]) : IsVs w P (l.set a u) (set6L xs a v0 v1 v2 v3 v4 v5) := by
  have hl := h.len
  obtain ⟨h1, h2⟩ := set6L_at hl ha v0 v1 v2 v3 v4 v5
  refine IsVs.mk (by unfold set6L; simp [hl]) fun i hi => ?_
  rw [List.length_set] at hi
  by_cases hia : i = a
  · subst hia
    rw [List.getElem_set_self]
    exact ⟨_, hu, fun j hj => h2 j hj⟩
  · rw [List.getElem_set_ne (Ne.symm hia)]
    obtain ⟨c, hc, _, hx⟩ := h.at_ i hi
    exact ⟨c, hc, fun j hj => (h1 i j hj hia).trans (hx j hj)⟩
/-- A row of values of the call's own: one is overwritten. -/
theorem own_set6 {w : World} {B : Nat} {g n cap a : Nat} {xs : List Value} (h : w.ownsRow B 28 6 (.slice (some ⟨g, 0, none⟩) n cap) n xs) (ha : a < n) (v0 v1 v2 v3 v4 v5 : Value) {w' : World}
    (hw : w' = (((((w.setCell ⟨g, a * 6, none⟩ v0).setCell ⟨g, a * 6 + 1, none⟩ v1).setCell ⟨g, a * 6 + 2, none⟩ v2).setCell ⟨g, a * 6 + 3, none⟩ v3).setCell ⟨g, a * 6 + 4, none⟩ v4).setCell ⟨g, a * 6 + 5, none⟩ v5) :
    w'.ownsRow B 28 6 (.slice (some ⟨g, 0, none⟩) n cap) n (set6L xs a v0 v1 v2 v3 v4 v5) ∧ (∀ k, k ≠ g → w'.heap[k]? = w.heap[k]?) ∧ Below g w w' := by
  obtain ⟨hl, hc⟩ := h
  rcases hc with ⟨h0, _⟩ | ⟨g', cap', cur, hv, hb, hh, h1, h2, h3, h4⟩
  · cases h0
  injection hv with hv1 _ hv3
  injection hv1 with hv1
  injection hv1 with hv1
  subst hv1
  subst hv3
  have h5 := blk_set (blk_set (blk_set (blk_set (blk_set (blk_set hh (a * 6) v0) (a * 6 + 1) v1) (a * 6 + 2) v2) (a * 6 + 3) v3) (a * 6 + 4) v4) (a * 6 + 5) v5
  rw [← hw] at h5
  refine ⟨⟨by unfold set6L; simp [hl], .inr ⟨g, cap, _, rfl, hb, h5, h1, h2, by simp [h3], ?_⟩⟩, fun k hk => ?_, ?_⟩
  · simp only [Array.toList_setIfInBounds]
    rw [← h4]
    unfold set6L
    simp only [List.take_set]
  · rw [hw, Below.heap_setCell _ _ _ _ hk, Below.heap_setCell _ _ _ _ hk, Below.heap_setCell _ _ _ _ hk, Below.heap_setCell _ _ _ _ hk, Below.heap_setCell _ _ _ _ hk, Below.heap_setCell _ _ _ _ hk]
  · rw [hw]
    have s : ∀ (W : World) (j : Nat) (v : Value), Below g w W → Below g w (W.setCell ⟨g, j, none⟩ v) := fun W j v h => h.setCell (p := ⟨g, j, none⟩) (Nat.le_refl _) v
    exact s _ _ _ (s _ _ _ (s _ _ _ (s _ _ _ (s _ _ _ (s _ _ _ (Below.refl _ _))))))
/-- Its cells may be written. -/
theorem own_cell {w : World} {B : Nat} {g n cap : Nat} {e : TypeId} {s : Nat} {xs : List Value} (h : w.ownsRow B e s (.slice (some ⟨g, 0, none⟩) n cap) n xs) {j : Nat} (hj : j < n * s) : (∃ u, w.cell? ⟨g, j, none⟩ = some u) ∧ w.frozen? ⟨g, j, none⟩ = false := by
  obtain ⟨hl, hc⟩ := h
  rcases hc with ⟨h0, _⟩ | ⟨g', cap', cur, hv, hb, hh, h1, h2, h3, h4⟩
  · cases h0
  injection hv with hv1 _ hv3
  injection hv1 with hv1
  injection hv1 with hv1
  subst hv1
  subst hv3
  have hsz : j < cur.size := by rw [h3]; exact Nat.lt_of_lt_of_le hj (Nat.mul_le_mul_right s h1)
  exact ⟨⟨cur[j], by rw [blk_cell hh]; exact Array.getElem?_eq_getElem hsz⟩, by simp [World.frozen?, hh]⟩
theorem below_drewn {B : Nat} {w W : World} (h : Below B w W) : Below B w W.drew := h.trans ⟨rfl, rfl, rfl, Nat.le_refl _, fun _ _ => rfl⟩
theorem dsize (w : World) : w.drew.heap.size = w.heap.size := rfl
theorem textsOne (ks : List ByteArray) : ∀ u ∈ ks.map Value.string, u.oneCell' = true := by
  intro u hu
  obtain ⟨k, _, rfl⟩ := List.mem_map.1 hu
  rfl
section
variable {P : Program} (w : World)
/-- append onto a slice that isn't nil. -/
theorem run_append_some (base : Nat) (t ty e : TypeId) (i : TypeInfo) (z : Value) (size bytes : Nat) (ht : P.underlying t = some (.slice e)) (hi : P.info? e = some i) (hz : i.zero = some z)
    (hsize : i.size = size) (hby : i.bytes = bytes) (hzs : z.cells.size = size) (hsz : 0 < size)
    (g n kc : Nat) (xs : List Value) (hown : w.ownsRow base e size (.slice (some ⟨g, 0, none⟩) n kc) n xs)
    (R : Nat → Prop) (A : Option Addr) (m c : Nat) (news : List Value) (hr : RowIs w R size (.slice A m c) m news) (h1 : ∀ u ∈ news, u.oneCell' = true)
    (h63 : n + m ≤ maxLen) (hbytes : (n + m) * bytes ≤ 140737488355328) (hbase : base ≤ w.heap.size) :
    ∃ g' cap w', (Builtin.append_ #[t, t] ty #[.slice (some ⟨g, 0, none⟩) n kc, .slice A m c]).run P w = .ok (.slice (some ⟨g', 0, none⟩) (n + m) cap) w' ∧ w'.ownsRow base e size (.slice (some ⟨g', 0, none⟩) (n + m) cap) (n + m) (xs ++ news) ∧ w.grownBy w' (some g) ∧
      (g' = g ∨ g' = w.heap.size) := by
  have hlen : news.length = m * size := by obtain ⟨_, _, _, _, _, h⟩ := hr.form; exact h
  rcases A with _ | ad
  · have hm : m = 0 := by
      rcases Nat.eq_zero_or_pos m with h0 | h0
      · exact h0
      · obtain ⟨_, _, h, _⟩ := hr.elem h0
        cases h
    subst hm
    have hn : news = [] := List.eq_nil_of_length_eq_zero (by simpa using hlen)
    subst hn
    exact ⟨g, kc, w, run_append_nothing w base t ty e i size ht hi _ n xs hown c, by simpa using hown, ⟨rfl, rfl, rfl, Nat.le_refl _, fun _ _ _ => rfl⟩, .inl rfl⟩
  · have hcells : ∀ j u, news[j]? = some u → w.cell? (ad.add j) = some u := fun j u hu => by
      have hjl := (List.getElem?_eq_some_iff.1 hu).1
      have h0 : 0 < m := by
        rcases Nat.eq_zero_or_pos m with h0 | h0
        · rw [hlen, h0, Nat.zero_mul] at hjl; omega
        · exact h0
      obtain ⟨b, o, h, _, hc⟩ := hr.elem h0
      injection h with h
      subst h
      rw [← Go.Proofs.YtaclgcpfcejplaaGreatDoor.Vals.add_eq rfl]
      exact hc j u hu
    obtain ⟨v', w', hrun, h2, h3, h4, h5⟩ := run_append_own_at (P := P) w base t ty e i z size bytes ht hi hz hsize hby hzs hsz _ n xs hown ad m c news hlen hcells h1 h63 hbytes hbase
    rcases h2.2 with ⟨rfl, h0⟩ | ⟨g', cap, cur, rfl, _⟩
    · exact absurd (h4.1 rfl).1 (by simp)
    · refine ⟨g', cap, w', hrun, h2, h3, ?_⟩
      rcases h5 with h | h
      · exact .inl (by simpa [Value.ownBlock] using h)
      · exact .inr (by simpa [Value.ownBlock] using h)
theorem step_append_some {ops : Array Oper} {o : Oper} {a : Act} {K : Act → World → Prop} {Q : Exit → Act → World → Prop} {E : Prop} (hgd : o.guard = none) (s x : Operand) (t : TypeId)
    (ho : o.op = .call { callee := .builtin .append, args := #[s, x], argTypes := #[t, t] })
    (base : Nat) (e : TypeId) (i : TypeInfo) (z : Value) (size bytes : Nat) (ht : P.underlying t = some (.slice e)) (hi : P.info? e = some i) (hz : i.zero = some z)
    (hsize : i.size = size) (hby : i.bytes = bytes) (hzs : z.cells.size = size) (hsz : 0 < size)
    (g n kc : Nat) (xs : List Value) (hs : a.eval s = .slice (some ⟨g, 0, none⟩) n kc) (hown : w.ownsRow base e size (.slice (some ⟨g, 0, none⟩) n kc) n xs)
    (R : Nat → Prop) (A : Option Addr) (m c : Nat) (news : List Value) (hx : a.eval x = .slice A m c) (hr : RowIs w R size (.slice A m c) m news) (h1 : ∀ u ∈ news, u.oneCell' = true)
    (h63 : n + m ≤ maxLen) (hbytes : (n + m) * bytes ≤ 140737488355328) (hbase : base ≤ w.heap.size)
    (h : ∀ g' cap w', w'.ownsRow base e size (.slice (some ⟨g', 0, none⟩) (n + m) cap) (n + m) (xs ++ news) → w.grownBy w' (some g) → (g' = g ∨ g' = w.heap.size) → K (a.put o.dst (.slice (some ⟨g', 0, none⟩) (n + m) cap)) w') :
    if Region.wanted o (yielded ops a.tmps) = true then Oper.wp P o a w K Q else E := by
  have hw : Region.wanted o (yielded ops a.tmps) = true := by simp [Region.wanted, hgd]
  rw [if_pos hw]
  obtain ⟨g', cap, w', hrun, h2, h3, h4⟩ := run_append_some (P := P) w base t o.type e i z size bytes ht hi hz hsize hby hzs hsz g n kc xs hown R A m c news hr h1 h63 hbytes hbase
  unfold Oper.wp execOp
  simp only [ho, resolve, invoke, builtin, Sem.run_bind, Sem.run_pure, Result.andThen_ok, List.map_toArray, List.map_cons, List.map_nil, hs, hx, hrun]
  exact h g' cap w' h2 h3 h4
end
/-- What spec.Put, spec.Taken and their like answer: a dictionary as data. -/
def DictSpec (ks : List ByteArray) (l : List V) (w : World) (e : Ending) (w' : World) : Prop := ∃ kv lv, e = .returned (.agg #[.int .i64 7, .int .i64 0, .float .f64 0, .string ⟨#[]⟩, kv, lv]) ∧
  Hid (IsV w' (fun _ => True) (.mk 7 0 0 ⟨#[]⟩ ks l) [.int .i64 7, .int .i64 0, .float .f64 0, .string ⟨#[]⟩, kv, lv]) ∧ Hid (Below w.heap.size w w')

set_option maxHeartbeats 8000000 in
theorem specPut_walk (n : Int) (r : Nat) (t : ByteArray) (ks : List ByteArray) (l : List V) (hlen : ks.length = l.length) (h300 : l.length ≤ 300) (hkz : ∀ x ∈ ks, x.size ≤ maxLen) (s : ByteArray) (hs : s.size ≤ maxLen) (u : V) (A A' : Option Addr) (c c' : Nat) (ku lu : Value) (xs : List Value) (P Q : Nat → Prop) (w : World)
    (hk : RowIs w P 1 (.slice A ks.length c) ks.length (ks.map Value.string)) (hl : RowIs w P 6 (.slice A' l.length c') l.length xs) (hv : IsVs w P l xs) (hi : IsV w Q u [.int .i64 u.k, .int .i64 u.n, .float .f64 u.r, .string u.t, ku, lu]) :
    Calls Tryz.prog 6 #[.agg #[.int .i64 7, .int .i64 n, .float .f64 r, .string t, .slice A ks.length c, .slice A' l.length c'], .string s, .agg #[.int .i64 u.k, .int .i64 u.n, .float .f64 u.r, .string u.t, ku, lu]] w
      (DictSpec (putK ks s) (putL ks l s u) w) := by
  obtain ⟨j0, hj0, jz0, jz1, jz2⟩ := info_parts textInfo
  obtain ⟨i0, hi0, hz0, hz1, hz2⟩ := info_parts valueInfo
  obtain ⟨hnc, hcm⟩ := hk.sizes
  obtain ⟨hnc', hcm'⟩ := hl.sizes
  unfold maxLen at hcm hcm'
  obtain ⟨m, hm⟩ : ∃ m, m = l.length := ⟨_, rfl⟩
  have hmk : ks.length = m := by omega
  have hxl : xs.length = m * 6 := by have := hv.len; omega
  rw [hmk] at hnc hk ⊢
  rw [← hm] at hnc' hl h300 ⊢
  obtain ⟨⟨Ku, cu, rfl⟩, Lu, du, rfl⟩ : (∃ A c, ku = .slice A u.ks.length c) ∧ ∃ A c, lu = .slice A u.l.length c := by
    obtain ⟨_, h1, h2, _⟩ := hi.parts
    obtain ⟨A, c, h1, _⟩ := h1.form
    obtain ⟨A', c', h2, _⟩ := h2.form
    exact ⟨⟨A, c, h1⟩, A', c', h2⟩
  have HB0 := Lib.hid (box3 w (.int .i64 7) (.int .i64 n) (.float .f64 r) (.string t) (.slice A m c) (.slice A' m c') (.int .i64 u.k) (.int .i64 u.n) (.float .f64 u.r) (.string u.t) (.slice Ku u.ks.length cu) (.slice Lu u.l.length du) (.int .i64 0) (.int .i64 0) (.float .f64 0) (.string ⟨#[]⟩) (.slice none 0 0) (.slice none 0 0))
  have HC : Hid (∀ W, Below w.heap.size w W → Calls Tryz.prog 12 #[.agg #[.int .i64 7, .int .i64 n, .float .f64 r, .string t, .slice A m c, .slice A' m c'], .string s] W
      fun e w' => e = .returned (.tuple #[.int .i64 (atD ks s : Int), .bool (isD ks s)]) ∧ Below W.heap.size W w') := Lib.hid fun W hW => by
    have h := specAt_walk 7 n r t ks A c (.slice A' m c') s P W (by rw [hmk]; exact hk.keep (by omega) (Kept.below hW))
    rw [hmk] at h; exact h
  have HK := Lib.hid hk
  have HL := Lib.hid hl
  have HV := Lib.hid hv
  have HI := Lib.hid hi
  have HM := Lib.hid (And.intro hm (And.intro hmk hxl))
  have hal : atD ks s ≤ m := by rw [← hmk]; exact atD_le ks s
  obtain ⟨a, ha⟩ : ∃ a, a = atD ks s := ⟨_, rfl⟩
  obtain ⟨is, his⟩ : ∃ b, b = isD ks s := ⟨_, rfl⟩
  rw [← ha, ← his] at HC
  rw [← ha] at hal
  have HA := Lib.hid (And.intro ha his)
  have HKZ := Lib.hid (And.intro hkz hs)
  have hsf := store_float
  clear hk hl hv hi hm hmk hxl ha his hkz hs hlen
  go_enter Tryz.func6, Tryz.ntmps6
  go_wp2_with fail
  refine (HC.out _ HB0.out.2.2.2).mono ?_
  rintro e wr ⟨rfl, hbr⟩
  have HBX := Lib.hid (And.intro (HB0.out.1.below hbr) (And.intro (HB0.out.2.1.below hbr) (HB0.out.2.2.1.below hbr)))
  have HBR := Lib.hid (HB0.out.2.2.2.trans (hbr.mono HB0.out.2.2.2.size))
  have HSZ : Hid (w.heap.size + 3 ≤ wr.heap.size) := Lib.hid (by have := hbr.size; simpa using this)
  obtain ⟨d0, d1, d2, d3, d4, d5⟩ := HBX.out.1.cells
  obtain ⟨e0, e1, e2, e3, e4, e5⟩ := HBX.out.2.1.cells
  have HKW : Hid (∀ W, Below wr.heap.size wr W → RowIs W P 1 (.slice A m c) m (ks.map Value.string)) := Lib.hid fun W hW => HK.out.keep (by omega) (Kept.below (HBR.out.trans (hW.mono HBR.out.size)))
  have HLW : Hid (∀ W, Below wr.heap.size wr W → RowIs W P 6 (.slice A' m c') m xs) := Lib.hid fun W hW => HL.out.keep (by omega) (Kept.below (HBR.out.trans (hW.mono HBR.out.size)))
  have hTO := textsOne ks
  have HTO := Lib.hid hTO
  have HXO := Lib.hid (IsVs.one HV.out)
  have HS : Hid (∀ W, Below wr.heap.size wr W → W.cell? ⟨w.heap.size, 4, none⟩ = some (.slice A m c) ∧ W.cell? ⟨w.heap.size, 5, none⟩ = some (.slice A' m c')) := Lib.hid fun W hW =>
    ⟨(hW.cell (p := ⟨w.heap.size, 4, none⟩) HBX.out.1.lt).trans d4, (hW.cell (p := ⟨w.heap.size, 5, none⟩) HBX.out.1.lt).trans d5⟩
  clear hbr hTO HC d0 d1 d2 d3 d4 d5
  go_upto_region 2 with fail
  go_cut [9, 10] (fun s9 s10 wx => ∃ (g g' cap cap' : Nat), s9 = .slice (some ⟨g, 0, none⟩) m cap ∧ s10 = .slice (some ⟨g', 0, none⟩) m cap' ∧ Hid (wx.ownsRow wr.heap.size 9 1 (.slice (some ⟨g, 0, none⟩) m cap) m (ks.map Value.string)) ∧ Hid (wx.ownsRow wr.heap.size 28 6 (.slice (some ⟨g', 0, none⟩) m cap') m xs) ∧ Hid (Below wr.heap.size wr wx))
  case first =>
    go_region_held3 (fun W => W.cell? ⟨w.heap.size, 4, none⟩ = some (.slice A m c) ∧ W.cell? ⟨w.heap.size, 5, none⟩ = some (.slice A' m c')) (first | exact HS.out _ (bdrew wr) | exact HS.out _ ((bdrew wr).alloc (Nat.le_refl _) _) | exact HS.out _ (((bdrew wr).alloc (Nat.le_refl _) _).alloc (by simp) _) | exact HS.out _ HBK.out | exact HS.out _ HBL.out | exact HS.out _ (HBK.out.alloc HBK.out.size _) | exact HS.out _ (HBL.out.alloc HBL.out.size _))
      (first
        | ((with_reducible refine step_append_some (wr.alloc (.cells #[] 9)).drew ?_ (.tmp 17) (.tmp 19) 22 ?_ wr.heap.size 9 j0 _ 1 16 Tryz.underlying22 hj0 jz0 jz1 jz2 ?_ ?_ (wr.heap.size) 0 0 [] ?_ ?_ P A m c (ks.map Value.string) ?_ ?_ HTO.out ?_ ?_ ?_ ?_); (exact rfl); (exact rfl); (exact rfl); (exact (by decide)); (simp [Act.eval]); (exact own_empty (size := 1) (Nat.le_refl _) (heap_alloc_new wr (.cells #[] 9))); (simp [Act.eval]); (exact HKW.out _ (below_drewn ((Below.refl wr.heap.size wr).alloc (Nat.le_refl _) _))); ((unfold maxLen; omega)); (omega); (exact Below.size (below_drewn ((Below.refl wr.heap.size wr).alloc (Nat.le_refl _) _))); intro gK capK wK hown hgrow hat; have hbb : Below wr.heap.size wr wK := Below.grown (below_drewn ((Below.refl wr.heap.size wr).alloc (Nat.le_refl _) _)) hgrow (Below.size (below_drewn ((Below.refl wr.heap.size wr).alloc (Nat.le_refl _) _))) (fun k hk => (World.ownsRow.lt (e := 9) (size := 1) (own_empty (size := 1) (Nat.le_refl _) (heap_alloc_new wr (.cells #[] 9))) k hk).1); have HOK := Lib.hid hown; have HBK := Lib.hid hbb; clear hown hgrow hat hbb)
        | ((with_reducible refine step_append_some ((wr.alloc (.cells #[] 28)).alloc (.cells #[] 9)).drew ?_ (.tmp 17) (.tmp 19) 22 ?_ wr.heap.size 9 j0 _ 1 16 Tryz.underlying22 hj0 jz0 jz1 jz2 ?_ ?_ (wr.heap.size + 1) 0 0 [] ?_ ?_ P A m c (ks.map Value.string) ?_ ?_ HTO.out ?_ ?_ ?_ ?_); (exact rfl); (exact rfl); (exact rfl); (exact (by decide)); (simp [Act.eval]); (exact own_empty (size := 1) (Nat.le_succ _) (alloc2_new wr (.cells #[] 28) (.cells #[] 9))); (simp [Act.eval]); (exact HKW.out _ (below_drewn (((Below.refl wr.heap.size wr).alloc (Nat.le_refl _) _).alloc (by simp) _))); ((unfold maxLen; omega)); (omega); (exact Below.size (below_drewn (((Below.refl wr.heap.size wr).alloc (Nat.le_refl _) _).alloc (by simp) _))); intro gK capK wK hown hgrow hat; have hbb : Below wr.heap.size wr wK := Below.grown (below_drewn (((Below.refl wr.heap.size wr).alloc (Nat.le_refl _) _).alloc (by simp) _)) hgrow (Below.size (below_drewn (((Below.refl wr.heap.size wr).alloc (Nat.le_refl _) _).alloc (by simp) _))) (fun k hk => (World.ownsRow.lt (e := 9) (size := 1) (own_empty (size := 1) (Nat.le_succ _) (alloc2_new wr (.cells #[] 28) (.cells #[] 9))) k hk).1); have HEL : Hid (wK.heap[wr.heap.size]? = some (.cells #[] 28 (0, 0))) := Lib.hid ((hgrow.block _ (by simp <;> omega) (by simp)).trans ((Below.heap_alloc (wr.alloc (.cells #[] 28)) (.cells #[] 9) _ (by simp)).trans (heap_alloc_new wr (.cells #[] 28)))); have HOK := Lib.hid hown; have HBK := Lib.hid hbb; clear hown hgrow hat hbb)
        | ((with_reducible refine step_append_some ((wr.alloc (.cells #[] 9)).alloc (.cells #[] 28)).drew ?_ (.tmp 17) (.tmp 19) 22 ?_ wr.heap.size 9 j0 _ 1 16 Tryz.underlying22 hj0 jz0 jz1 jz2 ?_ ?_ (wr.heap.size) 0 0 [] ?_ ?_ P A m c (ks.map Value.string) ?_ ?_ HTO.out ?_ ?_ ?_ ?_); (exact rfl); (exact rfl); (exact rfl); (exact (by decide)); (simp [Act.eval]); (exact own_empty (size := 1) (Nat.le_refl _) ((Below.heap_alloc (wr.alloc (.cells #[] 9)) (.cells #[] 28) _ (by simp)).trans (heap_alloc_new wr (.cells #[] 9)))); (simp [Act.eval]); (exact HKW.out _ (below_drewn (((Below.refl wr.heap.size wr).alloc (Nat.le_refl _) _).alloc (by simp) _))); ((unfold maxLen; omega)); (omega); (exact Below.size (below_drewn (((Below.refl wr.heap.size wr).alloc (Nat.le_refl _) _).alloc (by simp) _))); intro gK capK wK hown hgrow hat; have hbb : Below wr.heap.size wr wK := Below.grown (below_drewn (((Below.refl wr.heap.size wr).alloc (Nat.le_refl _) _).alloc (by simp) _)) hgrow (Below.size (below_drewn (((Below.refl wr.heap.size wr).alloc (Nat.le_refl _) _).alloc (by simp) _))) (fun k hk => (World.ownsRow.lt (e := 9) (size := 1) (own_empty (size := 1) (Nat.le_refl _) ((Below.heap_alloc (wr.alloc (.cells #[] 9)) (.cells #[] 28) _ (by simp)).trans (heap_alloc_new wr (.cells #[] 9)))) k hk).1); have HEL : Hid (wK.heap[wr.heap.size + 1]? = some (.cells #[] 28 (0, 0))) := Lib.hid ((hgrow.block _ (by simp <;> omega) (by simp)).trans (alloc2_new wr (.cells #[] 9) (.cells #[] 28))); have HOK := Lib.hid hown; have HBK := Lib.hid hbb; clear hown hgrow hat hbb)
        | ((with_reducible refine step_append_some (wL.alloc (.cells #[] 9)) ?_ (.tmp 17) (.tmp 19) 22 ?_ wr.heap.size 9 j0 _ 1 16 Tryz.underlying22 hj0 jz0 jz1 jz2 ?_ ?_ (wL.heap.size) 0 0 [] ?_ ?_ P A m c (ks.map Value.string) ?_ ?_ HTO.out ?_ ?_ ?_ ?_); (exact rfl); (exact rfl); (exact rfl); (exact (by decide)); (simp [Act.eval]); (exact own_empty (size := 1) HBL.out.size (heap_alloc_new wL (.cells #[] 9))); (simp [Act.eval]); (exact HKW.out _ (HBL.out.alloc HBL.out.size _)); ((unfold maxLen; omega)); (omega); (exact Below.size (HBL.out.alloc HBL.out.size _)); intro gK capK wK hown hgrow hat; have hbb : Below wr.heap.size wr wK := Below.grown (HBL.out.alloc HBL.out.size _) hgrow (Below.size (HBL.out.alloc HBL.out.size _)) (fun k hk => (World.ownsRow.lt (e := 9) (size := 1) (own_empty (size := 1) HBL.out.size (heap_alloc_new wL (.cells #[] 9))) k hk).1); have HO2L := Lib.hid ((HOL.out.alloc _).kept hgrow (own_type_ne (HOL.out.alloc _) (own_empty (size := 1) HBL.out.size (heap_alloc_new wL (.cells #[] 9))) (by decide))); have HOK := Lib.hid hown; have HBK := Lib.hid hbb; clear hown hgrow hat hbb)
        | ((with_reducible refine step_append_some wL ?_ (.tmp 17) (.tmp 19) 22 ?_ wr.heap.size 9 j0 _ 1 16 Tryz.underlying22 hj0 jz0 jz1 jz2 ?_ ?_ (wr.heap.size + 1) 0 0 [] ?_ ?_ P A m c (ks.map Value.string) ?_ ?_ HTO.out ?_ ?_ ?_ ?_); (exact rfl); (exact rfl); (exact rfl); (exact (by decide)); (simp [Act.eval]); (exact own_empty (size := 1) (Nat.le_succ _) HEK.out); (simp [Act.eval]); (exact HKW.out _ (HBL.out)); ((unfold maxLen; omega)); (omega); (exact Below.size (HBL.out)); intro gK capK wK hown hgrow hat; have hbb : Below wr.heap.size wr wK := Below.grown (HBL.out) hgrow (Below.size (HBL.out)) (fun k hk => (World.ownsRow.lt (e := 9) (size := 1) (own_empty (size := 1) (Nat.le_succ _) HEK.out) k hk).1); have HO2L := Lib.hid (HOL.out.kept hgrow (own_type_ne HOL.out (own_empty (size := 1) (Nat.le_succ _) HEK.out) (by decide))); have HOK := Lib.hid hown; have HBK := Lib.hid hbb; clear hown hgrow hat hbb)
        | ((with_reducible refine step_append_some wL ?_ (.tmp 17) (.tmp 19) 22 ?_ wr.heap.size 9 j0 _ 1 16 Tryz.underlying22 hj0 jz0 jz1 jz2 ?_ ?_ (wr.heap.size) 0 0 [] ?_ ?_ P A m c (ks.map Value.string) ?_ ?_ HTO.out ?_ ?_ ?_ ?_); (exact rfl); (exact rfl); (exact rfl); (exact (by decide)); (simp [Act.eval]); (exact own_empty (size := 1) (Nat.le_refl _) HEK.out); (simp [Act.eval]); (exact HKW.out _ (HBL.out)); ((unfold maxLen; omega)); (omega); (exact Below.size (HBL.out)); intro gK capK wK hown hgrow hat; have hbb : Below wr.heap.size wr wK := Below.grown (HBL.out) hgrow (Below.size (HBL.out)) (fun k hk => (World.ownsRow.lt (e := 9) (size := 1) (own_empty (size := 1) (Nat.le_refl _) HEK.out) k hk).1); have HO2L := Lib.hid (HOL.out.kept hgrow (own_type_ne HOL.out (own_empty (size := 1) (Nat.le_refl _) HEK.out) (by decide))); have HOK := Lib.hid hown; have HBK := Lib.hid hbb; clear hown hgrow hat hbb)
        | ((with_reducible refine step_append_some (wr.alloc (.cells #[] 28)).drew ?_ (.tmp 21) (.tmp 23) 23 ?_ wr.heap.size 28 i0 _ 6 88 Tryz.underlying23 hi0 hz0 hz1 hz2 ?_ ?_ (wr.heap.size) 0 0 [] ?_ ?_ P A' m c' xs ?_ ?_ HXO.out ?_ ?_ ?_ ?_); (exact rfl); (exact rfl); (exact rfl); (exact (by decide)); (simp [Act.eval]); (exact own_empty (size := 6) (Nat.le_refl _) (heap_alloc_new wr (.cells #[] 28))); (simp [Act.eval]); (exact HLW.out _ (below_drewn ((Below.refl wr.heap.size wr).alloc (Nat.le_refl _) _))); ((unfold maxLen; omega)); (omega); (exact Below.size (below_drewn ((Below.refl wr.heap.size wr).alloc (Nat.le_refl _) _))); intro gL capL wL hown hgrow hat; have hbb : Below wr.heap.size wr wL := Below.grown (below_drewn ((Below.refl wr.heap.size wr).alloc (Nat.le_refl _) _)) hgrow (Below.size (below_drewn ((Below.refl wr.heap.size wr).alloc (Nat.le_refl _) _))) (fun k hk => (World.ownsRow.lt (e := 28) (size := 6) (own_empty (size := 6) (Nat.le_refl _) (heap_alloc_new wr (.cells #[] 28))) k hk).1); have HOL := Lib.hid hown; have HBL := Lib.hid hbb; clear hown hgrow hat hbb)
        | ((with_reducible refine step_append_some ((wr.alloc (.cells #[] 9)).alloc (.cells #[] 28)).drew ?_ (.tmp 21) (.tmp 23) 23 ?_ wr.heap.size 28 i0 _ 6 88 Tryz.underlying23 hi0 hz0 hz1 hz2 ?_ ?_ (wr.heap.size + 1) 0 0 [] ?_ ?_ P A' m c' xs ?_ ?_ HXO.out ?_ ?_ ?_ ?_); (exact rfl); (exact rfl); (exact rfl); (exact (by decide)); (simp [Act.eval]); (exact own_empty (size := 6) (Nat.le_succ _) (alloc2_new wr (.cells #[] 9) (.cells #[] 28))); (simp [Act.eval]); (exact HLW.out _ (below_drewn (((Below.refl wr.heap.size wr).alloc (Nat.le_refl _) _).alloc (by simp) _))); ((unfold maxLen; omega)); (omega); (exact Below.size (below_drewn (((Below.refl wr.heap.size wr).alloc (Nat.le_refl _) _).alloc (by simp) _))); intro gL capL wL hown hgrow hat; have hbb : Below wr.heap.size wr wL := Below.grown (below_drewn (((Below.refl wr.heap.size wr).alloc (Nat.le_refl _) _).alloc (by simp) _)) hgrow (Below.size (below_drewn (((Below.refl wr.heap.size wr).alloc (Nat.le_refl _) _).alloc (by simp) _))) (fun k hk => (World.ownsRow.lt (e := 28) (size := 6) (own_empty (size := 6) (Nat.le_succ _) (alloc2_new wr (.cells #[] 9) (.cells #[] 28))) k hk).1); have HEK : Hid (wL.heap[wr.heap.size]? = some (.cells #[] 9 (0, 0))) := Lib.hid ((hgrow.block _ (by simp <;> omega) (by simp)).trans ((Below.heap_alloc (wr.alloc (.cells #[] 9)) (.cells #[] 28) _ (by simp)).trans (heap_alloc_new wr (.cells #[] 9)))); have HOL := Lib.hid hown; have HBL := Lib.hid hbb; clear hown hgrow hat hbb)
        | ((with_reducible refine step_append_some ((wr.alloc (.cells #[] 28)).alloc (.cells #[] 9)).drew ?_ (.tmp 21) (.tmp 23) 23 ?_ wr.heap.size 28 i0 _ 6 88 Tryz.underlying23 hi0 hz0 hz1 hz2 ?_ ?_ (wr.heap.size) 0 0 [] ?_ ?_ P A' m c' xs ?_ ?_ HXO.out ?_ ?_ ?_ ?_); (exact rfl); (exact rfl); (exact rfl); (exact (by decide)); (simp [Act.eval]); (exact own_empty (size := 6) (Nat.le_refl _) ((Below.heap_alloc (wr.alloc (.cells #[] 28)) (.cells #[] 9) _ (by simp)).trans (heap_alloc_new wr (.cells #[] 28)))); (simp [Act.eval]); (exact HLW.out _ (below_drewn (((Below.refl wr.heap.size wr).alloc (Nat.le_refl _) _).alloc (by simp) _))); ((unfold maxLen; omega)); (omega); (exact Below.size (below_drewn (((Below.refl wr.heap.size wr).alloc (Nat.le_refl _) _).alloc (by simp) _))); intro gL capL wL hown hgrow hat; have hbb : Below wr.heap.size wr wL := Below.grown (below_drewn (((Below.refl wr.heap.size wr).alloc (Nat.le_refl _) _).alloc (by simp) _)) hgrow (Below.size (below_drewn (((Below.refl wr.heap.size wr).alloc (Nat.le_refl _) _).alloc (by simp) _))) (fun k hk => (World.ownsRow.lt (e := 28) (size := 6) (own_empty (size := 6) (Nat.le_refl _) ((Below.heap_alloc (wr.alloc (.cells #[] 28)) (.cells #[] 9) _ (by simp)).trans (heap_alloc_new wr (.cells #[] 28)))) k hk).1); have HEK : Hid (wL.heap[wr.heap.size + 1]? = some (.cells #[] 9 (0, 0))) := Lib.hid ((hgrow.block _ (by simp <;> omega) (by simp)).trans (alloc2_new wr (.cells #[] 28) (.cells #[] 9))); have HOL := Lib.hid hown; have HBL := Lib.hid hbb; clear hown hgrow hat hbb)
        | ((with_reducible refine step_append_some (wK.alloc (.cells #[] 28)) ?_ (.tmp 21) (.tmp 23) 23 ?_ wr.heap.size 28 i0 _ 6 88 Tryz.underlying23 hi0 hz0 hz1 hz2 ?_ ?_ (wK.heap.size) 0 0 [] ?_ ?_ P A' m c' xs ?_ ?_ HXO.out ?_ ?_ ?_ ?_); (exact rfl); (exact rfl); (exact rfl); (exact (by decide)); (simp [Act.eval]); (exact own_empty (size := 6) HBK.out.size (heap_alloc_new wK (.cells #[] 28))); (simp [Act.eval]); (exact HLW.out _ (HBK.out.alloc HBK.out.size _)); ((unfold maxLen; omega)); (omega); (exact Below.size (HBK.out.alloc HBK.out.size _)); intro gL capL wL hown hgrow hat; have hbb : Below wr.heap.size wr wL := Below.grown (HBK.out.alloc HBK.out.size _) hgrow (Below.size (HBK.out.alloc HBK.out.size _)) (fun k hk => (World.ownsRow.lt (e := 28) (size := 6) (own_empty (size := 6) HBK.out.size (heap_alloc_new wK (.cells #[] 28))) k hk).1); have HO2K := Lib.hid ((HOK.out.alloc _).kept hgrow (own_type_ne (HOK.out.alloc _) (own_empty (size := 6) HBK.out.size (heap_alloc_new wK (.cells #[] 28))) (by decide))); have HOL := Lib.hid hown; have HBL := Lib.hid hbb; clear hown hgrow hat hbb)
        | ((with_reducible refine step_append_some wK ?_ (.tmp 21) (.tmp 23) 23 ?_ wr.heap.size 28 i0 _ 6 88 Tryz.underlying23 hi0 hz0 hz1 hz2 ?_ ?_ (wr.heap.size + 1) 0 0 [] ?_ ?_ P A' m c' xs ?_ ?_ HXO.out ?_ ?_ ?_ ?_); (exact rfl); (exact rfl); (exact rfl); (exact (by decide)); (simp [Act.eval]); (exact own_empty (size := 6) (Nat.le_succ _) HEL.out); (simp [Act.eval]); (exact HLW.out _ (HBK.out)); ((unfold maxLen; omega)); (omega); (exact Below.size (HBK.out)); intro gL capL wL hown hgrow hat; have hbb : Below wr.heap.size wr wL := Below.grown (HBK.out) hgrow (Below.size (HBK.out)) (fun k hk => (World.ownsRow.lt (e := 28) (size := 6) (own_empty (size := 6) (Nat.le_succ _) HEL.out) k hk).1); have HO2K := Lib.hid (HOK.out.kept hgrow (own_type_ne HOK.out (own_empty (size := 6) (Nat.le_succ _) HEL.out) (by decide))); have HOL := Lib.hid hown; have HBL := Lib.hid hbb; clear hown hgrow hat hbb)
        | ((with_reducible refine step_append_some wK ?_ (.tmp 21) (.tmp 23) 23 ?_ wr.heap.size 28 i0 _ 6 88 Tryz.underlying23 hi0 hz0 hz1 hz2 ?_ ?_ (wr.heap.size) 0 0 [] ?_ ?_ P A' m c' xs ?_ ?_ HXO.out ?_ ?_ ?_ ?_); (exact rfl); (exact rfl); (exact rfl); (exact (by decide)); (simp [Act.eval]); (exact own_empty (size := 6) (Nat.le_refl _) HEL.out); (simp [Act.eval]); (exact HLW.out _ (HBK.out)); ((unfold maxLen; omega)); (omega); (exact Below.size (HBK.out)); intro gL capL wL hown hgrow hat; have hbb : Below wr.heap.size wr wL := Below.grown (HBK.out) hgrow (Below.size (HBK.out)) (fun k hk => (World.ownsRow.lt (e := 28) (size := 6) (own_empty (size := 6) (Nat.le_refl _) HEL.out) k hk).1); have HO2K := Lib.hid (HOK.out.kept hgrow (own_type_ne HOK.out (own_empty (size := 6) (Nat.le_refl _) HEL.out) (by decide))); have HOL := Lib.hid hown; have HBL := Lib.hid hbb; clear hown hgrow hat hbb))
    all_goals
      go_wp2_with fail
      go_meet
      first
        | exact ⟨gK, gL, capK, capL, rfl, rfl, Lib.hid (by simpa using HO2K.out), Lib.hid (by simpa using HOL.out), HBL⟩
        | exact ⟨gK, gL, capK, capL, rfl, rfl, Lib.hid (by simpa using HOK.out), Lib.hid (by simpa using HO2L.out), HBK⟩
  case rest =>
    obtain ⟨g, g', cap, cap', rfl, rfl, HOK, HOL, HBC⟩ := hcut
    cases is with
    | true =>
      obtain ⟨hi', his⟩ := isD_mem HA.out.2.symm
      have ham : a < m := by rw [HA.out.1, ← HM.out.2.1]; exact hi'
      have hbb : Below w.heap.size w wc := HBR.out.trans (HBC.out.mono HBR.out.size)
      obtain ⟨e0, e1, e2, e3, e4, e5⟩ := (HBX.out.2.1.below HBC.out).cells
      obtain ⟨⟨y0, k0⟩, f0⟩ := own_cell HOL.out (j := a * 6) (by omega)
      obtain ⟨⟨y1, k1⟩, f1⟩ := own_cell HOL.out (j := a * 6 + 1) (by omega)
      obtain ⟨⟨y2, k2⟩, f2⟩ := own_cell HOL.out (j := a * 6 + 2) (by omega)
      obtain ⟨⟨y3, k3⟩, f3⟩ := own_cell HOL.out (j := a * 6 + 3) (by omega)
      obtain ⟨⟨y4, k4⟩, f4⟩ := own_cell HOL.out (j := a * 6 + 4) (by omega)
      obtain ⟨⟨y5, k5⟩, f5⟩ := own_cell HOL.out (j := a * 6 + 5) (by omega)
      have ha0 : (0 : Int) ≤ (a : Int) := by omega
      have ha1 : (a : Int) < (m : Int) := by omega
      have HBB := Lib.hid hbb
      clear hi' his hbb
      go_upto_region 5 with fail
      obtain ⟨w2, hw2⟩ : ∃ w2, w2 = (((((wc.setCell ⟨g', a * 6, none⟩ (.int .i64 u.k)).setCell ⟨g', a * 6 + 1, none⟩ (.int .i64 u.n)).setCell ⟨g', a * 6 + 2, none⟩ (.float .f64 u.r)).setCell ⟨g', a * 6 + 3, none⟩ (.string u.t)).setCell ⟨g', a * 6 + 4, none⟩ (.slice Ku u.ks.length cu)).setCell ⟨g', a * 6 + 5, none⟩ (.slice Lu u.l.length du) := ⟨_, rfl⟩
      rw [← hw2]
      obtain ⟨o1, o2, o3⟩ := own_set6 HOL.out ham _ _ _ _ _ _ hw2
      have hg' := (HOL.out.lt g' rfl).1
      have hs := HSZ.out
      have hne : g ≠ g' := by
        rcases own_type_ne HOK.out HOL.out (by decide) with h | h
        · cases h
        · intro e; exact h (by rw [e]; rfl)
      have HB2 : Hid (Below w.heap.size w w2) := Lib.hid (HBB.out.trans (o3.mono (by omega)))
      have HR2 : Hid (Box6 w2 (w.heap.size + 2) (.int .i64 0) (.int .i64 0) (.float .f64 0) (.string ⟨#[]⟩) (.slice none 0 0) (.slice none 0 0)) := Lib.hid ((o2 _ (by omega)).trans (HBX.out.2.2.below HBC.out))
      have HKR : Hid (RowIs w2 (fun b => wr.heap.size ≤ b) 1 (.slice (some ⟨g, 0, none⟩) m cap) m (ks.map Value.string)) := Lib.hid (by
        have h := RowIs.of_own (P := fun b => wr.heap.size ≤ b ∧ b ≠ g') HOK.out (fun b hb => ⟨(HOK.out.lt b hb).1, by
          have hb' : g = b := by simpa [Value.ownBlock] using hb
          rw [← hb']; exact hne⟩)
        exact h.keep (by omega) (fun b hb _ => ⟨hb.1, o2 b hb.2⟩))
      have HLR : Hid (RowIs w2 (fun b => wr.heap.size ≤ b) 6 (.slice (some ⟨g', 0, none⟩) m cap') m (set6L xs a (.int .i64 u.k) (.int .i64 u.n) (.float .f64 u.r) (.string u.t) (.slice Ku u.ks.length cu) (.slice Lu u.l.length du))) := Lib.hid (RowIs.of_own o1 (fun b hb => (o1.lt b hb).1))
      have HVS : Hid (IsVs w (fun _ => True) (putL ks l s u) (set6L xs a (.int .i64 u.k) (.int .i64 u.n) (.float .f64 u.r) (.string u.t) (.slice Ku u.ks.length cu) (.slice Lu u.l.length du))) := Lib.hid (by
        unfold putL
        rw [if_pos HA.out.2.symm, ← HA.out.1]
        exact (IsVs.keep (Kept.mono fun _ _ _ => trivial) _ HV.out).set6 (by rw [← HM.out.1]; exact ham) (IsV.keep (Kept.mono fun _ _ _ => trivial) _ HI.out))
      have HKS : Hid (putK ks s = ks) := Lib.hid (by unfold putK; rw [if_pos HA.out.2.symm])
      clear o1 o2 o3 hg' hs hne hw2 e0 e1 e2 e3 e4 e5 k0 k1 k2 k3 k4 k5 f0 f1 f2 f3 f4 f5
      obtain ⟨d0, d1, d2, d3, d4, d5⟩ := HR2.out.cells
      have fz : ∀ j, w2.frozen? ⟨w.heap.size + 2, j, none⟩ = false := fun j => by have h := HR2.out; unfold Box6 at h; simp [World.frozen?, h]
      go_wp2_with fail
      obtain ⟨w5, hw5⟩ : ∃ w5, w5 = (((((w2.setCell ⟨w.heap.size + 2, 0, none⟩ (.int .i64 7)).setCell ⟨w.heap.size + 2, 1, none⟩ (.int .i64 0)).setCell ⟨w.heap.size + 2, 2, none⟩ (.float .f64 0)).setCell ⟨w.heap.size + 2, 3, none⟩ (.string ⟨#[]⟩)).setCell ⟨w.heap.size + 2, 4, none⟩ (.slice (some ⟨g, 0, none⟩) m cap)).setCell ⟨w.heap.size + 2, 5, none⟩ (.slice (some ⟨g', 0, none⟩) m cap') := ⟨_, rfl⟩
      rw [← hw5]
      obtain ⟨hb2, ho2, hl2⟩ := set6 HR2.out _ _ _ _ _ _ hw5
      have e0 : w5.cell? ⟨w.heap.size + 2, 0, none⟩ = some (.int .i64 7) := by rw [blk_cell hb2]; rfl
      have e1 : w5.cell? ⟨w.heap.size + 2, 1, none⟩ = some (.int .i64 0) := by rw [blk_cell hb2]; rfl
      have e2 : w5.cell? ⟨w.heap.size + 2, 2, none⟩ = some (.float .f64 0) := by rw [blk_cell hb2]; rfl
      have e3 : w5.cell? ⟨w.heap.size + 2, 3, none⟩ = some (.string ⟨#[]⟩) := by rw [blk_cell hb2]; rfl
      have e4 : w5.cell? ⟨w.heap.size + 2, 4, none⟩ = some (.slice (some ⟨g, 0, none⟩) m cap) := by rw [blk_cell hb2]; rfl
      have e5 : w5.cell? ⟨w.heap.size + 2, 5, none⟩ = some (.slice (some ⟨g', 0, none⟩) m cap') := by rw [blk_cell hb2]; rfl
      refine bodyPost_ret (v := .agg #[.int .i64 7, .int .i64 0, .float .f64 0, .string ⟨#[]⟩, .slice (some ⟨g, 0, none⟩) m cap, .slice (some ⟨g', 0, none⟩) m cap']) (by simp [results, Tryz.results6, go_sem, e0, e1, e2, e3, e4, e5]) rfl ?_
      have hsz := HSZ.out
      have hb5 : Below w.heap.size w w5 := HB2.out.trans (hl2.mono (by omega))
      have kk : Kept w2 w5 (fun b => wr.heap.size ≤ b) (fun _ => True) := fun b hb _ => ⟨trivial, ho2 b (by have hb' : wr.heap.size ≤ b := hb; omega)⟩
      refine ⟨_, _, rfl, Lib.hid ?_, Lib.hid hb5⟩
      unfold IsV
      refine ⟨_, _, set6L xs a (.int .i64 u.k) (.int .i64 u.n) (.float .f64 u.r) (.string u.t) (.slice Ku u.ks.length cu) (.slice Lu u.l.length du), rfl, i64_small (by omega) (by omega), i64_small (by omega) (by omega), (by show 0 ≤ maxLen; omega), ?_, ?_, ?_, IsVs.keep ((Kept.below hb5).trans (Kept.mono fun _ _ _ => trivial)) _ HVS.out⟩
      · exact putK_all HKZ.out.1 HKZ.out.2
      · have h := HKR.out.keep (by omega) kk
        rw [HKS.out, HM.out.2.1]; exact h
      · have h := HLR.out.keep (by omega) kk
        have e : (putL ks l s u).length = m := by unfold putL; rw [if_pos HA.out.2.symm, List.length_set, ← HM.out.1]
        rw [e]; exact h
    | false =>
      obtain ⟨wb, hwb⟩ : ∃ wb, wb = wc := ⟨_, rfl⟩
      subst hwb
      have hkb : RowIs wb (fun _ => True) 1 (.slice (some ⟨g, 0, none⟩) m cap) m (ks.map Value.string) := RowIs.of_own HOK.out (fun _ _ => trivial)
      have hlb : RowIs wb (fun _ => True) 6 (.slice (some ⟨g', 0, none⟩) m cap') m xs := RowIs.of_own HOL.out (fun _ _ => trivial)
      obtain ⟨hmc, hcb⟩ := hkb.sizes
      obtain ⟨hmc', hcb'⟩ := hlb.sizes
      unfold maxLen at hcb hcb'
      have HS1 : Hid (∀ W, Below wb.heap.size wb W → RowIs W (fun _ => True) 1 (.slice (some ⟨g, 0, none⟩) a cap) a ((ks.map Value.string).take a)) := Lib.hid fun W hW => (show RowIs wb _ 1 _ a ((ks.map Value.string).take a) by have h := hkb.pre hal; rw [Nat.mul_one] at h; exact h).keep (by omega) (Kept.below hW)
      have HS3 : Hid (∀ W, Below wb.heap.size wb W → RowIs W (fun _ => True) 1 (.slice (if cap = a then some ⟨g, 0, none⟩ else some ⟨g, a, none⟩) (m - a) (cap - a)) (m - a) ((ks.map Value.string).drop a)) := Lib.hid fun W hW => (show RowIs wb _ 1 (.slice (if cap = a then some ⟨g, 0, none⟩ else some ⟨g, a, none⟩) (m - a) (cap - a)) _ ((ks.map Value.string).drop a) by have h := hkb.post hal; rw [Nat.mul_one] at h; exact h).keep (by omega) (Kept.below hW)
      have HN1 : Hid (∀ u ∈ (ks.map Value.string).take a, u.oneCell' = true) := Lib.hid fun u hu => HTO.out u (List.mem_of_mem_take hu)
      have HN3 : Hid (∀ u ∈ (ks.map Value.string).drop a, u.oneCell' = true) := Lib.hid fun u hu => HTO.out u (List.mem_of_mem_drop hu)
      have HN2 : Hid (∀ u ∈ ([.string s] : List Value), u.oneCell' = true) := Lib.hid (one_mem rfl)
      have ha0 : (0 : Int) ≤ (a : Int) := by omega
      have ha1 : (a : Int) ≤ (m : Int) := by omega
      have ha2 : (m : Int) ≤ (cap : Int) := by omega
      have ha3 : (a : Int) ≤ (cap : Int) := by omega
      clear hkb hlb
      have HKS : Hid (putK ks s = ks.take a ++ s :: ks.drop a) := Lib.hid (by unfold putK; rw [if_neg (by rw [← HA.out.2]; simp), ← HA.out.1])
      have HLS : Hid (putL ks l s u = l.take a ++ u :: l.drop a) := Lib.hid (by unfold putL; rw [if_neg (by rw [← HA.out.2]; simp), ← HA.out.1])
      go_upto_region 6 with fail
      go_cut [9] (fun s9 wx => ∃ h hc : Nat, s9 = .slice (some ⟨h, 0, none⟩) (m + 1) hc ∧ Hid (wx.ownsRow wb.heap.size 9 1 (.slice (some ⟨h, 0, none⟩) (m + 1) hc) (m + 1) ((putK ks s).map Value.string)) ∧ Hid (Below wb.heap.size wb wx))
      case first =>
        go_region_held3 (fun _ => True) (exact trivial)
          (first
            | ((with_reducible refine step_append_some (wb.alloc (.cells #[] 9)).drew ?_ (.tmp 33) (.tmp 36) 22 ?_ wb.heap.size 9 j0 _ 1 16 Tryz.underlying22 hj0 jz0 jz1 jz2 ?_ ?_ (wb.heap.size) 0 0 ([]) ?_ ?_ (fun _ => True) (some ⟨g, 0, none⟩) (a) (cap) ((ks.map Value.string).take (a)) ?_ ?_ HN1.out ?_ ?_ ?_ ?_); (exact rfl); (exact rfl); (exact rfl); (exact (by decide)); (simp [Act.eval]); (exact own_empty (size := 1) (Nat.le_refl _) (heap_alloc_new wb (.cells #[] 9))); (simp [Act.eval]); (exact HS1.out _ (below_drewn ((Below.refl wb.heap.size wb).alloc (Nat.le_refl _) _))); ((unfold maxLen; omega)); (omega); (exact Below.size (below_drewn ((Below.refl wb.heap.size wb).alloc (Nat.le_refl _) _))); intro gU capU wU hown hgrow hat; have hbb : Below wb.heap.size wb wU := Below.grown (below_drewn ((Below.refl wb.heap.size wb).alloc (Nat.le_refl _) _)) hgrow (Below.size (below_drewn ((Below.refl wb.heap.size wb).alloc (Nat.le_refl _) _))) (fun k hk => (World.ownsRow.lt (e := 9) (size := 1) (own_empty (size := 1) (Nat.le_refl _) (heap_alloc_new wb (.cells #[] 9))) k hk).1); have HOU := Lib.hid hown; have HBU := Lib.hid hbb; clear hown hgrow hat hbb)
            | ((with_reducible refine step_append_some ((wb.alloc (.cells #[.string s] 9)).alloc (.cells #[] 9)).drew ?_ (.tmp 33) (.tmp 36) 22 ?_ wb.heap.size 9 j0 _ 1 16 Tryz.underlying22 hj0 jz0 jz1 jz2 ?_ ?_ (wb.heap.size + 1) 0 0 ([]) ?_ ?_ (fun _ => True) (some ⟨g, 0, none⟩) (a) (cap) ((ks.map Value.string).take (a)) ?_ ?_ HN1.out ?_ ?_ ?_ ?_); (exact rfl); (exact rfl); (exact rfl); (exact (by decide)); (simp [Act.eval]); (exact own_empty (size := 1) (Nat.le_succ _) (alloc2_new wb (.cells #[.string s] 9) (.cells #[] 9))); (simp [Act.eval]); (exact HS1.out _ (below_drewn (((Below.refl wb.heap.size wb).alloc (Nat.le_refl _) _).alloc (by simp) _))); ((unfold maxLen; omega)); (omega); (exact Below.size (below_drewn (((Below.refl wb.heap.size wb).alloc (Nat.le_refl _) _).alloc (by simp) _))); intro gU capU wU hown hgrow hat; have hbb : Below wb.heap.size wb wU := Below.grown (below_drewn (((Below.refl wb.heap.size wb).alloc (Nat.le_refl _) _).alloc (by simp) _)) hgrow (Below.size (below_drewn (((Below.refl wb.heap.size wb).alloc (Nat.le_refl _) _).alloc (by simp) _))) (fun k hk => (World.ownsRow.lt (e := 9) (size := 1) (own_empty (size := 1) (Nat.le_succ _) (alloc2_new wb (.cells #[.string s] 9) (.cells #[] 9))) k hk).1); have HEX : Hid (wU.heap[wb.heap.size]? = some (Obj.cells #[.string s] 9 (0, 0))) := Lib.hid ((hgrow.block _ (by simp <;> omega) (by simp)).trans ((Below.heap_alloc (wb.alloc (.cells #[.string s] 9)) (.cells #[] 9) _ (by simp)).trans (heap_alloc_new wb (.cells #[.string s] 9)))); have HOU := Lib.hid hown; have HBU := Lib.hid hbb; clear hown hgrow hat hbb)
            | ((with_reducible refine step_append_some ((wb.alloc (.cells #[] 9)).alloc (.cells #[.string s] 9)).drew ?_ (.tmp 33) (.tmp 36) 22 ?_ wb.heap.size 9 j0 _ 1 16 Tryz.underlying22 hj0 jz0 jz1 jz2 ?_ ?_ (wb.heap.size) 0 0 ([]) ?_ ?_ (fun _ => True) (some ⟨g, 0, none⟩) (a) (cap) ((ks.map Value.string).take (a)) ?_ ?_ HN1.out ?_ ?_ ?_ ?_); (exact rfl); (exact rfl); (exact rfl); (exact (by decide)); (simp [Act.eval]); (exact own_empty (size := 1) (Nat.le_refl _) ((Below.heap_alloc (wb.alloc (.cells #[] 9)) (.cells #[.string s] 9) _ (by simp)).trans (heap_alloc_new wb (.cells #[] 9)))); (simp [Act.eval]); (exact HS1.out _ (below_drewn (((Below.refl wb.heap.size wb).alloc (Nat.le_refl _) _).alloc (by simp) _))); ((unfold maxLen; omega)); (omega); (exact Below.size (below_drewn (((Below.refl wb.heap.size wb).alloc (Nat.le_refl _) _).alloc (by simp) _))); intro gU capU wU hown hgrow hat; have hbb : Below wb.heap.size wb wU := Below.grown (below_drewn (((Below.refl wb.heap.size wb).alloc (Nat.le_refl _) _).alloc (by simp) _)) hgrow (Below.size (below_drewn (((Below.refl wb.heap.size wb).alloc (Nat.le_refl _) _).alloc (by simp) _))) (fun k hk => (World.ownsRow.lt (e := 9) (size := 1) (own_empty (size := 1) (Nat.le_refl _) ((Below.heap_alloc (wb.alloc (.cells #[] 9)) (.cells #[.string s] 9) _ (by simp)).trans (heap_alloc_new wb (.cells #[] 9)))) k hk).1); have HEX : Hid (wU.heap[wb.heap.size + 1]? = some (Obj.cells #[.string s] 9 (0, 0))) := Lib.hid ((hgrow.block _ (by simp <;> omega) (by simp)).trans (alloc2_new wb (.cells #[] 9) (.cells #[.string s] 9))); have HOU := Lib.hid hown; have HBU := Lib.hid hbb; clear hown hgrow hat hbb)
            | ((with_reducible refine step_append_some (wU.alloc (.cells #[.string s] 9)) ?_ (.tmp 37) (.tmp 39) 22 ?_ wb.heap.size 9 j0 _ 1 16 Tryz.underlying22 hj0 jz0 jz1 jz2 ?_ ?_ (gU) a capU ((ks.map Value.string).take (a)) ?_ ?_ (fun _ => True) (some ⟨wU.heap.size, 0, none⟩) (1) (1) ([.string s]) ?_ ?_ HN2.out ?_ ?_ ?_ ?_); (exact rfl); (exact rfl); (exact rfl); (exact (by decide)); (simp [Act.eval]); (exact (show World.ownsRow (wU.alloc (.cells #[.string s] 9)) wb.heap.size 9 1 (.slice (some ⟨gU, 0, none⟩) a capU) a ((ks.map Value.string).take (a)) from (by simpa using HOU.out.alloc (.cells #[.string s] 9)))); (simp [Act.eval]); (exact row_box (heap_alloc_new wU (.cells #[.string s] 9)) rfl); ((unfold maxLen; omega)); (omega); (exact Below.size (HBU.out.alloc HBU.out.size _)); intro gV capV wV hown hgrow hat; have hbb : Below wb.heap.size wb wV := Below.grown (HBU.out.alloc HBU.out.size _) hgrow (Below.size (HBU.out.alloc HBU.out.size _)) (fun k hk => (World.ownsRow.lt (e := 9) (size := 1) ((show World.ownsRow (wU.alloc (.cells #[.string s] 9)) wb.heap.size 9 1 (.slice (some ⟨gU, 0, none⟩) a capU) a ((ks.map Value.string).take (a)) from (by simpa using HOU.out.alloc (.cells #[.string s] 9)))) k hk).1); have HOV := Lib.hid hown; have HBV := Lib.hid hbb; clear hown hgrow hat hbb)
            | ((with_reducible refine step_append_some wU ?_ (.tmp 37) (.tmp 39) 22 ?_ wb.heap.size 9 j0 _ 1 16 Tryz.underlying22 hj0 jz0 jz1 jz2 ?_ ?_ (gU) a capU ((ks.map Value.string).take (a)) ?_ ?_ (fun _ => True) (some ⟨wb.heap.size, 0, none⟩) (1) (1) ([.string s]) ?_ ?_ HN2.out ?_ ?_ ?_ ?_); (exact rfl); (exact rfl); (exact rfl); (exact (by decide)); (simp [Act.eval]); (exact (show World.ownsRow wU wb.heap.size 9 1 (.slice (some ⟨gU, 0, none⟩) a capU) a ((ks.map Value.string).take (a)) from (by simpa using HOU.out))); (simp [Act.eval]); (exact row_box HEX.out rfl); ((unfold maxLen; omega)); (omega); (exact Below.size (HBU.out)); intro gV capV wV hown hgrow hat; have hbb : Below wb.heap.size wb wV := Below.grown (HBU.out) hgrow (Below.size (HBU.out)) (fun k hk => (World.ownsRow.lt (e := 9) (size := 1) ((show World.ownsRow wU wb.heap.size 9 1 (.slice (some ⟨gU, 0, none⟩) a capU) a ((ks.map Value.string).take (a)) from (by simpa using HOU.out))) k hk).1); have HOV := Lib.hid hown; have HBV := Lib.hid hbb; clear hown hgrow hat hbb)
            | ((with_reducible refine step_append_some wU ?_ (.tmp 37) (.tmp 39) 22 ?_ wb.heap.size 9 j0 _ 1 16 Tryz.underlying22 hj0 jz0 jz1 jz2 ?_ ?_ (gU) a capU ((ks.map Value.string).take (a)) ?_ ?_ (fun _ => True) (some ⟨wb.heap.size + 1, 0, none⟩) (1) (1) ([.string s]) ?_ ?_ HN2.out ?_ ?_ ?_ ?_); (exact rfl); (exact rfl); (exact rfl); (exact (by decide)); (simp [Act.eval]); (exact (show World.ownsRow wU wb.heap.size 9 1 (.slice (some ⟨gU, 0, none⟩) a capU) a ((ks.map Value.string).take (a)) from (by simpa using HOU.out))); (simp [Act.eval]); (exact row_box HEX.out rfl); ((unfold maxLen; omega)); (omega); (exact Below.size (HBU.out)); intro gV capV wV hown hgrow hat; have hbb : Below wb.heap.size wb wV := Below.grown (HBU.out) hgrow (Below.size (HBU.out)) (fun k hk => (World.ownsRow.lt (e := 9) (size := 1) ((show World.ownsRow wU wb.heap.size 9 1 (.slice (some ⟨gU, 0, none⟩) a capU) a ((ks.map Value.string).take (a)) from (by simpa using HOU.out))) k hk).1); have HOV := Lib.hid hown; have HBV := Lib.hid hbb; clear hown hgrow hat hbb)
            | ((with_reducible refine step_append_some wV ?_ (.tmp 40) (.tmp 43) 22 ?_ wb.heap.size 9 j0 _ 1 16 Tryz.underlying22 hj0 jz0 jz1 jz2 ?_ ?_ (gV) (a + 1) capV ((ks.map Value.string).take (a) ++ [.string s]) ?_ ?_ (fun _ => True) (if cap = a then some ⟨g, 0, none⟩ else some ⟨g, a, none⟩) (m - a) (cap - a) ((ks.map Value.string).drop (a)) ?_ ?_ HN3.out ?_ ?_ ?_ ?_); (exact rfl); (exact rfl); (exact rfl); (exact (by decide)); (simp [Act.eval]); (exact (show World.ownsRow wV wb.heap.size 9 1 (.slice (some ⟨gV, 0, none⟩) (a + 1) capV) (a + 1) ((ks.map Value.string).take (a) ++ [.string s]) from HOV.out)); (simp [Act.eval]); (exact HS3.out _ HBV.out); ((unfold maxLen; omega)); (omega); (exact Below.size (HBV.out)); intro gZ capZ wZ hown hgrow hat; have hbb : Below wb.heap.size wb wZ := Below.grown (HBV.out) hgrow (Below.size (HBV.out)) (fun k hk => (World.ownsRow.lt (e := 9) (size := 1) ((show World.ownsRow wV wb.heap.size 9 1 (.slice (some ⟨gV, 0, none⟩) (a + 1) capV) (a + 1) ((ks.map Value.string).take (a) ++ [.string s]) from HOV.out)) k hk).1); have HOZ := Lib.hid hown; have HBZ := Lib.hid hbb; clear hown hgrow hat hbb))
        all_goals go_wp2_with fail
        all_goals
          go_meet
          have e1 : a + 1 + (m - a) = m + 1 := by omega
          refine ⟨gZ, capZ, by rw [← e1], Lib.hid ?_, HBZ⟩
          have h := HOZ.out
          rw [e1] at h
          rw [HKS.out, List.map_append, List.map_cons, List.map_take, List.map_drop]
          simpa using h
      case rest =>
        obtain ⟨h, hc, rfl, HOH, HBH⟩ := hcut
        obtain ⟨wd, hwd⟩ : ∃ wd, wd = wc := ⟨_, rfl⟩
        subst hwd
        have hbh : Below wr.heap.size wr wd := HBC.out.trans (HBH.out.mono HBC.out.size)
        have hlb : RowIs wd (fun _ => True) 6 (.slice (some ⟨g', 0, none⟩) m cap') m xs := (RowIs.of_own HOL.out (fun _ _ => trivial)).keep (by omega) (Kept.below HBH.out)
        have HS1 : Hid (∀ W, Below wd.heap.size wd W → RowIs W (fun _ => True) 6 (.slice (some ⟨g', 0, none⟩) a cap') a (xs.take (a * 6))) := Lib.hid fun W hW => (hlb.pre hal).keep (by omega) (Kept.below hW)
        have HS3 : Hid (∀ W, Below wd.heap.size wd W → RowIs W (fun _ => True) 6 (.slice (if cap' = a then some ⟨g', 0, none⟩ else some ⟨g', a * 6, none⟩) (m - a) (cap' - a)) (m - a) (xs.drop (a * 6))) := Lib.hid fun W hW => (hlb.post hal).keep (by omega) (Kept.below hW)
        have HN1 : Hid (∀ u ∈ xs.take (a * 6), u.oneCell' = true) := Lib.hid fun u hu => HXO.out u (List.mem_of_mem_take hu)
        have HN3 : Hid (∀ u ∈ xs.drop (a * 6), u.oneCell' = true) := Lib.hid fun u hu => HXO.out u (List.mem_of_mem_drop hu)
        have HN2 : Hid (∀ x ∈ ([.int .i64 u.k, .int .i64 u.n, .float .f64 u.r, .string u.t, .slice Ku u.ks.length cu, .slice Lu u.l.length du] : List Value), x.oneCell' = true) := Lib.hid HI.out.one
        have hbx := HBX.out.2.1.below hbh
        have HS7 : Hid (∀ W, Below wd.heap.size wd W → W.cell? ⟨w.heap.size + 1, 0, none⟩ = some (.int .i64 u.k) ∧ W.cell? ⟨w.heap.size + 1, 1, none⟩ = some (.int .i64 u.n) ∧ W.cell? ⟨w.heap.size + 1, 2, none⟩ = some (.float .f64 u.r) ∧ W.cell? ⟨w.heap.size + 1, 3, none⟩ = some (.string u.t) ∧ W.cell? ⟨w.heap.size + 1, 4, none⟩ = some (.slice Ku u.ks.length cu) ∧ W.cell? ⟨w.heap.size + 1, 5, none⟩ = some (.slice Lu u.l.length du)) := Lib.hid fun W hW => (hbx.below hW).cells
        have ha4 : (m : Int) ≤ (cap' : Int) := by omega
        have ha5 : (a : Int) ≤ (cap' : Int) := by omega
        have HBH2 := Lib.hid hbh
        clear hbh hlb hbx
        go_upto_region 7 with fail
        go_cut [10] (fun s10 wx => ∃ p pc : Nat, s10 = .slice (some ⟨p, 0, none⟩) (m + 1) pc ∧ Hid (wx.ownsRow wd.heap.size 28 6 (.slice (some ⟨p, 0, none⟩) (m + 1) pc) (m + 1) (xs.take (a * 6) ++ [.int .i64 u.k, .int .i64 u.n, .float .f64 u.r, .string u.t, .slice Ku u.ks.length cu, .slice Lu u.l.length du] ++ xs.drop (a * 6))) ∧ Hid (Below wd.heap.size wd wx))
        case first =>
          go_region_held3 (fun W => W.cell? ⟨w.heap.size + 1, 0, none⟩ = some (.int .i64 u.k) ∧ W.cell? ⟨w.heap.size + 1, 1, none⟩ = some (.int .i64 u.n) ∧ W.cell? ⟨w.heap.size + 1, 2, none⟩ = some (.float .f64 u.r) ∧ W.cell? ⟨w.heap.size + 1, 3, none⟩ = some (.string u.t) ∧ W.cell? ⟨w.heap.size + 1, 4, none⟩ = some (.slice Ku u.ks.length cu) ∧ W.cell? ⟨w.heap.size + 1, 5, none⟩ = some (.slice Lu u.l.length du)) (first | exact HS7.out _ (bdrew wd) | exact HS7.out _ (below_drewn ((Below.refl wd.heap.size wd).alloc (Nat.le_refl _) _)) | exact HS7.out _ (below_drewn (((Below.refl wd.heap.size wd).alloc (Nat.le_refl _) _).alloc (by simp) _)) | exact HS7.out _ HBU.out | exact HS7.out _ (HBU.out.alloc HBU.out.size _) | exact HS7.out _ HBV.out | exact HS7.out _ HBZ.out)
            (first
              | ((with_reducible refine step_append_some (wd.alloc (.cells #[] 28)).drew ?_ (.tmp 45) (.tmp 48) 23 ?_ wd.heap.size 28 i0 _ 6 88 Tryz.underlying23 hi0 hz0 hz1 hz2 ?_ ?_ (wd.heap.size) 0 0 ([]) ?_ ?_ (fun _ => True) (some ⟨g', 0, none⟩) (a) (cap') (xs.take (a * 6)) ?_ ?_ HN1.out ?_ ?_ ?_ ?_); (exact rfl); (exact rfl); (exact rfl); (exact (by decide)); (simp [Act.eval]); (exact own_empty (size := 6) (Nat.le_refl _) (heap_alloc_new wd (.cells #[] 28))); (simp [Act.eval]); (exact HS1.out _ (below_drewn ((Below.refl wd.heap.size wd).alloc (Nat.le_refl _) _))); ((unfold maxLen; omega)); (omega); (exact Below.size (below_drewn ((Below.refl wd.heap.size wd).alloc (Nat.le_refl _) _))); intro gU capU wU hown hgrow hat; have hbb : Below wd.heap.size wd wU := Below.grown (below_drewn ((Below.refl wd.heap.size wd).alloc (Nat.le_refl _) _)) hgrow (Below.size (below_drewn ((Below.refl wd.heap.size wd).alloc (Nat.le_refl _) _))) (fun k hk => (World.ownsRow.lt (e := 28) (size := 6) (own_empty (size := 6) (Nat.le_refl _) (heap_alloc_new wd (.cells #[] 28))) k hk).1); have HOU := Lib.hid hown; have HBU := Lib.hid hbb; clear hown hgrow hat hbb)
              | ((with_reducible refine step_append_some ((wd.alloc (.cells #[.int .i64 u.k, .int .i64 u.n, .float .f64 u.r, .string u.t, .slice Ku u.ks.length cu, .slice Lu u.l.length du] 28)).alloc (.cells #[] 28)).drew ?_ (.tmp 45) (.tmp 48) 23 ?_ wd.heap.size 28 i0 _ 6 88 Tryz.underlying23 hi0 hz0 hz1 hz2 ?_ ?_ (wd.heap.size + 1) 0 0 ([]) ?_ ?_ (fun _ => True) (some ⟨g', 0, none⟩) (a) (cap') (xs.take (a * 6)) ?_ ?_ HN1.out ?_ ?_ ?_ ?_); (exact rfl); (exact rfl); (exact rfl); (exact (by decide)); (simp [Act.eval]); (exact own_empty (size := 6) (Nat.le_succ _) (alloc2_new wd (.cells #[.int .i64 u.k, .int .i64 u.n, .float .f64 u.r, .string u.t, .slice Ku u.ks.length cu, .slice Lu u.l.length du] 28) (.cells #[] 28))); (simp [Act.eval]); (exact HS1.out _ (below_drewn (((Below.refl wd.heap.size wd).alloc (Nat.le_refl _) _).alloc (by simp) _))); ((unfold maxLen; omega)); (omega); (exact Below.size (below_drewn (((Below.refl wd.heap.size wd).alloc (Nat.le_refl _) _).alloc (by simp) _))); intro gU capU wU hown hgrow hat; have hbb : Below wd.heap.size wd wU := Below.grown (below_drewn (((Below.refl wd.heap.size wd).alloc (Nat.le_refl _) _).alloc (by simp) _)) hgrow (Below.size (below_drewn (((Below.refl wd.heap.size wd).alloc (Nat.le_refl _) _).alloc (by simp) _))) (fun k hk => (World.ownsRow.lt (e := 28) (size := 6) (own_empty (size := 6) (Nat.le_succ _) (alloc2_new wd (.cells #[.int .i64 u.k, .int .i64 u.n, .float .f64 u.r, .string u.t, .slice Ku u.ks.length cu, .slice Lu u.l.length du] 28) (.cells #[] 28))) k hk).1); have HEX : Hid (wU.heap[wd.heap.size]? = some (Obj.cells #[.int .i64 u.k, .int .i64 u.n, .float .f64 u.r, .string u.t, .slice Ku u.ks.length cu, .slice Lu u.l.length du] 28 (0, 0))) := Lib.hid ((hgrow.block _ (by simp <;> omega) (by simp)).trans ((Below.heap_alloc (wd.alloc (.cells #[.int .i64 u.k, .int .i64 u.n, .float .f64 u.r, .string u.t, .slice Ku u.ks.length cu, .slice Lu u.l.length du] 28)) (.cells #[] 28) _ (by simp)).trans (heap_alloc_new wd (.cells #[.int .i64 u.k, .int .i64 u.n, .float .f64 u.r, .string u.t, .slice Ku u.ks.length cu, .slice Lu u.l.length du] 28)))); have HOU := Lib.hid hown; have HBU := Lib.hid hbb; clear hown hgrow hat hbb)
              | ((with_reducible refine step_append_some ((wd.alloc (.cells #[] 28)).alloc (.cells #[.int .i64 u.k, .int .i64 u.n, .float .f64 u.r, .string u.t, .slice Ku u.ks.length cu, .slice Lu u.l.length du] 28)).drew ?_ (.tmp 45) (.tmp 48) 23 ?_ wd.heap.size 28 i0 _ 6 88 Tryz.underlying23 hi0 hz0 hz1 hz2 ?_ ?_ (wd.heap.size) 0 0 ([]) ?_ ?_ (fun _ => True) (some ⟨g', 0, none⟩) (a) (cap') (xs.take (a * 6)) ?_ ?_ HN1.out ?_ ?_ ?_ ?_); (exact rfl); (exact rfl); (exact rfl); (exact (by decide)); (simp [Act.eval]); (exact own_empty (size := 6) (Nat.le_refl _) ((Below.heap_alloc (wd.alloc (.cells #[] 28)) (.cells #[.int .i64 u.k, .int .i64 u.n, .float .f64 u.r, .string u.t, .slice Ku u.ks.length cu, .slice Lu u.l.length du] 28) _ (by simp)).trans (heap_alloc_new wd (.cells #[] 28)))); (simp [Act.eval]); (exact HS1.out _ (below_drewn (((Below.refl wd.heap.size wd).alloc (Nat.le_refl _) _).alloc (by simp) _))); ((unfold maxLen; omega)); (omega); (exact Below.size (below_drewn (((Below.refl wd.heap.size wd).alloc (Nat.le_refl _) _).alloc (by simp) _))); intro gU capU wU hown hgrow hat; have hbb : Below wd.heap.size wd wU := Below.grown (below_drewn (((Below.refl wd.heap.size wd).alloc (Nat.le_refl _) _).alloc (by simp) _)) hgrow (Below.size (below_drewn (((Below.refl wd.heap.size wd).alloc (Nat.le_refl _) _).alloc (by simp) _))) (fun k hk => (World.ownsRow.lt (e := 28) (size := 6) (own_empty (size := 6) (Nat.le_refl _) ((Below.heap_alloc (wd.alloc (.cells #[] 28)) (.cells #[.int .i64 u.k, .int .i64 u.n, .float .f64 u.r, .string u.t, .slice Ku u.ks.length cu, .slice Lu u.l.length du] 28) _ (by simp)).trans (heap_alloc_new wd (.cells #[] 28)))) k hk).1); have HEX : Hid (wU.heap[wd.heap.size + 1]? = some (Obj.cells #[.int .i64 u.k, .int .i64 u.n, .float .f64 u.r, .string u.t, .slice Ku u.ks.length cu, .slice Lu u.l.length du] 28 (0, 0))) := Lib.hid ((hgrow.block _ (by simp <;> omega) (by simp)).trans (alloc2_new wd (.cells #[] 28) (.cells #[.int .i64 u.k, .int .i64 u.n, .float .f64 u.r, .string u.t, .slice Ku u.ks.length cu, .slice Lu u.l.length du] 28))); have HOU := Lib.hid hown; have HBU := Lib.hid hbb; clear hown hgrow hat hbb)
              | ((with_reducible refine step_append_some (wU.alloc (.cells #[.int .i64 u.k, .int .i64 u.n, .float .f64 u.r, .string u.t, .slice Ku u.ks.length cu, .slice Lu u.l.length du] 28)) ?_ (.tmp 49) (.tmp 51) 23 ?_ wd.heap.size 28 i0 _ 6 88 Tryz.underlying23 hi0 hz0 hz1 hz2 ?_ ?_ (gU) a capU (xs.take (a * 6)) ?_ ?_ (fun _ => True) (some ⟨wU.heap.size, 0, none⟩) (1) (1) ([.int .i64 u.k, .int .i64 u.n, .float .f64 u.r, .string u.t, .slice Ku u.ks.length cu, .slice Lu u.l.length du]) ?_ ?_ HN2.out ?_ ?_ ?_ ?_); (exact rfl); (exact rfl); (exact rfl); (exact (by decide)); (simp [Act.eval]); (exact (show World.ownsRow (wU.alloc (.cells #[.int .i64 u.k, .int .i64 u.n, .float .f64 u.r, .string u.t, .slice Ku u.ks.length cu, .slice Lu u.l.length du] 28)) wd.heap.size 28 6 (.slice (some ⟨gU, 0, none⟩) a capU) a (xs.take (a * 6)) from (by simpa using HOU.out.alloc (.cells #[.int .i64 u.k, .int .i64 u.n, .float .f64 u.r, .string u.t, .slice Ku u.ks.length cu, .slice Lu u.l.length du] 28)))); (simp [Act.eval]); (exact row_box (heap_alloc_new wU (.cells #[.int .i64 u.k, .int .i64 u.n, .float .f64 u.r, .string u.t, .slice Ku u.ks.length cu, .slice Lu u.l.length du] 28)) rfl); ((unfold maxLen; omega)); (omega); (exact Below.size (HBU.out.alloc HBU.out.size _)); intro gV capV wV hown hgrow hat; have hbb : Below wd.heap.size wd wV := Below.grown (HBU.out.alloc HBU.out.size _) hgrow (Below.size (HBU.out.alloc HBU.out.size _)) (fun k hk => (World.ownsRow.lt (e := 28) (size := 6) ((show World.ownsRow (wU.alloc (.cells #[.int .i64 u.k, .int .i64 u.n, .float .f64 u.r, .string u.t, .slice Ku u.ks.length cu, .slice Lu u.l.length du] 28)) wd.heap.size 28 6 (.slice (some ⟨gU, 0, none⟩) a capU) a (xs.take (a * 6)) from (by simpa using HOU.out.alloc (.cells #[.int .i64 u.k, .int .i64 u.n, .float .f64 u.r, .string u.t, .slice Ku u.ks.length cu, .slice Lu u.l.length du] 28)))) k hk).1); have HOV := Lib.hid hown; have HBV := Lib.hid hbb; clear hown hgrow hat hbb)
              | ((with_reducible refine step_append_some wU ?_ (.tmp 49) (.tmp 51) 23 ?_ wd.heap.size 28 i0 _ 6 88 Tryz.underlying23 hi0 hz0 hz1 hz2 ?_ ?_ (gU) a capU (xs.take (a * 6)) ?_ ?_ (fun _ => True) (some ⟨wd.heap.size, 0, none⟩) (1) (1) ([.int .i64 u.k, .int .i64 u.n, .float .f64 u.r, .string u.t, .slice Ku u.ks.length cu, .slice Lu u.l.length du]) ?_ ?_ HN2.out ?_ ?_ ?_ ?_); (exact rfl); (exact rfl); (exact rfl); (exact (by decide)); (simp [Act.eval]); (exact (show World.ownsRow wU wd.heap.size 28 6 (.slice (some ⟨gU, 0, none⟩) a capU) a (xs.take (a * 6)) from (by simpa using HOU.out))); (simp [Act.eval]); (exact row_box HEX.out rfl); ((unfold maxLen; omega)); (omega); (exact Below.size (HBU.out)); intro gV capV wV hown hgrow hat; have hbb : Below wd.heap.size wd wV := Below.grown (HBU.out) hgrow (Below.size (HBU.out)) (fun k hk => (World.ownsRow.lt (e := 28) (size := 6) ((show World.ownsRow wU wd.heap.size 28 6 (.slice (some ⟨gU, 0, none⟩) a capU) a (xs.take (a * 6)) from (by simpa using HOU.out))) k hk).1); have HOV := Lib.hid hown; have HBV := Lib.hid hbb; clear hown hgrow hat hbb)
              | ((with_reducible refine step_append_some wU ?_ (.tmp 49) (.tmp 51) 23 ?_ wd.heap.size 28 i0 _ 6 88 Tryz.underlying23 hi0 hz0 hz1 hz2 ?_ ?_ (gU) a capU (xs.take (a * 6)) ?_ ?_ (fun _ => True) (some ⟨wd.heap.size + 1, 0, none⟩) (1) (1) ([.int .i64 u.k, .int .i64 u.n, .float .f64 u.r, .string u.t, .slice Ku u.ks.length cu, .slice Lu u.l.length du]) ?_ ?_ HN2.out ?_ ?_ ?_ ?_); (exact rfl); (exact rfl); (exact rfl); (exact (by decide)); (simp [Act.eval]); (exact (show World.ownsRow wU wd.heap.size 28 6 (.slice (some ⟨gU, 0, none⟩) a capU) a (xs.take (a * 6)) from (by simpa using HOU.out))); (simp [Act.eval]); (exact row_box HEX.out rfl); ((unfold maxLen; omega)); (omega); (exact Below.size (HBU.out)); intro gV capV wV hown hgrow hat; have hbb : Below wd.heap.size wd wV := Below.grown (HBU.out) hgrow (Below.size (HBU.out)) (fun k hk => (World.ownsRow.lt (e := 28) (size := 6) ((show World.ownsRow wU wd.heap.size 28 6 (.slice (some ⟨gU, 0, none⟩) a capU) a (xs.take (a * 6)) from (by simpa using HOU.out))) k hk).1); have HOV := Lib.hid hown; have HBV := Lib.hid hbb; clear hown hgrow hat hbb)
              | ((with_reducible refine step_append_some wV ?_ (.tmp 52) (.tmp 55) 23 ?_ wd.heap.size 28 i0 _ 6 88 Tryz.underlying23 hi0 hz0 hz1 hz2 ?_ ?_ (gV) (a + 1) capV (xs.take (a * 6) ++ [.int .i64 u.k, .int .i64 u.n, .float .f64 u.r, .string u.t, .slice Ku u.ks.length cu, .slice Lu u.l.length du]) ?_ ?_ (fun _ => True) (if cap' = a then some ⟨g', 0, none⟩ else some ⟨g', a * 6, none⟩) (m - a) (cap' - a) (xs.drop (a * 6)) ?_ ?_ HN3.out ?_ ?_ ?_ ?_); (exact rfl); (exact rfl); (exact rfl); (exact (by decide)); (simp [Act.eval]); (exact (show World.ownsRow wV wd.heap.size 28 6 (.slice (some ⟨gV, 0, none⟩) (a + 1) capV) (a + 1) (xs.take (a * 6) ++ [.int .i64 u.k, .int .i64 u.n, .float .f64 u.r, .string u.t, .slice Ku u.ks.length cu, .slice Lu u.l.length du]) from HOV.out)); (simp [Act.eval]); (exact HS3.out _ HBV.out); ((unfold maxLen; omega)); (omega); (exact Below.size (HBV.out)); intro gZ capZ wZ hown hgrow hat; have hbb : Below wd.heap.size wd wZ := Below.grown (HBV.out) hgrow (Below.size (HBV.out)) (fun k hk => (World.ownsRow.lt (e := 28) (size := 6) ((show World.ownsRow wV wd.heap.size 28 6 (.slice (some ⟨gV, 0, none⟩) (a + 1) capV) (a + 1) (xs.take (a * 6) ++ [.int .i64 u.k, .int .i64 u.n, .float .f64 u.r, .string u.t, .slice Ku u.ks.length cu, .slice Lu u.l.length du]) from HOV.out)) k hk).1); have HOZ := Lib.hid hown; have HBZ := Lib.hid hbb; clear hown hgrow hat hbb))
          all_goals go_wp2_with fail
          all_goals
            go_meet
            have e1 : a + 1 + (m - a) = m + 1 := by omega
            refine ⟨gZ, capZ, by rw [← e1], Lib.hid ?_, HBZ⟩
            have h := HOZ.out
            rw [e1] at h
            exact h
        case rest =>
          obtain ⟨p, pc, rfl, HOP, HBP⟩ := hcut
          have hbp : Below wr.heap.size wr wc := HBH2.out.trans (HBP.out.mono HBH2.out.size)
          have hs := HSZ.out
          have hs2 := HBC.out.size
          have hs3 := HBH2.out.size
          have HB2 : Hid (Below w.heap.size w wc) := Lib.hid (HBR.out.trans (hbp.mono HBR.out.size))
          have HR2 : Hid (Box6 wc (w.heap.size + 2) (.int .i64 0) (.int .i64 0) (.float .f64 0) (.string ⟨#[]⟩) (.slice none 0 0) (.slice none 0 0)) := Lib.hid (HBX.out.2.2.below hbp)
          have HKR : Hid (RowIs wc (fun b => wr.heap.size ≤ b) 1 (.slice (some ⟨h, 0, none⟩) (m + 1) hc) (m + 1) ((putK ks s).map Value.string)) := Lib.hid ((RowIs.of_own (P := fun b => wr.heap.size ≤ b) HOH.out (fun b hb => by have := (HOH.out.lt b hb).1; show wr.heap.size ≤ b; omega)).keep (by omega) (Kept.below HBP.out))
          have HLR : Hid (RowIs wc (fun b => wr.heap.size ≤ b) 6 (.slice (some ⟨p, 0, none⟩) (m + 1) pc) (m + 1) (xs.take (a * 6) ++ [.int .i64 u.k, .int .i64 u.n, .float .f64 u.r, .string u.t, .slice Ku u.ks.length cu, .slice Lu u.l.length du] ++ xs.drop (a * 6))) := Lib.hid (RowIs.of_own HOP.out (fun b hb => by have := (HOP.out.lt b hb).1; show wr.heap.size ≤ b; omega))
          have HVS : Hid (IsVs w (fun _ => True) (putL ks l s u) (xs.take (a * 6) ++ [.int .i64 u.k, .int .i64 u.n, .float .f64 u.r, .string u.t, .slice Ku u.ks.length cu, .slice Lu u.l.length du] ++ xs.drop (a * 6))) := Lib.hid (by
            have hv := IsVs.keep (Kept.mono (Q := fun _ => True) fun _ _ _ => trivial) _ HV.out
            have h := IsVs.append (IsVs.snoc (hv.take a) (IsV.keep (Kept.mono (Q := fun _ => True) fun _ _ _ => trivial) _ HI.out)) (hv.drop a)
            rw [HLS.out]
            simpa using h)
          clear hbp hs hs2 hs3
          obtain ⟨d0, d1, d2, d3, d4, d5⟩ := HR2.out.cells
          have fz : ∀ j, wc.frozen? ⟨w.heap.size + 2, j, none⟩ = false := fun j => by have h := HR2.out; unfold Box6 at h; simp [World.frozen?, h]
          go_wp2_with fail
          obtain ⟨w5, hw5⟩ : ∃ w5, w5 = (((((wc.setCell ⟨w.heap.size + 2, 0, none⟩ (.int .i64 7)).setCell ⟨w.heap.size + 2, 1, none⟩ (.int .i64 0)).setCell ⟨w.heap.size + 2, 2, none⟩ (.float .f64 0)).setCell ⟨w.heap.size + 2, 3, none⟩ (.string ⟨#[]⟩)).setCell ⟨w.heap.size + 2, 4, none⟩ (.slice (some ⟨h, 0, none⟩) (m + 1) hc)).setCell ⟨w.heap.size + 2, 5, none⟩ (.slice (some ⟨p, 0, none⟩) (m + 1) pc) := ⟨_, rfl⟩
          rw [← hw5]
          obtain ⟨hb2, ho2, hl2⟩ := set6 HR2.out _ _ _ _ _ _ hw5
          have e0 : w5.cell? ⟨w.heap.size + 2, 0, none⟩ = some (.int .i64 7) := by rw [blk_cell hb2]; rfl
          have e1 : w5.cell? ⟨w.heap.size + 2, 1, none⟩ = some (.int .i64 0) := by rw [blk_cell hb2]; rfl
          have e2 : w5.cell? ⟨w.heap.size + 2, 2, none⟩ = some (.float .f64 0) := by rw [blk_cell hb2]; rfl
          have e3 : w5.cell? ⟨w.heap.size + 2, 3, none⟩ = some (.string ⟨#[]⟩) := by rw [blk_cell hb2]; rfl
          have e4 : w5.cell? ⟨w.heap.size + 2, 4, none⟩ = some (.slice (some ⟨h, 0, none⟩) (m + 1) hc) := by rw [blk_cell hb2]; rfl
          have e5 : w5.cell? ⟨w.heap.size + 2, 5, none⟩ = some (.slice (some ⟨p, 0, none⟩) (m + 1) pc) := by rw [blk_cell hb2]; rfl
          refine bodyPost_ret (v := .agg #[.int .i64 7, .int .i64 0, .float .f64 0, .string ⟨#[]⟩, .slice (some ⟨h, 0, none⟩) (m + 1) hc, .slice (some ⟨p, 0, none⟩) (m + 1) pc]) (by simp [results, Tryz.results6, go_sem, e0, e1, e2, e3, e4, e5]) rfl ?_
          have hsz := HSZ.out
          have hb5 : Below w.heap.size w w5 := HB2.out.trans (hl2.mono (by omega))
          have kk : Kept wc w5 (fun b => wr.heap.size ≤ b) (fun _ => True) := fun b hb _ => ⟨trivial, ho2 b (by have hb' : wr.heap.size ≤ b := hb; omega)⟩
          refine ⟨_, _, rfl, Lib.hid ?_, Lib.hid hb5⟩
          unfold IsV
          refine ⟨_, _, (xs.take (a * 6) ++ [.int .i64 u.k, .int .i64 u.n, .float .f64 u.r, .string u.t, .slice Ku u.ks.length cu, .slice Lu u.l.length du] ++ xs.drop (a * 6)), rfl, i64_small (by omega) (by omega), i64_small (by omega) (by omega), (by show 0 ≤ maxLen; omega), ?_, ?_, ?_, IsVs.keep ((Kept.below hb5).trans (Kept.mono fun _ _ _ => trivial)) _ HVS.out⟩
          · exact putK_all HKZ.out.1 HKZ.out.2
          · have h := HKR.out.keep (by omega) kk
            have e : (putK ks s).length = m + 1 := by rw [HKS.out, List.length_append, List.length_cons, List.length_take, List.length_drop, HM.out.2.1]; omega
            rw [e]; exact h
          · have h := HLR.out.keep (by omega) kk
            have e : (putL ks l s u).length = m + 1 := by rw [HLS.out, List.length_append, List.length_cons, List.length_take, List.length_drop, ← HM.out.1]; omega
            rw [e]; exact h
end Go.Proofs.YtaclgcpfcejplaaGreatDoor.Vals
