/- Lists of lists: how they stand in memory; append of a row; walks of sprig.Concat, impl.Concat. -/
import Derived.Test.YtlkfdjnkkooofaaValU
import Derived.Test.YtlkfdjnkkooofaaValO
namespace Go.Proofs.Ytlkfdjnkkooofaa.Vals
open Go.RowKit Go.ChangeShapes Go.WideShapes Go.Deep Go.Proofs.YtlkfdjnkkooofaaW.PrintWords Go.Proofs.Ytlkfdjnkkooofaa.Txt
set_option linter.unusedVariables false
set_option maxRecDepth 20000

section
variable {P : Program} (w : World)
/-- append of nothing: a nil source. -/
theorem run_append_nothing (base : Nat) (t ty e : TypeId) (i : TypeInfo) (size : Nat) (ht : P.underlying t = some (.slice e)) (hi : P.info? e = some i)
    (v : Value) (n : Nat) (xs : List Value) (hown : w.ownsRow base e size v n xs) (c : Nat) : (Builtin.append_ #[t, t] ty #[v, .slice none 0 c]).run P w = .ok v w := by
  rcases hown.2 with ⟨rfl, rfl⟩ | ⟨g, cap, cur, rfl, _, _, hnc, _⟩
  · simp [Builtin.append_, run_underlying ht, sizeOf, typeInfo, hi, Builtin.lenOf, Builtin.firstCells]
  · simp [Builtin.append_, run_underlying ht, sizeOf, typeInfo, hi, Builtin.lenOf, Builtin.firstCells, hnc, storeCells]
/-- append of a row that stands somewhere, nil or not. -/
theorem run_append_row (base : Nat) (t ty e : TypeId) (i : TypeInfo) (z : Value) (size bytes : Nat) (ht : P.underlying t = some (.slice e)) (hi : P.info? e = some i) (hz : i.zero = some z)
    (hsize : i.size = size) (hby : i.bytes = bytes) (hzs : z.cells.size = size) (hsz : 0 < size)
    (v : Value) (n : Nat) (xs : List Value) (hown : w.ownsRow base e size v n xs)
    (R : Nat → Prop) (A : Option Addr) (m c : Nat) (news : List Value) (hr : RowIs w R size (.slice A m c) m news) (h1 : ∀ u ∈ news, u.oneCell' = true)
    (h63 : n + m ≤ maxLen) (hbytes : (n + m) * bytes ≤ 140737488355328) (hbase : base ≤ w.heap.size) :
    ∃ G cap w', (Builtin.append_ #[t, t] ty #[v, .slice A m c]).run P w = .ok (.slice G (n + m) cap) w' ∧ w'.ownsRow base e size (.slice G (n + m) cap) (n + m) (xs ++ news) ∧ w.grownBy w' v.ownBlock ∧
      (G.map (·.block) = v.ownBlock ∨ G.map (·.block) = some w.heap.size) := by
  have hlen : news.length = m * size := by obtain ⟨_, _, _, _, _, h⟩ := hr.form; exact h
  have key : ∃ v' w', (Builtin.append_ #[t, t] ty #[v, .slice A m c]).run P w = .ok v' w' ∧ w'.ownsRow base e size v' (n + m) (xs ++ news) ∧ w.grownBy w' v.ownBlock ∧ (v'.ownBlock = v.ownBlock ∨ v'.ownBlock = some w.heap.size) := by
    rcases A with _ | ad
    · have hm : m = 0 := by
        rcases Nat.eq_zero_or_pos m with h0 | h0
        · exact h0
        · obtain ⟨_, _, h, _⟩ := hr.elem h0
          cases h
      subst hm
      have hn : news = [] := List.eq_nil_of_length_eq_zero (by simpa using hlen)
      subst hn
      exact ⟨v, w, run_append_nothing w base t ty e i size ht hi v n xs hown c, by simpa using hown, ⟨rfl, rfl, rfl, Nat.le_refl _, fun _ _ _ => rfl⟩, .inl rfl⟩
    · have hcells : ∀ j u, news[j]? = some u → w.cell? (ad.add j) = some u := fun j u hu => by
        have hjl := (List.getElem?_eq_some_iff.1 hu).1
        have h0 : 0 < m := by
          rcases Nat.eq_zero_or_pos m with h0 | h0
          · rw [hlen, h0, Nat.zero_mul] at hjl; omega
          · exact h0
        obtain ⟨b, o, h, _, hc⟩ := hr.elem h0
        injection h with h
        subst h
        rw [← Go.Proofs.Ytlkfdjnkkooofaa.Vals.add_eq rfl]
        exact hc j u hu
      obtain ⟨v', w', hrun, h2, h3, _, h5⟩ := run_append_own_at (P := P) w base t ty e i z size bytes ht hi hz hsize hby hzs hsz v n xs hown ad m c news hlen hcells h1 h63 hbytes hbase
      exact ⟨v', w', hrun, h2, h3, h5⟩
  obtain ⟨v', w', hrun, h2, h3, h5⟩ := key
  rcases h2.2 with ⟨rfl, h0⟩ | ⟨g, cap, cur, rfl, _⟩
  · rw [h0] at *
    exact ⟨none, 0, w', hrun, h2, h3, h5⟩
  · exact ⟨some ⟨g, 0, none⟩, cap, w', hrun, h2, h3, h5⟩
theorem wp_append_row {o : Oper} {a : Act} {K : Act → World → Prop} {Q : Exit → Act → World → Prop} (s x : Operand) (t : TypeId)
    (ho : o.op = .call { callee := .builtin .append, args := #[s, x], argTypes := #[t, t] })
    (base : Nat) (e : TypeId) (i : TypeInfo) (z : Value) (size bytes : Nat) (ht : P.underlying t = some (.slice e)) (hi : P.info? e = some i) (hz : i.zero = some z)
    (hsize : i.size = size) (hby : i.bytes = bytes) (hzs : z.cells.size = size) (hsz : 0 < size)
    (v : Value) (n : Nat) (xs : List Value) (hs : a.eval s = v) (hown : w.ownsRow base e size v n xs)
    (R : Nat → Prop) (A : Option Addr) (m c : Nat) (news : List Value) (hx : a.eval x = .slice A m c) (hr : RowIs w R size (.slice A m c) m news) (h1 : ∀ u ∈ news, u.oneCell' = true)
    (h63 : n + m ≤ maxLen) (hbytes : (n + m) * bytes ≤ 140737488355328) (hbase : base ≤ w.heap.size)
    (h : ∀ G cap w', w'.ownsRow base e size (.slice G (n + m) cap) (n + m) (xs ++ news) → w.grownBy w' v.ownBlock → (G.map (·.block) = v.ownBlock ∨ G.map (·.block) = some w.heap.size) → K (a.put o.dst (.slice G (n + m) cap)) w') : o.wp P a w K Q := by
  obtain ⟨G, cap, w', hrun, h2, h3, h4⟩ := run_append_row (P := P) w base t o.type e i z size bytes ht hi hz hsize hby hzs hsz v n xs hown R A m c news hr h1 h63 hbytes hbase
  unfold Oper.wp execOp
  simp only [ho, resolve, invoke, builtin, Sem.run_bind, Sem.run_pure, Result.andThen_ok, List.map_toArray, List.map_cons, List.map_nil, hs, hx, hrun]
  exact h G cap w' h2 h3 h4
theorem wpList_append_row {ops : Array Oper} {rest : List Oper} {o : Oper} {a : Act} {Q : Exit → Act → World → Prop} (hgd : o.guard = none) (s x : Operand) (t : TypeId)
    (ho : o.op = .call { callee := .builtin .append, args := #[s, x], argTypes := #[t, t] })
    (base : Nat) (e : TypeId) (i : TypeInfo) (z : Value) (size bytes : Nat) (ht : P.underlying t = some (.slice e)) (hi : P.info? e = some i) (hz : i.zero = some z)
    (hsize : i.size = size) (hby : i.bytes = bytes) (hzs : z.cells.size = size) (hsz : 0 < size)
    (v : Value) (n : Nat) (xs : List Value) (hs : a.eval s = v) (hown : w.ownsRow base e size v n xs)
    (R : Nat → Prop) (A : Option Addr) (m c : Nat) (news : List Value) (hx : a.eval x = .slice A m c) (hr : RowIs w R size (.slice A m c) m news) (h1 : ∀ u ∈ news, u.oneCell' = true)
    (h63 : n + m ≤ maxLen) (hbytes : (n + m) * bytes ≤ 140737488355328) (hbase : base ≤ w.heap.size)
    (h : ∀ G cap w', w'.ownsRow base e size (.slice G (n + m) cap) (n + m) (xs ++ news) → w.grownBy w' v.ownBlock → (G.map (·.block) = v.ownBlock ∨ G.map (·.block) = some w.heap.size) → wpList P ops Q rest (a.put o.dst (.slice G (n + m) cap)) w') : wpList P ops Q (o :: rest) a w :=
  wpList_plain hgd fun _ hK => wp_append_row w s x t ho base e i z size bytes ht hi hz hsize hby hzs hsz v n xs hs hown R A m c news hx hr h1 h63 hbytes hbase fun G cap w' h2 h3 h4 => hK _ _ (h G cap w' h2 h3 h4)
theorem step_append_row {ops : Array Oper} {o : Oper} {a : Act} {K : Act → World → Prop} {Q : Exit → Act → World → Prop} {E : Prop} (hgd : o.guard = none) (s x : Operand) (t : TypeId)
    (ho : o.op = .call { callee := .builtin .append, args := #[s, x], argTypes := #[t, t] })
    (base : Nat) (e : TypeId) (i : TypeInfo) (z : Value) (size bytes : Nat) (ht : P.underlying t = some (.slice e)) (hi : P.info? e = some i) (hz : i.zero = some z)
    (hsize : i.size = size) (hby : i.bytes = bytes) (hzs : z.cells.size = size) (hsz : 0 < size)
    (v : Value) (n : Nat) (xs : List Value) (hs : a.eval s = v) (hown : w.ownsRow base e size v n xs)
    (R : Nat → Prop) (A : Option Addr) (m c : Nat) (news : List Value) (hx : a.eval x = .slice A m c) (hr : RowIs w R size (.slice A m c) m news) (h1 : ∀ u ∈ news, u.oneCell' = true)
    (h63 : n + m ≤ maxLen) (hbytes : (n + m) * bytes ≤ 140737488355328) (hbase : base ≤ w.heap.size)
    (h : ∀ G cap w', w'.ownsRow base e size (.slice G (n + m) cap) (n + m) (xs ++ news) → w.grownBy w' v.ownBlock → (G.map (·.block) = v.ownBlock ∨ G.map (·.block) = some w.heap.size) → K (a.put o.dst (.slice G (n + m) cap)) w') :
    if Region.wanted o (yielded ops a.tmps) = true then Oper.wp P o a w K Q else E := by
  have hw : Region.wanted o (yielded ops a.tmps) = true := by simp [Region.wanted, hgd]
  rw [if_pos hw]
  exact wp_append_row w s x t ho base e i z size bytes ht hi hz hsize hby hzs hsz v n xs hs hown R A m c news hx hr h1 h63 hbytes hbase h
end

/-! ### lists of lists -/
/-- This slice header stands for a list of values. -/
def IsL (w : World) (P : Nat → Prop) (l : List V) (v : Value) : Prop := ∃ A c xs, v = .slice A l.length c ∧ RowIs w P 6 (.slice A l.length c) l.length xs ∧ IsVs w P l xs
def IsLs (w : World) (P : Nat → Prop) (L : List (List V)) (hs : List Value) : Prop := hs.length = L.length ∧ ∀ i (h : i < L.length) (h' : i < hs.length), IsL w P L[i] hs[i]
theorem IsL.keep {w w' : World} {P Q : Nat → Prop} {l : List V} {v : Value} (k : Kept w w' P Q) (h : IsL w P l v) : IsL w' Q l v := by
  obtain ⟨A, c, xs, h1, h2, h3⟩ := h
  exact ⟨A, c, xs, h1, h2.keep (by omega) k, IsVs.keep k l h3⟩
theorem IsLs.keep {w w' : World} {P Q : Nat → Prop} {L : List (List V)} {hs : List Value} (k : Kept w w' P Q) (h : IsLs w P L hs) : IsLs w' Q L hs := ⟨h.1, fun i hi hi' => (h.2 i hi hi').keep k⟩
theorem IsVs.append {w : World} {P : Nat → Prop} : ∀ {l : List V} {xs : List Value}, IsVs w P l xs → ∀ {m : List V} {ys : List Value}, IsVs w P m ys → IsVs w P (l ++ m) (xs ++ ys)
  | [], xs, h, m, ys, hm => by unfold IsVs at h; subst h; simpa using hm
  | u :: r, xs, h, m, ys, hm => by
    unfold IsVs at h; obtain ⟨d, d', rfl, h2, h3⟩ := h
    rw [List.cons_append]; unfold IsVs
    exact ⟨d, d' ++ ys, by simp, h2, IsVs.append h3 hm⟩
theorem IsVs.one {w : World} {P : Nat → Prop} : ∀ {l : List V} {xs : List Value}, IsVs w P l xs → ∀ u ∈ xs, u.oneCell' = true
  | [], xs, h => by unfold IsVs at h; subst h; simp
  | v :: r, xs, h => by
    unfold IsVs at h; obtain ⟨d, d', rfl, h2, h3⟩ := h
    intro u hu
    rcases List.mem_append.1 hu with hu | hu
    · exact h2.one u hu
    · exact IsVs.one h3 u hu
section
variable {H : Type} {enc : TypeId × Value → H} {w : World} {base : Nat} {sp : Nat → Bool} {hd : Bool}
/-- A parameter that is a slice of slices of values. -/
theorem open_lists {r : Reach} {b0 : Nat} {v : Value} {d : DataW H} {p : List MemPlace} (hv : Value.okWide Try.prog w r b0 46 v) (h : DataW.Trod enc Try.prog w base sp hd 46 v d p) :
    ∃ (A : Option Addr) (c : Nat) (L : List (List V)) (hs : List Value), v = .slice A L.length c ∧ RowIs w (fun b => b < w.heap.size) 1 (.slice A L.length c) L.length hs ∧ IsLs w (fun b => b < w.heap.size) L hs := by
  obtain ⟨A, n, c, rfl⟩ := okWide_slice Try.underlying46 hv
  obtain ⟨fuel, hf⟩ := h
  rcases DataW.trod_slice Try.underlying46 hf with ⟨hcs, _⟩ | ⟨a, len, cap, elems, rest, n', hn', hcs, _, hb, hl, hm, hel, hat, _⟩
  · simp [Value.cells] at hcs
    obtain ⟨rfl, rfl, rfl⟩ := hcs
    exact ⟨none, 0, [], [], rfl, ⟨none, 0, rfl, by simp, by unfold maxLen; omega, by simp, fun h => absurd h (by simp)⟩, rfl, fun i h => absurd h (by simp)⟩
  · simp [Value.cells] at hcs
    obtain ⟨rfl, rfl, rfl⟩ := hcs
    obtain ⟨L, css, h1, h2, h3, h4⟩ := row_of (w := w) (fun l c => ∃ v, c = [v] ∧ IsL w (fun b => b < w.heap.size) l v) 1 a n (fun i hi => by
      have := hat i hi
      rw [List.getElem?_eq_getElem (by omega), cellsList] at this
      cases hc : w.cells? base (a.add (i * 1)) 1 with
      | none => rw [hc] at this; cases this
      | some c =>
        rw [hc] at this
        obtain ⟨_, hcl, hcj⟩ := World.cells?_some hc
        match c, hcl with
        | [c5], _ =>
          obtain ⟨l, xs, hr, hv⟩ := isVs_of_trod n' c5 _ this
          obtain ⟨A', c', rfl, _⟩ := hr.form
          exact ⟨l, [.slice A' l.length c'], ⟨_, rfl, A', c', xs, rfl, hr, hv⟩, rfl, fun j hj => hcj j hj⟩)
    obtain ⟨f1, f2⟩ := flatten_get 1 css (fun i hi => (h3 i (by omega) hi).2)
    refine ⟨some a, c, L, css.flatten, by rw [h1], ⟨some a, c, by rw [h1], by omega, hm, by rw [f1, h2, h1], fun h0 => ?_⟩, by rw [f1, h2, h1]; omega, fun i hi hi' => ?_⟩
    · have h00 := h4 0 (by omega) 0 (by omega)
      rw [show a.add (0 * 1 + 0) = a by unfold Addr.add; rfl, List.getElem?_eq_getElem (by have := (h3 0 (by omega) (by omega)).2; omega)] at h00
      have hp := plain_of h00
      refine ⟨a.block, a.off, by rw [← hp], World.block_lt_of_cell? w _ h00, fun j u hu => ?_⟩
      have hjl : j < css.flatten.length := (List.getElem?_eq_some_iff.1 hu).1
      have hj1 : j < css.length := by rw [f1] at hjl; omega
      have e := f2 j hj1 0 (by omega)
      rw [show j * 1 + 0 = j by omega, hu] at e
      rw [add_eq hp j]
      have := h4 j hj1 0 (by omega)
      rw [show j * 1 + 0 = j by omega] at this
      rw [this, ← e]
    · obtain ⟨⟨v, hv, hL⟩, _⟩ := h3 i hi (by omega)
      have e := f2 i (by omega) 0 (by omega)
      rw [show i * 1 + 0 = i by omega, hv, List.getElem?_eq_getElem hi'] at e
      have e' : css.flatten[i] = v := by simpa using e
      rw [e']; exact hL
end

/-! ### walks -/
def listV (l : List V) : V := .mk 6 0 0 ⟨#[]⟩ [] l
theorem GoV.list {w : World} {P : Nat → Prop} {l : List V} {x : Value} (h : GoV w P (listV l) x) : ∃ a c xs, x = .iface 64 (.slice (some a) l.length c) ∧ RowIs w P 1 (.slice (some a) l.length c) l.length xs ∧ GoVs w P l xs := by
  unfold listV GoV at h
  rcases h with ⟨h, _⟩ | ⟨h, _⟩ | ⟨h, _⟩ | ⟨h, _⟩ | ⟨h, _⟩ | ⟨h, _⟩ | ⟨_, a, c, xs, h1, h2, h3⟩ | ⟨h, _⟩
  iterate 6 omega
  · exact ⟨a, c, xs, h1, h2, h3⟩
  · omega
theorem GoV.mkList {w : World} {P : Nat → Prop} {l : List V} {a : Addr} {c : Nat} {xs : List Value} (h1 : RowIs w P 1 (.slice (some a) l.length c) l.length xs) (h2 : GoVs w P l xs) : GoV w P (listV l) (.iface 64 (.slice (some a) l.length c)) := by
  unfold listV GoV
  exact .inr (.inr (.inr (.inr (.inr (.inr (.inl ⟨rfl, a, c, xs, rfl, h1, h2⟩))))))
theorem flat_take_succ {L : List (List V)} {i : Nat} (h : i < L.length) : (L.take (i + 1)).flatten = (L.take i).flatten ++ L[i] := by
  rw [List.take_add_one, List.getElem?_eq_getElem h]
  simp only [Option.toList_some, List.flatten_append, List.flatten_cons, List.flatten_nil, List.append_nil]
theorem flat_take_le (L : List (List V)) (i : Nat) : (L.take i).flatten.length ≤ L.flatten.length := by
  have h : L.flatten = (L.take i).flatten ++ (L.drop i).flatten := by rw [← List.flatten_append, List.take_append_drop]
  rw [h, List.length_append]; omega
def CatRes (m : List V) (w : World) (e : Ending) (w' : World) : Prop := ∃ G c ys, e = .returned (.iface 64 (.slice G m.length c)) ∧
  Hid (RowIs w' (fun _ => True) 1 (.slice G m.length c) m.length ys ∧ GoVs w' (fun _ => True) m ys) ∧ Hid (Below w.heap.size w w')
set_option maxHeartbeats 4000000 in
theorem concat_walk (L : List (List V)) (hbd : L.flatten.length ≤ 100000) (A : Option Addr) (c : Nat) (zs : List Value) (P P' : Nat → Prop) (w : World)
    (hl : RowIs w P' 1 (.slice A L.length c) L.length zs) (hv : GoVs w P (L.map listV) zs) :
    Calls Try.prog 81 #[.slice A L.length c] w (CatRes L.flatten w) := by
  obtain ⟨i0, hi0, hz0, hz1, hz2⟩ := info_parts ifaceInfo
  have hel : ∀ i (hi : i < L.length), ∃ b o a c ys, A = some ⟨b, o, none⟩ ∧ b < w.heap.size ∧ w.cell? ⟨b, o + i, none⟩ = some (.iface 64 (.slice (some a) L[i].length c)) ∧ RowIs w P 1 (.slice (some a) L[i].length c) L[i].length ys ∧ GoVs w P L[i] ys := fun i hi => by
    obtain ⟨b, o, hA, _, hc⟩ := hl.elem (by omega)
    obtain ⟨x, hx, hg⟩ := hv.at_ i (by simpa using hi)
    rw [List.getElem_map] at hg
    obtain ⟨a, c, ys, rfl, h1, h2⟩ := hg.list
    have := hc i _ hx
    exact ⟨b, o, a, c, ys, hA, World.block_lt_of_cell? w _ this, this, h1, h2⟩
  have HEL := Lib.hid hel
  obtain ⟨hnc, hcm⟩ := hl.sizes
  unfold maxLen at hcm
  clear hl hv hel
  obtain ⟨n, hn⟩ : ∃ n, n = L.length := ⟨_, rfl⟩
  rw [← hn] at hnc ⊢
  have HN := Lib.hid hn
  have HBD := Lib.hid hbd
  clear hn hbd
  obtain ⟨B, hB⟩ : ∃ B, B = w.heap.size := ⟨_, rfl⟩
  have HB := Lib.hid hB
  clear hB
  go_enter Try.func81, Try.ntmps81
  go_wp2_with fail
  go_loopg [3, 11] n (fun kq v3 v11 wr => ∃ (i k : Nat) (G : Option Addr) (cap : Nat) (ys : List Value), v3 = .slice G k cap ∧ v11 = .int .i64 (i : Int) ∧ i + kq = n ∧ Hid (k = (L.take i).flatten.length) ∧
    Hid (wr.ownsRow B 20 1 (.slice G k cap) k ys) ∧ Hid (GoVs w P (L.take i).flatten ys) ∧ Hid (Below B w wr))
  case atStart => exact ⟨0, 0, none, 0, [], rfl, rfl, by omega, Lib.hid rfl, Lib.hid (World.ownsRow_nil _ _ _ _), Lib.hid (by show GoVs w P [] []; unfold GoVs; rfl), Lib.hid (Below.refl _ _)⟩
  case round =>
    obtain ⟨i, k, G, cap, ys, rfl, rfl, hik, HK, H1, H2, H3⟩ := hrel
    cases gk with
    | zero =>
      have hi : ¬ i < n := by omega
      have HIN := Lib.hid hik
      clear hik
      go_wp2_with fail
      go_ret
      have hin : i = L.length := by have := HN.out; have := HIN.out; omega
      have h := RowIs.of_own (P := fun _ => True) H1.out (fun _ _ => trivial)
      have h2 := H2.out
      have hk := HK.out
      rw [hin, List.take_length] at h2 hk
      rw [HB.out] at H3
      exact ⟨G, cap, ys, by rw [hk]; rfl, Lib.hid ⟨by rw [← hk]; exact h, GoVs.keep ((Kept.below H3.out).trans (Kept.mono fun _ _ _ => trivial)) _ h2⟩, H3⟩
    | succ mm =>
      have hi : i < n := by omega
      have hi' : i < L.length := by have := HN.out; omega
      obtain ⟨b, o, a, c2, us, hA, hbs, e0, hrow, hgv⟩ := HEL.out i hi'
      subst hA
      obtain ⟨l, hl⟩ : ∃ l, l = L[i] := ⟨_, rfl⟩
      rw [← hl] at e0 hrow hgv
      have hel2 : ∀ j (hj : j < l.length), ∃ b o y, a = ⟨b, o, none⟩ ∧ b < w.heap.size ∧ GoV w P l[j] y ∧ w.cell? ⟨b, o + j, none⟩ = some y := fun j hj => by
        obtain ⟨b, o, hA, hb, hc⟩ := hrow.cell1 (by omega)
        obtain ⟨x, hx, hg⟩ := hgv.at_ j hj
        exact ⟨b, o, x, hA, hb, hg, hc j x hx⟩
      obtain ⟨hmc, hmm⟩ := hrow.sizes
      unfold maxLen at hmm
      have hbw : Below w.heap.size w wr := by rw [← HB.out]; exact H3.out
      have g0 := (hbw.cell (p := ⟨b, o + i, none⟩) hbs).trans e0
      obtain ⟨m, hm⟩ : ∃ m, m = l.length := ⟨_, rfl⟩
      rw [← hm] at g0 hmc
      have hz := zzList_walk a m c2
      have HEL2 := Lib.hid hel2
      have HL := Lib.hid hl
      have HM := Lib.hid hm
      have HIK := Lib.hid hik
      clear hrow hgv hel2 e0 hbw hl hm hik
      obtain ⟨wo, hwo⟩ : ∃ wo, wo = wr := ⟨_, rfl⟩
      subst hwo
      go_wp2_with (go_at_call 94; refine (hz _).mono ?_; rintro e w' ⟨rfl, hw'⟩; subst w')
      go_loopg [3, 8] m (fun kq v3 v8 wr => ∃ (j k : Nat) (G : Option Addr) (cap : Nat) (ys : List Value), v3 = .slice G k cap ∧ v8 = .int .i64 (j : Int) ∧ j + kq = m ∧ Hid (k = ((L.take i).flatten ++ l.take j).length) ∧
        Hid (wr.ownsRow B 20 1 (.slice G k cap) k ys) ∧ Hid (GoVs w P ((L.take i).flatten ++ l.take j) ys) ∧ Hid (Below B w wr))
      case atStart => exact ⟨0, k, G, cap, ys, rfl, rfl, by omega, Lib.hid (by simpa using HK.out), H1, Lib.hid (by simpa using H2.out), H3⟩
      case round =>
        obtain ⟨j, k', G', cap', ys', rfl, rfl, hjk, HK', H1', H2', H3'⟩ := hrel
        cases gk with
        | zero =>
          have hj : ¬ j < m := by omega
          have HJK := Lib.hid hjk
          clear hjk
          go_wp2_with fail
          go_roundg mm
          case measure => exact Nat.lt_succ_self mm
          case rel =>
            have hjl : j = l.length := by have := HM.out; have := HJK.out; omega
            have e : (L.take (i + 1)).flatten = (L.take i).flatten ++ l.take j := by rw [flat_take_succ hi', ← HL.out, hjl, List.take_length]
            exact ⟨i + 1, k', G', cap', ys', rfl, by simp, by have := HIK.out; omega, Lib.hid (by rw [e]; exact HK'.out), H1', Lib.hid (by rw [e]; exact H2'.out), H3'⟩
        | succ nn =>
          have hj : j < m := by omega
          have hj' : j < l.length := by have := HM.out; omega
          obtain ⟨fb, fo, x, hA', hfs, hgx, f0⟩ := HEL2.out j hj'
          subst hA'
          obtain ⟨u, hu⟩ : ∃ u, u = l[j] := ⟨_, rfl⟩
          rw [← hu] at hgx
          have hbw : Below w.heap.size w wr := by rw [← HB.out]; exact H3'.out
          have k0 := (hbw.cell (p := ⟨fb, fo + j, none⟩) hfs).trans f0
          have hkb : k' < 100000 := by
            have h1 := HK'.out
            have h2 := flat_take_le L (i + 1)
            rw [flat_take_succ hi', ← HL.out, List.length_append] at h2
            have h3 := HBD.out
            rw [List.length_append, List.length_take] at h1
            omega
          have hone := hgx.one
          have HONE := Lib.hid hone
          have hcx := cells_one hone
          unfold Value.cells at hcx
          have hc5 : B ≤ (wr.alloc (.cells #[x] 20)).heap.size := by have := hbw.size; have := HB.out; simp; omega
          have HC5 := Lib.hid hc5
          have HGX := Lib.hid hgx
          have HU := Lib.hid hu
          have HJK := Lib.hid hjk
          have HBS : Hid (B ≤ wr.heap.size) := Lib.hid (by have := hbw.size; have := HB.out; omega)
          clear hone hc5 hgx hu hjk hbw f0
          go_wp2_with (at_builtin; refine wpList_append_lies _ rfl _ _ 64 rfl B 20 i0 .nilIface 1 16 Try.underlying64 hi0 hz0 hz1 hz2 rfl (by decide) (.slice G' k' cap') k' ys' rfl (H1'.out.alloc _) ⟨wr.heap.size, 0, none⟩ 1 1 [x] rfl rfl (news_one _ _ _) (one_mem HONE.out) (by decide) (by unfold maxLen; omega) (by omega) HC5.out _ rfl ?_; intro g2 cap2 w3 hown2 hgrow hat hlt; refine Hid.out ?_)
          refine Lib.hid ?_
          clear hcx
          have HO2 := Lib.hid hown2
          have hb3 : Below B w w3 := (H3'.out.alloc HBS.out _).grown hgrow (by have := HBS.out; simp; omega) (fun j hj => (H1'.out.lt j hj).1)
          have HB3 := Lib.hid hb3
          clear hown2 hgrow hat hlt hb3
          go_wp2_with fail
          go_roundg nn
          case measure => exact Nat.lt_succ_self nn
          case rel =>
            have e : l.take (j + 1) = l.take j ++ [u] := by rw [List.take_add_one, List.getElem?_eq_getElem hj', ← HU.out]; rfl
            refine ⟨j + 1, k' + 1, some ⟨g2, 0, none⟩, cap2, ys' ++ [x], rfl, by simp, by have := HJK.out; omega, Lib.hid ?_, HO2, Lib.hid ?_, HB3⟩
            · rw [e, ← List.append_assoc, List.length_append, List.length_singleton, ← HK'.out]
            · rw [e, ← List.append_assoc]; exact GoVs.snoc H2'.out HGX.out
theorem sprigConcat_walk (L : List (List V)) (hbd : L.flatten.length ≤ 100000) (A : Option Addr) (c : Nat) (zs : List Value) (P P' : Nat → Prop) (w : World)
    (hl : RowIs w P' 1 (.slice A L.length c) L.length zs) (hv : GoVs w P (L.map listV) zs) :
    Calls Try.prog 58 #[.slice A L.length c] w (CatRes L.flatten w) := by
  have HM := Lib.hid (concat_walk L hbd A c zs P P' w hl hv)
  obtain ⟨n, hn⟩ : ∃ n, n = L.length := ⟨_, rfl⟩
  rw [← hn] at HM ⊢
  clear hbd hl hv hn
  obtain ⟨m, hm⟩ : ∃ m, m = L.flatten := ⟨_, rfl⟩
  rw [← hm] at HM ⊢
  clear hm
  go_enter Try.func58, Try.ntmps58
  go_wp2_with (go_at_call 81; refine HM.out.mono ?_; rintro e w' ⟨G, c2, ys, rfl, H1, H2⟩)
  go_ret
  exact ⟨G, c2, ys, rfl, H1, H2⟩

set_option maxHeartbeats 4000000 in
theorem implConcat_walk (L : List (List V)) (hr : ∀ i (h : i < L.length), Rights L[i] 8 ∧ L[i].length ≤ 60) (h20 : L.length ≤ 20) (hbd : L.flatten.length ≤ 100000) (A : Option Addr) (c : Nat) (hs : List Value) (P : Nat → Prop) (w : World)
    (hl : RowIs w P 1 (.slice A L.length c) L.length hs) (hv : IsLs w P L hs) :
    Calls Try.prog 29 #[.slice A L.length c] w (ListRes L.flatten w) := by
  obtain ⟨i0, hi0, hz0, hz1, hz2⟩ := info_parts ifaceInfo
  have hel : ∀ i (hi : i < L.length), ∃ b o A' c' xs, A = some ⟨b, o, none⟩ ∧ b < w.heap.size ∧ w.cell? ⟨b, o + i, none⟩ = some (.slice A' L[i].length c') ∧ RowIs w P 6 (.slice A' L[i].length c') L[i].length xs ∧ IsVs w P L[i] xs := fun i hi => by
    obtain ⟨b, o, hA, _, hc⟩ := hl.elem (by omega)
    have hi2 : i < hs.length := by have := hv.1; omega
    obtain ⟨A', c', xs, h1, h2, h3⟩ := hv.2 i hi hi2
    have := hc i _ (List.getElem?_eq_getElem hi2)
    rw [h1] at this
    exact ⟨b, o, A', c', xs, hA, World.block_lt_of_cell? w _ this, this, h2, h3⟩
  have hfs : Fines L.flatten := Fines.mk fun i hi => by
    obtain ⟨l, hl1, hl2⟩ := List.mem_flatten.1 (List.getElem_mem hi)
    obtain ⟨j, hj, rfl⟩ := List.mem_iff_getElem.1 hl1
    obtain ⟨_, _, _, _, _, _, _, _, h4, h5⟩ := hel j hj
    obtain ⟨q, hq, e⟩ := List.mem_iff_getElem.1 hl2
    rw [← e]; exact (fines_of (hr j hj).1 h4 h5).at_ q hq
  have HEL := Lib.hid hel
  have HFS := Lib.hid hfs
  have HR := Lib.hid hr
  obtain ⟨hnc, hcm⟩ := hl.sizes
  unfold maxLen at hcm
  clear hl hv hel hfs hr
  obtain ⟨n, hn⟩ : ∃ n, n = L.length := ⟨_, rfl⟩
  rw [← hn] at hnc h20 ⊢
  have HN := Lib.hid hn
  have HBD := Lib.hid hbd
  clear hn hbd
  obtain ⟨B, hB⟩ : ∃ B, B = w.heap.size := ⟨_, rfl⟩
  have HB := Lib.hid hB
  clear hB
  go_enter Try.func29, Try.ntmps29
  go_wp2_with fail
  go_loopg [4, 13] n (fun kq v4 v13 wr => ∃ (i : Nat) (G : Option Addr) (cap : Nat) (ys : List Value), v4 = .slice G i cap ∧ v13 = .int .i64 (i : Int) ∧ i + kq = n ∧
    Hid (wr.ownsRow B 20 1 (.slice G i cap) i ys) ∧ Hid (GoVs wr (fun b => B ≤ b ∧ G.map (·.block) ≠ some b) ((L.take i).map listV) ys) ∧ Hid (Below B w wr))
  case atStart => exact ⟨0, none, 0, [], rfl, rfl, by omega, Lib.hid (World.ownsRow_nil _ _ _ _), Lib.hid (by show GoVs w _ [] []; unfold GoVs; rfl), Lib.hid (Below.refl _ _)⟩
  case round =>
    obtain ⟨i, G, cap, ys, rfl, rfl, hik, H1, H2, H3⟩ := hrel
    cases gk with
    | zero =>
      have hi : ¬ i < n := by omega
      have hin : i = n := by omega
      have hiL : i = L.length := by rw [hin]; exact HN.out
      have hcall := sprigConcat_walk L HBD.out G cap ys _ (fun _ => True) wr (by rw [← hiL]; exact RowIs.of_own H1.out (fun _ _ => trivial)) (by have := H2.out; rw [hiL, List.take_length] at this; exact this)
      rw [← hiL] at hcall
      have HC := Lib.hid hcall
      have HIN := Lib.hid hin
      clear hik hcall hiL hin
      go_wp2_with fail
      refine (HC.out).mono ?_
      rintro e w2 ⟨G2, c2, us, rfl, HX, HB2⟩
      obtain ⟨m, hm⟩ : ∃ m, m = L.flatten.length := ⟨_, rfl⟩
      rw [← hm]
      have hta : ∀ w, (Instr.typeAssert (.iface 64 (.slice G2 m c2)) 20 64 true).run Try.prog w = .ok (.tuple #[.slice G2 m c2, .bool true]) w := fun w => by kernel_rfl
      have hcv := valuesOf_of HFS.out HBD.out G2 c2 us _ w2 HX.out.1 HX.out.2
      rw [← hm] at hcv
      have HCV := Lib.hid hcv
      have HM := Lib.hid hm
      have HBW := Lib.hid (H3.out.trans (HB2.out.mono (by have := HB.out; have := H3.out.size; omega)))
      clear hcv hm
      go_wp2_with fail
      refine (HCV.out).mono ?_
      rintro e w3 ⟨A3, c3, qs, rfl, HY, HB3⟩
      rw [HB.out] at HBW
      go_wp2_with fail
      go_ret2
      refine ⟨A3, c3, qs, by rw [List.length_flatten]; rfl, Lib.hid ⟨?_, ?_⟩, Lib.hid (HBW.out.trans (HB3.out.mono HBW.out.size))⟩
      · exact HY.out.1.keep (by omega) (Kept.mono (Q := fun b => w.heap.size ≤ b) (fun b hb _ => Nat.le_trans HBW.out.size hb))
      · exact IsVs.keep (Kept.mono (fun b hb _ => Nat.le_trans HBW.out.size hb)) _ HY.out.2
    | succ mm =>
      have hi : i < n := by omega
      have hi' : i < L.length := by have := HN.out; omega
      obtain ⟨b, o, A', c', us, hA, hbs, e0, hrow, hvs⟩ := HEL.out i hi'
      subst hA
      have hri := HR.out i hi'
      obtain ⟨l, hl⟩ : ∃ l, l = L[i] := ⟨_, rfl⟩
      rw [← hl] at e0 hrow hvs hri
      have hbw : Below w.heap.size w wr := by rw [← HB.out]; exact H3.out
      have g0 := (hbw.cell (p := ⟨b, o + i, none⟩) hbs).trans e0
      obtain ⟨hmc, hmm⟩ := hrow.sizes
      unfold maxLen at hmm
      have hgl := goList_walk l (by omega) (fun j h => ⟨8, hri.1.at_ j h⟩) A' c' us P wr (hrow.keep (by omega) (Kept.below hbw)) (IsVs.keep (Kept.below hbw) l hvs)
      obtain ⟨m, hm⟩ : ∃ m, m = l.length := ⟨_, rfl⟩
      rw [← hm] at g0 hgl hmc
      have HGL := Lib.hid hgl
      have HL := Lib.hid hl
      have HM := Lib.hid hm
      have HIK := Lib.hid hik
      have HBW := Lib.hid hbw
      clear hgl hl hm hik hbw e0 hrow hvs hri
      go_wp2_with fail
      refine (HGL.out).mono ?_
      rintro e w1 ⟨a, cap1, zs, rfl, HGV, HB1⟩
      rw [← HM.out]
      have hx : GoV w1 (fun b => wr.heap.size ≤ b) (listV l) (.iface 64 (.slice (some a) m cap1)) := by
        have h := GoV.mkList HGV.out.1 HGV.out.2
        rw [← HM.out] at h; exact h
      have HX := Lib.hid hx
      have HOWN : Hid (w1.ownsRow B 20 1 (.slice G i cap) i ys) := Lib.hid (H1.out.kept (grown_of_below HB1.out none) (by cases G <;> simp [Value.ownBlock]))
      have hs1 := HB1.out.size
      have hs0 := H3.out.size
      have hc5 : B ≤ (w1.alloc (.cells #[.iface 64 (.slice (some a) m cap1)] 20)).heap.size := by have := HB.out; simp; omega
      have HC5 := Lib.hid hc5
      have HS := Lib.hid (And.intro hs1 hs0)
      clear hx hs1 hs0 hc5
      go_wp2_with (at_builtin; refine wpList_append_lies _ rfl _ _ 64 rfl B 20 i0 .nilIface 1 16 Try.underlying64 hi0 hz0 hz1 hz2 rfl (by decide) (.slice G i cap) i ys rfl (HOWN.out.alloc _) ⟨w1.heap.size, 0, none⟩ 1 1 [.iface 64 (.slice (some a) m cap1)] rfl rfl (news_one _ _ _) (one_mem rfl) (by decide) (by unfold maxLen; omega) (by omega) HC5.out _ rfl ?_; intro g' cap' w3 hown2 hgrow hat hlt; refine Hid.out ?_)
      refine Lib.hid ?_
      have HO2 := Lib.hid hown2
      have HG2 := Lib.hid hgrow
      have HAT := Lib.hid hat
      clear hown2 hgrow hat hlt
      go_wp2_with fail
      go_roundg mm
      case measure => exact Nat.lt_succ_self mm
      case rel =>
        have hob : (Value.slice G i cap).ownBlock = G.map (·.block) := by cases G <;> rfl
        have hat : G.map (·.block) = some g' ∨ g' = w1.heap.size + 1 := by
          rcases HAT.out with h | h
          · exact .inl (by rw [← hob]; exact h)
          · exact .inr (by rw [h]; simp)
        have hg1 : ∀ g, G.map (·.block) = some g → g < wr.heap.size := fun g hg => (H1.out.lt g (by rw [hob]; exact hg)).2
        have hgB : ∀ g, G.map (·.block) = some g → B ≤ g := fun g hg => (H1.out.lt g (by rw [hob]; exact hg)).1
        obtain ⟨q3, q4⟩ := HS.out
        have hne : ∀ b, b < w1.heap.size + 1 → G.map (·.block) ≠ some b → b ≠ g' := fun b hb h e => by
          rcases hat with h' | h'
          · exact h (by rw [h', e])
          · omega
        have k2 : Kept wr w3 (fun b => B ≤ b ∧ G.map (·.block) ≠ some b) (fun b => B ≤ b ∧ (some (⟨g', 0, none⟩ : Addr)).map (·.block) ≠ some b) := fun b ⟨hb1, hb2⟩ hb3 => by
          refine ⟨⟨hb1, fun e => hne b (by omega) hb2 (by simpa using e.symm)⟩, ?_⟩
          rw [HG2.out.block b (by simp; omega) (by rw [hob]; exact Ne.symm hb2), Below.heap_alloc _ _ _ (by omega), HB1.out.block b (by omega)]
        have k3 : Kept w1 w3 (fun b => wr.heap.size ≤ b) (fun b => B ≤ b ∧ (some (⟨g', 0, none⟩ : Addr)).map (·.block) ≠ some b) := fun b hb1 hb3 => by
          have := HB.out
          have hb1' : wr.heap.size ≤ b := hb1
          have hG : G.map (·.block) ≠ some b := fun e => by have := hg1 b e; omega
          refine ⟨⟨by omega, fun e => hne b (by omega) hG (by simpa using e.symm)⟩, ?_⟩
          rw [HG2.out.block b (by simp; omega) (by rw [hob]; exact Ne.symm hG), Below.heap_alloc _ _ _ hb3]
        refine ⟨i + 1, some ⟨g', 0, none⟩, cap', ys ++ [.iface 64 (.slice (some a) m cap1)], rfl, by simp, by have := HIK.out; omega, HO2, Lib.hid ?_, Lib.hid ?_⟩
        · rw [List.take_add_one, List.getElem?_eq_getElem hi', ← HL.out, List.map_append]
          exact GoVs.snoc (GoVs.keep k2 _ H2.out) (GoV.keep k3 _ HX.out)
        · have := HB.out
          exact ((H3.out.trans (HB1.out.mono (by omega))).alloc (by omega) _).grown HG2.out (by simp; omega) (fun k hk => hgB k (by rw [← hob]; exact hk))
end Go.Proofs.Ytlkfdjnkkooofaa.Vals
