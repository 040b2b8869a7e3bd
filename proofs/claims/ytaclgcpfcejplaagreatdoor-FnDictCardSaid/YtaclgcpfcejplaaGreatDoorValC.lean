/- Lists of lists: how they stand in memory; append of a row; walks of sprig.Concat, impl.Concat. -/
import Derived.Test.YtaclgcpfcejplaaGreatDoorValU
import Derived.Test.YtaclgcpfcejplaaGreatDoorValO
namespace Go.Proofs.YtaclgcpfcejplaaGreatDoor.Vals
open Go.RowKit Go.ChangeShapes Go.WideShapes Go.Deep Go.Proofs.YtaclgcpfcejplaaGreatDoorW.PrintWords Go.Proofs.YtaclgcpfcejplaaGreatDoor.Txt
set_option linter.unusedVariables false
set_option maxRecDepth 20000

section
variable {P : Program} (w : World)
/-- append of nothing: a nil source. -/
theorem run_append_nothing (base : Nat) (t ty e : TypeId) (i : TypeInfo) (size : Nat) (ht : P.underlying t = some (.slice e)) (hi : P.info? e = some i)
    (v : Value) (n : Nat) (xs : List Value) (hown : w.ownsRow base e size v n xs) (c : Nat) : (Builtin.append_ #[t, t] ty #[v, .slice none 0 c]).run P w = .ok v w := by
  rcases hown.2 with ⟨rfl, rfl⟩ | ⟨g, cap, cur, rfl, _, _, hnc, _⟩
  · simp [Builtin.append_, run_underlying ht, sizeOf, typeInfo, hi, Builtin.lenOf, Builtin.firstCells]
  · simp [Builtin.append_, run_underlying ht, sizeOf, typeInfo, hi, Builtin.lenOf, Builtin.firstCells, hnc, storeCells]
/-- append of a row that stands somewhere, nil or not. -/
theorem run_append_row (base : Nat) (t ty e : TypeId) (i : TypeInfo) (z : Value) (size bytes : Nat) (ht : P.underlying t = some (.slice e)) (hi : P.info? e = some i) (hz : i.zero = some z)
    (hsize : i.size = size) (hby : i.bytes = bytes) (hzs : z.cells.size = size) (hsz : 0 < size)
    (v : Value) (n : Nat) (xs : List Value) (hown : w.ownsRow base e size v n xs)
    (R : Nat → Prop) (A : Option Addr) (m c : Nat) (news : List Value) (hr : RowIs w R size (.slice A m c) m news) (h1 : ∀ u ∈ news, u.oneCell' = true)
    (h63 : n + m ≤ maxLen) (hbytes : (n + m) * bytes ≤ 140737488355328) (hbase : base ≤ w.heap.size) :
    ∃ G cap w', (Builtin.append_ #[t, t] ty #[v, .slice A m c]).run P w = .ok (.slice G (n + m) cap) w' ∧ w'.ownsRow base e size (.slice G (n + m) cap) (n + m) (xs ++ news) ∧ w.grownBy w' v.ownBlock ∧
      (G.map (·.block) = v.ownBlock ∨ G.map (·.block) = some w.heap.size) := by
  have hlen : news.length = m * size := by obtain ⟨_, _, _, _, _, h⟩ := hr.form; exact h
  have key : ∃ v' w', (Builtin.append_ #[t, t] ty #[v, .slice A m c]).run P w = .ok v' w' ∧ w'.ownsRow base e size v' (n + m) (xs ++ news) ∧ w.grownBy w' v.ownBlock ∧ (v'.ownBlock = v.ownBlock ∨ v'.ownBlock = some w.heap.size) := by
    rcases A with _ | ad
    · have hm : m = 0 := by
        rcases Nat.eq_zero_or_pos m with h0 | h0
        · exact h0
        · obtain ⟨_, _, h, _⟩ := hr.elem h0
          cases h
      subst hm
      have hn : news = [] := List.eq_nil_of_length_eq_zero (by simpa using hlen)
      subst hn
      exact ⟨v, w, run_append_nothing w base t ty e i size ht hi v n xs hown c, by simpa using hown, ⟨rfl, rfl, rfl, Nat.le_refl _, fun _ _ _ => rfl⟩, .inl rfl⟩
    · have hcells : ∀ j u, news[j]? = some u → w.cell? (ad.add j) = some u := fun j u hu => by
        have hjl := (List.getElem?_eq_some_iff.1 hu).1
        have h0 : 0 < m := by
          rcases Nat.eq_zero_or_pos m with h0 | h0
          · rw [hlen, h0, Nat.zero_mul] at hjl; omega
          · exact h0
        obtain ⟨b, o, h, _, hc⟩ := hr.elem h0
        injection h with h
        subst h
        rw [← Go.Proofs.YtaclgcpfcejplaaGreatDoor.Vals.add_eq rfl]
        exact hc j u hu
      obtain ⟨v', w', hrun, h2, h3, _, h5⟩ := run_append_own_at (P := P) w base t ty e i z size bytes ht hi hz hsize hby hzs hsz v n xs hown ad m c news hlen hcells h1 h63 hbytes hbase
      exact ⟨v', w', hrun, h2, h3, h5⟩
  obtain ⟨v', w', hrun, h2, h3, h5⟩ := key
  rcases h2.2 with ⟨rfl, h0⟩ | ⟨g, cap, cur, rfl, _⟩
  · rw [h0] at *
    exact ⟨none, 0, w', hrun, h2, h3, h5⟩
  · exact ⟨some ⟨g, 0, none⟩, cap, w', hrun, h2, h3, h5⟩
theorem wp_append_row {o : Oper} {a : Act} {K : Act → World → Prop} {Q : Exit → Act → World → Prop} (s x : Operand) (t : TypeId)
    (ho : o.op = .call { callee := .builtin .append, args := #[s, x], argTypes := #[t, t] })
    (base : Nat) (e : TypeId) (i : TypeInfo) (z : Value) (size bytes : Nat) (ht : P.underlying t = some (.slice e)) (hi : P.info? e = some i) (hz : i.zero = some z)
    (hsize : i.size = size) (hby : i.bytes = bytes) (hzs : z.cells.size = size) (hsz : 0 < size)
    (v : Value) (n : Nat) (xs : List Value) (hs : a.eval s = v) (hown : w.ownsRow base e size v n xs)
    (R : Nat → Prop) (A : Option Addr) (m c : Nat) (news : List Value) (hx : a.eval x = .slice A m c) (hr : RowIs w R size (.slice A m c) m news) (h1 : ∀ u ∈ news, u.oneCell' = true)
    (h63 : n + m ≤ maxLen) (hbytes : (n + m) * bytes ≤ 140737488355328) (hbase : base ≤ w.heap.size)
    (h : ∀ G cap w', w'.ownsRow base e size (.slice G (n + m) cap) (n + m) (xs ++ news) → w.grownBy w' v.ownBlock → (G.map (·.block) = v.ownBlock ∨ G.map (·.block) = some w.heap.size) → K (a.put o.dst (.slice G (n + m) cap)) w') : o.wp P a w K Q := by
  obtain ⟨G, cap, w', hrun, h2, h3, h4⟩ := run_append_row (P := P) w base t o.type e i z size bytes ht hi hz hsize hby hzs hsz v n xs hown R A m c news hr h1 h63 hbytes hbase
  unfold Oper.wp execOp
  simp only [ho, resolve, invoke, builtin, Sem.run_bind, Sem.run_pure, Result.andThen_ok, List.map_toArray, List.map_cons, List.map_nil, hs, hx, hrun]
  exact h G cap w' h2 h3 h4
theorem wpList_append_row {ops : Array Oper} {rest : List Oper} {o : Oper} {a : Act} {Q : Exit → Act → World → Prop} (hgd : o.guard = none) (s x : Operand) (t : TypeId)
    (ho : o.op = .call { callee := .builtin .append, args := #[s, x], argTypes := #[t, t] })
    (base : Nat) (e : TypeId) (i : TypeInfo) (z : Value) (size bytes : Nat) (ht : P.underlying t = some (.slice e)) (hi : P.info? e = some i) (hz : i.zero = some z)
    (hsize : i.size = size) (hby : i.bytes = bytes) (hzs : z.cells.size = size) (hsz : 0 < size)
    (v : Value) (n : Nat) (xs : List Value) (hs : a.eval s = v) (hown : w.ownsRow base e size v n xs)
    (R : Nat → Prop) (A : Option Addr) (m c : Nat) (news : List Value) (hx : a.eval x = .slice A m c) (hr : RowIs w R size (.slice A m c) m news) (h1 : ∀ u ∈ news, u.oneCell' = true)
    (h63 : n + m ≤ maxLen) (hbytes : (n + m) * bytes ≤ 140737488355328) (hbase : base ≤ w.heap.size)
    (h : ∀ G cap w', w'.ownsRow base e size (.slice G (n + m) cap) (n + m) (xs ++ news) → w.grownBy w' v.ownBlock → (G.map (·.block) = v.ownBlock ∨ G.map (·.block) = some w.heap.size) → wpList P ops Q rest (a.put o.dst (.slice G (n + m) cap)) w') : wpList P ops Q (o :: rest) a w :=
  wpList_plain hgd fun _ hK => wp_append_row w s x t ho base e i z size bytes ht hi hz hsize hby hzs hsz v n xs hs hown R A m c news hx hr h1 h63 hbytes hbase fun G cap w' h2 h3 h4 => hK _ _ (h G cap w' h2 h3 h4)
theorem step_append_row {ops : Array Oper} {o : Oper} {a : Act} {K : Act → World → Prop} {Q : Exit → Act → World → Prop} {E : Prop} (hgd : o.guard = none) (s x : Operand) (t : TypeId)
    (ho : o.op = .call { callee := .builtin .append, args := #[s, x], argTypes := #[t, t] })
    (base : Nat) (e : TypeId) (i : TypeInfo) (z : Value) (size bytes : Nat) (ht : P.underlying t = some (.slice e)) (hi : P.info? e = some i) (hz : i.zero = some z)
    (hsize : i.size = size) (hby : i.bytes = bytes) (hzs : z.cells.size = size) (hsz : 0 < size)
    (v : Value) (n : Nat) (xs : List Value) (hs : a.eval s = v) (hown : w.ownsRow base e size v n xs)
    (R : Nat → Prop) (A : Option Addr) (m c : Nat) (news : List Value) (hx : a.eval x = .slice A m c) (hr : RowIs w R size (.slice A m c) m news) (h1 : ∀ u ∈ news, u.oneCell' = true)
    (h63 : n + m ≤ maxLen) (hbytes : (n + m) * bytes ≤ 140737488355328) (hbase : base ≤ w.heap.size)
    (h : ∀ G cap w', w'.ownsRow base e size (.slice G (n + m) cap) (n + m) (xs ++ news) → w.grownBy w' v.ownBlock → (G.map (·.block) = v.ownBlock ∨ G.map (·.block) = some w.heap.size) → K (a.put o.dst (.slice G (n + m) cap)) w') :
    if Region.wanted o (yielded ops a.tmps) = true then Oper.wp P o a w K Q else E := by
  have hw : Region.wanted o (yielded ops a.tmps) = true := by simp [Region.wanted, hgd]
  rw [if_pos hw]
  exact wp_append_row w s x t ho base e i z size bytes ht hi hz hsize hby hzs hsz v n xs hs hown R A m c news hx hr h1 h63 hbytes hbase h
end

/-! ### lists of lists -/
/-- This slice header stands for a list of values. -/
def IsL (w : World) (P : Nat → Prop) (l : List V) (v : Value) : Prop := ∃ A c xs, v = .slice A l.length c ∧ RowIs w P 6 (.slice A l.length c) l.length xs ∧ IsVs w P l xs
def IsLs (w : World) (P : Nat → Prop) (L : List (List V)) (hs : List Value) : Prop := hs.length = L.length ∧ ∀ i (h : i < L.length) (h' : i < hs.length), IsL w P L[i] hs[i]
theorem IsL.keep {w w' : World} {P Q : Nat → Prop} {l : List V} {v : Value} (k : Kept w w' P Q) (h : IsL w P l v) : IsL w' Q l v := by
  obtain ⟨A, c, xs, h1, h2, h3⟩ := h
  exact ⟨A, c, xs, h1, h2.keep (by omega) k, IsVs.keep k l h3⟩
theorem IsLs.keep {w w' : World} {P Q : Nat → Prop} {L : List (List V)} {hs : List Value} (k : Kept w w' P Q) (h : IsLs w P L hs) : IsLs w' Q L hs := ⟨h.1, fun i hi hi' => (h.2 i hi hi').keep k⟩
theorem IsVs.append {w : World} {P : Nat → Prop} : ∀ {l : List V} {xs : List Value}, IsVs w P l xs → ∀ {m : List V} {ys : List Value}, IsVs w P m ys → IsVs w P (l ++ m) (xs ++ ys)
  | [], xs, h, m, ys, hm => by unfold IsVs at h; subst h; simpa using hm
  | u :: r, xs, h, m, ys, hm => by
    unfold IsVs at h; obtain ⟨d, d', rfl, h2, h3⟩ := h
    rw [List.cons_append]; unfold IsVs
    exact ⟨d, d' ++ ys, by simp, h2, IsVs.append h3 hm⟩
theorem IsVs.one {w : World} {P : Nat → Prop} : ∀ {l : List V} {xs : List Value}, IsVs w P l xs → ∀ u ∈ xs, u.oneCell' = true
  | [], xs, h => by unfold IsVs at h; subst h; simp
  | v :: r, xs, h => by
    unfold IsVs at h; obtain ⟨d, d', rfl, h2, h3⟩ := h
    intro u hu
    rcases List.mem_append.1 hu with hu | hu
    · exact h2.one u hu
    · exact IsVs.one h3 u hu
section
variable {H : Type} {enc : TypeId × Value → H} {w : World} {base : Nat} {sp : Nat → Bool} {hd : Bool}
end

/-! ### walks -/
def listV (l : List V) : V := .mk 6 0 0 ⟨#[]⟩ [] l
theorem GoV.list {w : World} {P : Nat → Prop} {l : List V} {x : Value} (h : GoV w P (listV l) x) : ∃ a c xs, x = .iface 39 (.slice (some a) l.length c) ∧ RowIs w P 1 (.slice (some a) l.length c) l.length xs ∧ GoVs w P l xs := by
  unfold listV GoV at h
  rcases h with ⟨h, _⟩ | ⟨h, _⟩ | ⟨h, _⟩ | ⟨h, _⟩ | ⟨h, _⟩ | ⟨h, _⟩ | ⟨_, a, c, xs, h1, h2, h3⟩ | ⟨h, _⟩
  iterate 6 omega
  · exact ⟨a, c, xs, h1, h2, h3⟩
  · omega
theorem GoV.mkList {w : World} {P : Nat → Prop} {l : List V} {a : Addr} {c : Nat} {xs : List Value} (h1 : RowIs w P 1 (.slice (some a) l.length c) l.length xs) (h2 : GoVs w P l xs) : GoV w P (listV l) (.iface 39 (.slice (some a) l.length c)) := by
  unfold listV GoV
  exact .inr (.inr (.inr (.inr (.inr (.inr (.inl ⟨rfl, a, c, xs, rfl, h1, h2⟩))))))
theorem flat_take_succ {L : List (List V)} {i : Nat} (h : i < L.length) : (L.take (i + 1)).flatten = (L.take i).flatten ++ L[i] := by
  rw [List.take_add_one, List.getElem?_eq_getElem h]
  simp only [Option.toList_some, List.flatten_append, List.flatten_cons, List.flatten_nil, List.append_nil]
theorem flat_take_le (L : List (List V)) (i : Nat) : (L.take i).flatten.length ≤ L.flatten.length := by
  have h : L.flatten = (L.take i).flatten ++ (L.drop i).flatten := by rw [← List.flatten_append, List.take_append_drop]
  rw [h, List.length_append]; omega
def CatRes (m : List V) (w : World) (e : Ending) (w' : World) : Prop := ∃ G c ys, e = .returned (.iface 39 (.slice G m.length c)) ∧
  Hid (RowIs w' (fun _ => True) 1 (.slice G m.length c) m.length ys ∧ GoVs w' (fun _ => True) m ys) ∧ Hid (Below w.heap.size w w')
end Go.Proofs.YtaclgcpfcejplaaGreatDoor.Vals
