/- What reads as an impl.Value IS one in memory (IsV). -/
import Derived.Test.YtkikkeegdooenaaGreatDoorVals
import Derived.ChangeArms
import Derived.SliceStrings
import Derived.KernelRfl
import Derived.WalkKit
import Derived.ProofKit
import Derived.OpenShut
namespace Go.Proofs.YtkikkeegdooenaaGreatDoor.Vals
open Go.RowKit Go.ChangeShapes Go.WideShapes Go.Deep
set_option linter.unusedVariables false
set_option maxRecDepth 20000
section
variable {H : Type} {enc : TypeId × Value → H} {w : World} {base : Nat} {sp : Nat → Bool} {hd : Bool}
theorem trod_float {P : Program} {fuel : Nat} {t : TypeId} {k : FloatKind} {cs : List Value} {x : DataW H × List MemPlace} (ht : P.underlying t = some (.float k)) (h : DataW.trod enc P w base sp hd fuel t cs = some x) : ∃ n, cs = [.float k n] := by
  cases fuel with
  | zero => simp [DataW.trod] at h
  | succ n =>
    unfold DataW.trod at h
    rw [ht] at h
    split at h <;> simp_all
theorem valueCells : Tryz.prog.cellsOf 42 = 6 := by kernel_rfl
theorem textCells : Tryz.prog.cellsOf 9 = 1 := by kernel_rfl
theorem cellsInt : Tryz.prog.cellsOf 3 = 1 := by kernel_rfl
theorem cellsInt64 : Tryz.prog.cellsOf 2 = 1 := by kernel_rfl
theorem cellsReal : Tryz.prog.cellsOf 40 = 1 := by kernel_rfl
theorem cellsKeys : Tryz.prog.cellsOf 23 = 1 := by kernel_rfl
theorem cellsList : Tryz.prog.cellsOf 27 = 1 := by kernel_rfl
theorem i64_of {n : Int} (h : (Lit.int .i64 n).wf = true) : I64 n := by
  simp only [Lit.wf, IntKind.min, IntKind.max, IntKind.signed, IntKind.bits, Bool.and_eq_true, decide_eq_true_eq, if_true] at h
  unfold I64; omega
/-- An address that holds a cell is a plain one. -/
theorem plain_of {a : Addr} {u : Value} (h : w.cell? a = some u) : a = ⟨a.block, a.off, none⟩ := by
  have := World.cell?_spot h
  cases a; simp_all
theorem add_eq {a : Addr} (h : a = ⟨a.block, a.off, none⟩) (j : Nat) : (⟨a.block, a.off + j, none⟩ : Addr) = a.add j := by
  obtain ⟨b, o, s⟩ := a
  obtain rfl : s = none := by injection h
  unfold Addr.add
  split
  · rename_i h0; subst h0; rfl
  · rfl
/-- A row of elements, each read by itself. -/
theorem row_of {α : Type} (R : α → List Value → Prop) (s : Nat) (a : Addr) (n : Nat) (h : ∀ i, i < n → ∃ v c, R v c ∧ c.length = s ∧ ∀ j, j < s → w.cell? ((a.add (i * s)).add j) = c[j]?) :
    ∃ (l : List α) (cs : List (List Value)), l.length = n ∧ cs.length = n ∧ (∀ i (h : i < l.length) (h' : i < cs.length), R l[i] cs[i] ∧ cs[i].length = s) ∧ ∀ i (h : i < cs.length) j, j < s → w.cell? (a.add (i * s + j)) = cs[i][j]? := by
  induction n with
  | zero => exact ⟨[], [], rfl, rfl, fun i h => absurd h (by simp), fun i h => absurd h (by simp)⟩
  | succ n ih =>
    obtain ⟨l, cs, h1, h2, h3, h4⟩ := ih (fun i hi => h i (by omega))
    obtain ⟨v, c, hv, hc, hj⟩ := h n (by omega)
    refine ⟨l ++ [v], cs ++ [c], by simp [h1], by simp [h2], fun i hi hi' => ?_, fun i hi j hjs => ?_⟩
    · by_cases hin : i < n
      · rw [List.getElem_append_left (by omega), List.getElem_append_left (by omega)]; exact h3 i (by omega) (by omega)
      · have : i = n := by simp at hi; omega
        subst this
        rw [List.getElem_append_right (by omega), List.getElem_append_right (by omega)]
        simp [h1, h2, hv, hc]
    · by_cases hin : i < n
      · rw [List.getElem_append_left (by omega)]; exact h4 i (by omega) j hjs
      · have : i = n := by simp at hi; omega
        subst this
        rw [List.getElem_append_right (by omega)]
        have := hj j hjs
        rw [add_add] at this
        simpa [h2] using this
theorem flatten_get (s : Nat) : ∀ (cs : List (List Value)), (∀ i (h : i < cs.length), cs[i].length = s) → cs.flatten.length = cs.length * s ∧ ∀ i (h : i < cs.length) j, j < s → cs.flatten[i * s + j]? = cs[i][j]?
  | [], _ => ⟨by simp, fun i h => absurd h (by simp)⟩
  | c :: r, h => by
    obtain ⟨h1, h2⟩ := flatten_get s r (fun i hi => h (i + 1) (by simpa using hi))
    have hc : c.length = s := h 0 (by simp)
    refine ⟨by rw [List.flatten_cons, List.length_append, h1, hc, List.length_cons, Nat.add_mul]; omega, fun i hi j hj => ?_⟩
    rw [List.flatten_cons]
    cases i with
    | zero => rw [Nat.zero_mul, Nat.zero_add, List.getElem?_append_left (by omega)]; rfl
    | succ i =>
      rw [List.getElem?_append_right (by rw [hc, Nat.add_mul]; omega), hc, show (i + 1) * s + j - s = i * s + j by rw [Nat.add_mul]; omega]
      simpa using h2 i (by simpa using hi) j hj

theorem isV_of_trod : ∀ (fuel : Nat) (cs : List Value) (x : DataW H × List MemPlace), DataW.trod enc Tryz.prog w base sp hd fuel 42 cs = some x → ∃ v, IsV w (fun b => b < w.heap.size) v cs := by
  intro fuel
  induction fuel using Nat.strongRecOn with
  | _ fuel ih =>
    intro cs x h
    obtain ⟨ys, n, hn, hx, hlen, hyl, hf⟩ := DataW.trod_struct Tryz.underlying42 h
    rw [valueCells] at hlen
    match cs, hlen with
    | [c0, c1, c2, c3, c4, c5], _ =>
    match ys, hyl with
    | [y0, y1, y2, y3, y4, y5], _ =>
    have q0 : DataW.trod enc Tryz.prog w base sp hd n 3 [c0] = some y0 := by
      have h : DataW.trod enc Tryz.prog w base sp hd n 3 ((([c0, c1, c2, c3, c4, c5] : List Value).drop 0).take (Tryz.prog.cellsOf 3)) = some y0 := hf 0 _ rfl
      rw [cellsInt] at h; exact h
    have q1 : DataW.trod enc Tryz.prog w base sp hd n 2 [c1] = some y1 := by
      have h : DataW.trod enc Tryz.prog w base sp hd n 2 ((([c0, c1, c2, c3, c4, c5] : List Value).drop 1).take (Tryz.prog.cellsOf 2)) = some y1 := hf 1 _ rfl
      rw [cellsInt64] at h; exact h
    have q2 : DataW.trod enc Tryz.prog w base sp hd n 40 [c2] = some y2 := by
      have h : DataW.trod enc Tryz.prog w base sp hd n 40 ((([c0, c1, c2, c3, c4, c5] : List Value).drop 2).take (Tryz.prog.cellsOf 40)) = some y2 := hf 2 _ rfl
      rw [cellsReal] at h; exact h
    have q3 : DataW.trod enc Tryz.prog w base sp hd n 9 [c3] = some y3 := by
      have h : DataW.trod enc Tryz.prog w base sp hd n 9 ((([c0, c1, c2, c3, c4, c5] : List Value).drop 3).take (Tryz.prog.cellsOf 9)) = some y3 := hf 3 _ rfl
      rw [textCells] at h; exact h
    have q4 : DataW.trod enc Tryz.prog w base sp hd n 23 [c4] = some y4 := by
      have h : DataW.trod enc Tryz.prog w base sp hd n 23 ((([c0, c1, c2, c3, c4, c5] : List Value).drop 4).take (Tryz.prog.cellsOf 23)) = some y4 := hf 4 _ rfl
      rw [cellsKeys] at h; exact h
    have q5 : DataW.trod enc Tryz.prog w base sp hd n 27 [c5] = some y5 := by
      have h : DataW.trod enc Tryz.prog w base sp hd n 27 ((([c0, c1, c2, c3, c4, c5] : List Value).drop 5).take (Tryz.prog.cellsOf 27)) = some y5 := hf 5 _ rfl
      rw [cellsList] at h; exact h
    obtain ⟨k, hk, _, wk⟩ := DataW.trod_int Tryz.underlying3 q0
    obtain ⟨m, hm, _, wm⟩ := DataW.trod_int Tryz.underlying2 q1
    obtain ⟨r, hr⟩ := trod_float Tryz.underlying40 q2
    obtain ⟨t, ht, _, wt⟩ := DataW.trod_string Tryz.underlying9 q3
    obtain rfl : c0 = .int .i64 k := by simpa using hk
    obtain rfl : c1 = .int .i64 m := by simpa using hm
    obtain rfl : c2 = .float .f64 r := by simpa using hr
    obtain rfl : c3 = .string t := by simpa using ht
    have hkeys : ∃ ks : List ByteArray, (∀ x ∈ ks, x.size ≤ maxLen) ∧ RowIs w (fun b => b < w.heap.size) 1 c4 ks.length (ks.map .string) := by
      rcases open_strings Tryz.underlying23 Tryz.underlying9 textCells q4 with ⟨hcs, _⟩ | ⟨a, len, cap, ss, hcs, _, hl, hm, hz, _, hcell, hw⟩
      · obtain rfl : c4 = .slice none 0 0 := by simpa using hcs
        exact ⟨[], by simp, none, 0, rfl, by simp, by unfold maxLen; omega, by simp, fun h => absurd h (by simp)⟩
      · obtain rfl : c4 = .slice (some a) len cap := by simpa using hcs
        have hss : len ≤ ss.length := by rw [hz]; split <;> omega
        have hlen : (ss.take len).length = len := by rw [List.length_take]; omega
        refine ⟨ss.take len, fun x hx => hw x (List.mem_of_mem_take hx), some a, cap, by rw [hlen], by rw [hlen]; exact hl, hm, by simp, fun h0 => ?_⟩
        have h00 := hcell 0 (by omega)
        rw [show a.add 0 = a by unfold Addr.add; rfl] at h00
        have hp := plain_of h00
        refine ⟨a.block, a.off, by rw [← hp], World.block_lt_of_cell? w _ h00, fun j u hu => ?_⟩
        rw [List.getElem?_map] at hu
        cases hj : (ss.take len)[j]? with
        | none => rw [hj] at hu; cases hu
        | some s =>
          rw [hj] at hu
          have hjl : j < ss.length := by have := (List.getElem?_eq_some_iff.1 hj).1; omega
          have := hcell j hjl
          rw [add_eq hp j]
          rw [this]
          have e : ss[j]? = some s := by
            rw [List.getElem?_take] at hj
            split at hj
            · exact hj
            · cases hj
          simp only [Option.map_some, Option.some.injEq] at hu
          rw [← hu, List.getD_eq_getElem?_getD, e]; rfl
    have hlist : ∃ (l : List V) (xs : List Value), RowIs w (fun b => b < w.heap.size) 6 c5 l.length xs ∧ IsVs w (fun b => b < w.heap.size) l xs := by
      rcases DataW.trod_slice Tryz.underlying27 q5 with ⟨hcs, _⟩ | ⟨a, len, cap, elems, rest, n', hn', hcs, _, hb, hl, hm, hel, hat, _⟩
      · obtain rfl : c5 = .slice none 0 0 := by simpa using hcs
        exact ⟨[], [], ⟨none, 0, rfl, by simp, by unfold maxLen; omega, by simp, fun h => absurd h (by simp)⟩, by unfold IsVs; rfl⟩
      · obtain rfl : c5 = .slice (some a) len cap := by simpa using hcs
        obtain ⟨l, css, h1, h2, h3, h4⟩ := row_of (w := w) (fun v c => IsV w (fun b => b < w.heap.size) v c) 6 a len (fun i hi => by
          have := hat i hi
          rw [List.getElem?_eq_getElem (by omega), valueCells] at this
          cases hc : w.cells? base (a.add (i * 6)) 6 with
          | none => rw [hc] at this; cases this
          | some c =>
            rw [hc] at this
            obtain ⟨v, hv⟩ := ih n' (by omega) c _ this
            obtain ⟨_, hcl, hcj⟩ := World.cells?_some hc
            exact ⟨v, c, hv, hcl, fun j hj => hcj j hj⟩)
        obtain ⟨f1, f2⟩ := flatten_get 6 css (fun i hi => (h3 i (by omega) hi).2)
        refine ⟨l, css.flatten, ⟨some a, cap, by rw [h1], by omega, hm, by rw [f1, h2, h1], fun h0 => ?_⟩, IsVs.mk (by rw [f1, h2, h1]) fun i hi => ?_⟩
        · have h00 := h4 0 (by omega) 0 (by omega)
          rw [show a.add (0 * 6 + 0) = a by unfold Addr.add; rfl, List.getElem?_eq_getElem (by have := (h3 0 (by omega) (by omega)).2; omega)] at h00
          have hp := plain_of h00
          refine ⟨a.block, a.off, by rw [← hp], World.block_lt_of_cell? w _ h00, fun j u hu => ?_⟩
          have hjl : j < css.flatten.length := (List.getElem?_eq_some_iff.1 hu).1
          have hj6 : j / 6 < css.length := by rw [f1] at hjl; omega
          have e := f2 (j / 6) hj6 (j % 6) (Nat.mod_lt _ (by omega))
          rw [show j / 6 * 6 + j % 6 = j by omega, hu] at e
          rw [add_eq hp j]
          have := h4 (j / 6) hj6 (j % 6) (Nat.mod_lt _ (by omega))
          rw [show j / 6 * 6 + j % 6 = j by omega] at this
          rw [this, ← e]
        · exact ⟨css[i]'(by omega), (h3 i hi (by omega)).1, fun j hj => f2 i (by omega) j hj⟩
    obtain ⟨ks, hw, hks⟩ := hkeys
    obtain ⟨l, xs, hl1, hl2⟩ := hlist
    exact ⟨.mk k m r t ks l, by unfold IsV; exact ⟨c4, c5, xs, rfl, i64_of wk, i64_of wm, wt, hw, hks, hl1, hl2⟩⟩
/-- A slice of values that reads. -/
theorem isVs_of_trod (fuel : Nat) (c5 : Value) (x : DataW H × List MemPlace) (q5 : DataW.trod enc Tryz.prog w base sp hd fuel 27 [c5] = some x) : ∃ (l : List V) (xs : List Value), RowIs w (fun b => b < w.heap.size) 6 c5 l.length xs ∧ IsVs w (fun b => b < w.heap.size) l xs := by
  rcases DataW.trod_slice Tryz.underlying27 q5 with ⟨hcs, _⟩ | ⟨a, len, cap, elems, rest, n', hn', hcs, _, hb, hl, hm, hel, hat, _⟩
  · obtain rfl : c5 = .slice none 0 0 := by simpa using hcs
    exact ⟨[], [], ⟨none, 0, rfl, by simp, by unfold maxLen; omega, by simp, fun h => absurd h (by simp)⟩, by unfold IsVs; rfl⟩
  · obtain rfl : c5 = .slice (some a) len cap := by simpa using hcs
    obtain ⟨l, css, h1, h2, h3, h4⟩ := row_of (w := w) (fun v c => IsV w (fun b => b < w.heap.size) v c) 6 a len (fun i hi => by
      have := hat i hi
      rw [List.getElem?_eq_getElem (by omega), valueCells] at this
      cases hc : w.cells? base (a.add (i * 6)) 6 with
      | none => rw [hc] at this; cases this
      | some c =>
        rw [hc] at this
        obtain ⟨v, hv⟩ := isV_of_trod n' c _ this
        obtain ⟨_, hcl, hcj⟩ := World.cells?_some hc
        exact ⟨v, c, hv, hcl, fun j hj => hcj j hj⟩)
    obtain ⟨f1, f2⟩ := flatten_get 6 css (fun i hi => (h3 i (by omega) hi).2)
    refine ⟨l, css.flatten, ⟨some a, cap, by rw [h1], by omega, hm, by rw [f1, h2, h1], fun h0 => ?_⟩, IsVs.mk (by rw [f1, h2, h1]) fun i hi => ?_⟩
    · have h00 := h4 0 (by omega) 0 (by omega)
      rw [show a.add (0 * 6 + 0) = a by unfold Addr.add; rfl, List.getElem?_eq_getElem (by have := (h3 0 (by omega) (by omega)).2; omega)] at h00
      have hp := plain_of h00
      refine ⟨a.block, a.off, by rw [← hp], World.block_lt_of_cell? w _ h00, fun j u hu => ?_⟩
      have hjl : j < css.flatten.length := (List.getElem?_eq_some_iff.1 hu).1
      have hj6 : j / 6 < css.length := by rw [f1] at hjl; omega
      have e := f2 (j / 6) hj6 (j % 6) (Nat.mod_lt _ (by omega))
      rw [show j / 6 * 6 + j % 6 = j by omega, hu] at e
      rw [add_eq hp j]
      have := h4 (j / 6) hj6 (j % 6) (Nat.mod_lt _ (by omega))
      rw [show j / 6 * 6 + j % 6 = j by omega] at this
      rw [this, ← e]
    · exact ⟨css[i]'(by omega), (h3 i hi (by omega)).1, fun j hj => f2 i (by omega) j hj⟩
/-- A parameter that is a value. -/
theorem open_value {r : Reach} {b0 : Nat} {v : Value} {d : DataW H} {p : List MemPlace} (hv : Value.okWide Tryz.prog w r b0 42 v) (h : DataW.Trod enc Tryz.prog w base sp hd 42 v d p) :
    ∃ (V : V) (kv lv : Value), v = .agg #[.int .i64 V.k, .int .i64 V.n, .float .f64 V.r, .string V.t, kv, lv] ∧ IsV w (fun b => b < w.heap.size) V [.int .i64 V.k, .int .i64 V.n, .float .f64 V.r, .string V.t, kv, lv] := by
  obtain ⟨cs, rfl, hsz⟩ := okWide_struct Tryz.underlying42 hv
  obtain ⟨fuel, hf⟩ := h
  obtain ⟨V, hV⟩ := isV_of_trod fuel _ _ hf
  obtain ⟨kv, lv, hc⟩ := hV.open_
  rw [hc] at hV
  refine ⟨V, kv, lv, ?_, hV⟩
  obtain ⟨l⟩ := cs
  have : l = [.int .i64 V.k, .int .i64 V.n, .float .f64 V.r, .string V.t, kv, lv] := hc
  rw [this]
/-- A parameter that is a slice of values. -/
theorem open_values {r : Reach} {b0 : Nat} {v : Value} {d : DataW H} {p : List MemPlace} (hv : Value.okWide Tryz.prog w r b0 27 v) (h : DataW.Trod enc Tryz.prog w base sp hd 27 v d p) :
    ∃ (A : Option Addr) (c : Nat) (l : List V) (xs : List Value), v = .slice A l.length c ∧ RowIs w (fun b => b < w.heap.size) 6 (.slice A l.length c) l.length xs ∧ IsVs w (fun b => b < w.heap.size) l xs := by
  obtain ⟨A, n, c, rfl⟩ := okWide_slice Tryz.underlying27 hv
  obtain ⟨fuel, hf⟩ := h
  obtain ⟨l, xs, h1, h2⟩ := isVs_of_trod fuel _ _ hf
  obtain ⟨A', c', hc, _⟩ := h1.form
  injection hc with e1 e2 e3
  subst e2
  exact ⟨A, c, l, xs, rfl, h1, h2⟩
end
end Go.Proofs.YtkikkeegdooenaaGreatDoor.Vals
