/- Values of impl.Value in memory (IsV) and values as Go has them (GoV): what they stand for; how a reading of an argument gives one; how both are kept from world to world. -/
import Derived.Test.YtjaeihbfkmflkaaDoorProg
import Derived.Test.YtjaeihbfkmflkaaDoorTxt
import Derived.Deep.Slices
import Derived.Deep.Fields
import Derived.Deep.AppendLies
import Derived.SliceStrings
import Derived.Below
import Derived.ChangeSame
import Derived.KernelRfl
import Derived.WalkKit
import Derived.Laws.FloatArith
import Derived.BigCall
import Derived.WalkLawsBesides
import Derived.WalkSpells
import Derived.Outline
import Derived.Lib.Hide
import Derived.BigQuiet
import Derived.Deep.DeepCutAuto
import Derived.OwnWalk
import Derived.MapKept
import Derived.ChangeMaps4
import Derived.Carry
import Derived.IntWalk
import Derived.Maps.RangeWalk
import Derived.Sort.OwnSorted
import Derived.Sort.Walk0
namespace Go.Proofs.YtjaeihbfkmflkaaDoor.Vals
open Go.RowKit Go.ChangeShapes Go.WideShapes Go.Deep
set_option linter.unusedVariables false

/-- A value as data. -/
inductive V where
  | mk (k n : Int) (r : Nat) (t : ByteArray) (ks : List ByteArray) (l : List V)
def V.k : V → Int | .mk k _ _ _ _ _ => k
def V.n : V → Int | .mk _ n _ _ _ _ => n
def V.r : V → Nat | .mk _ _ r _ _ _ => r
def V.t : V → ByteArray | .mk _ _ _ t _ _ => t
def V.ks : V → List ByteArray | .mk _ _ _ _ ks _ => ks
def V.l : V → List V | .mk _ _ _ _ _ l => l
theorem V.eta (v : V) : V.mk v.k v.n v.r v.t v.ks v.l = v := by cases v; rfl

theorem V.lt_of_get (v : V) (i : Nat) (h : i < v.l.length) : SizeOf.sizeOf v.l[i] < SizeOf.sizeOf v := by
  have := List.sizeOf_lt_of_mem (List.getElem_mem h)
  cases v with
  | mk k n r t ks l => simp only [V.l, V.mk.sizeOf_spec] at *; omega

/-- Within 64 bits. -/
def I64 (n : Int) : Prop := -9223372036854775808 ≤ n ∧ n ≤ 9223372036854775807

/-- A slice value whose n elements (s cells each) are xs; they lie in a block that P lets in. -/
def RowIs (w : World) (P : Nat → Prop) (s : Nat) (v : Value) (n : Nat) (xs : List Value) : Prop :=
  ∃ A c, v = .slice A n c ∧ n ≤ c ∧ c ≤ maxLen ∧ xs.length = n * s ∧ (0 < n → ∃ b o, A = some ⟨b, o, none⟩ ∧ P b ∧ ∀ j u, xs[j]? = some u → w.cell? ⟨b, o + j, none⟩ = some u)

mutual
/-- These six cells stand for the value. -/
def IsV (w : World) (P : Nat → Prop) : V → List Value → Prop
  | .mk k n r t ks l, cs => ∃ kv lv xs, cs = [.int .i64 k, .int .i64 n, .float .f64 r, .string t, kv, lv] ∧ I64 k ∧ I64 n ∧ t.size ≤ maxLen ∧ (∀ x ∈ ks, x.size ≤ maxLen) ∧
      RowIs w P 1 kv ks.length (ks.map .string) ∧ RowIs w P 6 lv l.length xs ∧ IsVs w P l xs
def IsVs (w : World) (P : Nat → Prop) : List V → List Value → Prop
  | [], xs => xs = []
  | v :: r, xs => ∃ c c', xs = c ++ c' ∧ IsV w P v c ∧ IsVs w P r c'
end

mutual
/-- This Go value stands for the value. -/
def GoV (w : World) (P : Nat → Prop) : V → Value → Prop
  | .mk k n r t ks l, x =>
    (k = 0 ∧ x = .nilIface) ∨ (k = 1 ∧ x = .iface 4 (.bool (n == 1))) ∨ (k = 2 ∧ x = .iface 3 (.int .i64 n)) ∨ (k = 3 ∧ x = .iface 2 (.int .i64 n)) ∨
    (k = 4 ∧ x = .iface 38 (.float .f64 r)) ∨ (k = 5 ∧ x = .iface 9 (.string t)) ∨
    (k = 6 ∧ ∃ a c xs, x = .iface 112 (.slice (some a) l.length c) ∧ RowIs w P 1 (.slice (some a) l.length c) l.length xs ∧ GoVs w P l xs) ∨
    (k = 7 ∧ ∃ b es clk xs, x = .iface 66 (.map (some b)) ∧ P b ∧ w.heap[b]? = some (.map es clk) ∧ (∀ e ∈ es, e.born < clk) ∧ (es.toList.map (·.born)).Nodup ∧ es.size ≤ maxLen ∧
      ks.length = l.length ∧ (es.toList.map fun e => (e.key, e.val)).Perm ((ks.map Value.string).zip xs) ∧ GoVs w P l xs)
def GoVs (w : World) (P : Nat → Prop) : List V → List Value → Prop
  | [], xs => xs = []
  | v :: r, xs => ∃ x xr, xs = x :: xr ∧ GoV w P v x ∧ GoVs w P r xr
end

/-! ### from world to world -/
/-- What P lets in of the first world is as it was in the second one, and Q lets it in. -/
def Kept (w w' : World) (P Q : Nat → Prop) : Prop := ∀ b, P b → b < w.heap.size → Q b ∧ w'.heap[b]? = w.heap[b]?
theorem Kept.refl (w : World) (P : Nat → Prop) : Kept w w P P := fun _ h _ => ⟨h, rfl⟩
theorem Kept.heap {w w' : World} {P : Nat → Prop} (h : w'.heap = w.heap) : Kept w w' P P := fun b hp _ => ⟨hp, by rw [h]⟩
theorem Kept.mono {w : World} {P Q : Nat → Prop} (h : ∀ b, P b → b < w.heap.size → Q b) : Kept w w P Q := fun b hp hl => ⟨h b hp hl, rfl⟩
theorem Kept.below {w w' : World} {P : Nat → Prop} (h : Below w.heap.size w w') : Kept w w' P P := fun b hp hl => ⟨hp, h.block b hl⟩
theorem Kept.grown {w w' : World} {P : Nat → Prop} {row : Option Nat} (h : w.grownBy w' row) (hp : ∀ b, P b → some b ≠ row) : Kept w w' P P := fun b hb hl => ⟨hb, h.block b hl (hp b hb)⟩
theorem Kept.set {w : World} {P : Nat → Prop} {a : Addr} (u : Value) (hp : ∀ b, P b → b ≠ a.block) : Kept w (w.setCell a u) P P := fun b hb _ => ⟨hb, Below.heap_setCell _ _ _ _ (hp b hb)⟩
theorem Kept.trans {w w1 w2 : World} {P Q R : Nat → Prop} (h : Kept w w1 P Q) (h1 : Kept w1 w2 Q R) : Kept w w2 P R := fun b hp hl => by
  obtain ⟨hq, e⟩ := h b hp hl
  have hl1 : b < w1.heap.size := by
    rcases Nat.lt_or_ge b w1.heap.size with h2 | h2
    · exact h2
    · rw [Array.getElem?_eq_none h2] at e; rw [Array.getElem?_eq_getElem hl] at e; cases e
  obtain ⟨hr, e1⟩ := h1 b hq hl1
  exact ⟨hr, e1.trans e⟩

section
variable {w w' : World} {P Q : Nat → Prop}
theorem RowIs.keep {s n : Nat} {v : Value} {xs : List Value} (h : RowIs w P s v n xs) (hs : 0 < s) (k : Kept w w' P Q) : RowIs w' Q s v n xs := by
  obtain ⟨A, c, hv, h1, h2, h3, h4⟩ := h
  refine ⟨A, c, hv, h1, h2, h3, fun hn => ?_⟩
  obtain ⟨b, o, hA, hP, hc⟩ := h4 hn
  have hl : 0 < xs.length := by rw [h3]; exact Nat.mul_pos hn hs
  have hb : b < w.heap.size := World.block_lt_of_cell? w ⟨b, o + 0, none⟩ (hc 0 _ (List.getElem?_eq_getElem hl))
  obtain ⟨hq, e⟩ := k b hP hb
  exact ⟨b, o, hA, hq, fun j u hu => (World.cell?_of_block (w := w) (a := ⟨b, o + j, none⟩) e).trans (hc j u hu)⟩
mutual
theorem IsV.keep (k : Kept w w' P Q) : ∀ (v : V) {cs : List Value}, IsV w P v cs → IsV w' Q v cs
  | .mk _ _ _ _ _ l, cs, h => by
    unfold IsV at h ⊢
    obtain ⟨kv, lv, xs, h1, h2, h3, h4, h5, h6, h7, h8⟩ := h
    exact ⟨kv, lv, xs, h1, h2, h3, h4, h5, h6.keep (by omega) k, h7.keep (by omega) k, IsVs.keep k l h8⟩
theorem IsVs.keep (k : Kept w w' P Q) : ∀ (l : List V) {xs : List Value}, IsVs w P l xs → IsVs w' Q l xs
  | [], xs, h => by unfold IsVs at h ⊢; exact h
  | v :: r, xs, h => by
    unfold IsVs at h ⊢
    obtain ⟨c, c', h1, h2, h3⟩ := h
    exact ⟨c, c', h1, IsV.keep k v h2, IsVs.keep k r h3⟩
end
mutual
theorem GoV.keep (k : Kept w w' P Q) : ∀ (v : V) {x : Value}, GoV w P v x → GoV w' Q v x
  | .mk _ _ _ _ _ l, x, h => by
    unfold GoV at h ⊢
    rcases h with h | h | h | h | h | h | ⟨hk, a, c, xs, h1, h2, h3⟩ | ⟨hk, b, es, clk, xs, h1, h2, h3, h4, h5, h6, h7, h8, h9⟩
    · exact .inl h
    · exact .inr (.inl h)
    · exact .inr (.inr (.inl h))
    · exact .inr (.inr (.inr (.inl h)))
    · exact .inr (.inr (.inr (.inr (.inl h))))
    · exact .inr (.inr (.inr (.inr (.inr (.inl h)))))
    · exact .inr (.inr (.inr (.inr (.inr (.inr (.inl ⟨hk, a, c, xs, h1, h2.keep (by omega) k, GoVs.keep k l h3⟩))))))
    · have hb : b < w.heap.size := (Array.getElem?_eq_some_iff.1 h3).1
      obtain ⟨hq, e⟩ := k b h2 hb
      exact .inr (.inr (.inr (.inr (.inr (.inr (.inr ⟨hk, b, es, clk, xs, h1, hq, e.trans h3, h4, h5, h6, h7, h8, GoVs.keep k l h9⟩))))))
theorem GoVs.keep (k : Kept w w' P Q) : ∀ (l : List V) {xs : List Value}, GoVs w P l xs → GoVs w' Q l xs
  | [], xs, h => by unfold GoVs at h ⊢; exact h
  | v :: r, xs, h => by
    unfold GoVs at h ⊢
    obtain ⟨c, c', h1, h2, h3⟩ := h
    exact ⟨c, c', h1, GoV.keep k v h2, GoVs.keep k r h3⟩
end
end

/-! ### lists -/
section
variable {w : World} {P : Nat → Prop}
theorem IsV.len {v : V} {cs : List Value} (h : IsV w P v cs) : cs.length = 6 := by
  cases v; unfold IsV at h; obtain ⟨kv, lv, xs, rfl, _⟩ := h; rfl
theorem IsV.open_ {v : V} {cs : List Value} (h : IsV w P v cs) : ∃ kv lv, cs = [.int .i64 v.k, .int .i64 v.n, .float .f64 v.r, .string v.t, kv, lv] := by
  cases v; unfold IsV at h; obtain ⟨kv, lv, xs, rfl, _⟩ := h; exact ⟨kv, lv, rfl⟩
theorem IsV.parts {v : V} {c0 c1 c2 c3 kv lv : Value} (h : IsV w P v [c0, c1, c2, c3, kv, lv]) : ∃ xs, RowIs w P 1 kv v.ks.length (v.ks.map .string) ∧ RowIs w P 6 lv v.l.length xs ∧ IsVs w P v.l xs ∧ I64 v.k ∧ I64 v.n ∧ v.t.size ≤ maxLen ∧ (∀ x ∈ v.ks, x.size ≤ maxLen) := by
  cases v with
  | mk k n r t ks l =>
    unfold IsV at h
    obtain ⟨kv', lv', xs, h1, h2, h3, h4, h5, h6, h7, h8⟩ := h
    simp only [List.cons.injEq] at h1
    obtain ⟨_, _, _, _, rfl, rfl, _⟩ := h1
    exact ⟨xs, h6, h7, h8, h2, h3, h4, h5⟩
theorem IsVs.len : ∀ {l : List V} {xs : List Value}, IsVs w P l xs → xs.length = l.length * 6
  | [], xs, h => by unfold IsVs at h; subst h; rfl
  | v :: r, xs, h => by
    unfold IsVs at h; obtain ⟨c, c', rfl, h2, h3⟩ := h
    rw [List.length_append, h2.len, IsVs.len h3, List.length_cons]; omega
theorem IsVs.at_ : ∀ {l : List V} {xs : List Value}, IsVs w P l xs → ∀ i (h : i < l.length), ∃ c, IsV w P l[i] c ∧ c.length = 6 ∧ ∀ j, j < 6 → xs[i * 6 + j]? = c[j]?
  | [], xs, _, i, h => absurd h (by simp)
  | v :: r, xs, h, i, hi => by
    unfold IsVs at h; obtain ⟨c, c', rfl, h2, h3⟩ := h
    cases i with
    | zero => exact ⟨c, h2, h2.len, fun j hj => by rw [Nat.zero_mul, Nat.zero_add, List.getElem?_append_left (by rw [h2.len]; exact hj)]⟩
    | succ i =>
      obtain ⟨d, hd, hl, hj⟩ := IsVs.at_ h3 i (by simpa using hi)
      refine ⟨d, by simpa using hd, hl, fun j h => ?_⟩
      rw [List.getElem?_append_right (by rw [h2.len]; omega), h2.len, show (i + 1) * 6 + j - 6 = i * 6 + j by omega]
      exact hj j h
theorem IsVs.mk : ∀ {l : List V} {xs : List Value}, xs.length = l.length * 6 → (∀ i (h : i < l.length), ∃ c, IsV w P l[i] c ∧ ∀ j, j < 6 → xs[i * 6 + j]? = c[j]?) → IsVs w P l xs
  | [], xs, h, _ => by unfold IsVs; exact List.eq_nil_of_length_eq_zero (by simpa using h)
  | v :: r, xs, h, hh => by
    unfold IsVs
    obtain ⟨c, hc, hj⟩ := hh 0 (by simp)
    have hl := hc.len
    refine ⟨c, xs.drop 6, ?_, by simpa using hc, IsVs.mk (by rw [List.length_drop, h, List.length_cons]; omega) fun i hi => ?_⟩
    · have e : xs.take 6 = c := by
        apply List.ext_getElem?
        intro j
        rw [List.getElem?_take]
        by_cases h6 : j < 6
        · rw [if_pos h6]; have := hj j h6; simpa using this
        · rw [if_neg h6, List.getElem?_eq_none (by omega)]
      rw [← e, List.take_append_drop]
    · obtain ⟨d, hd, hdj⟩ := hh (i + 1) (by simpa using hi)
      refine ⟨d, by simpa using hd, fun j h6 => ?_⟩
      rw [List.getElem?_drop, ← hdj j h6]
      congr 1; omega
theorem IsVs.snoc : ∀ {l : List V} {xs : List Value}, IsVs w P l xs → ∀ {v : V} {c : List Value}, IsV w P v c → IsVs w P (l ++ [v]) (xs ++ c)
  | [], xs, h, v, c, hc => by unfold IsVs at h; subst h; simp only [List.nil_append]; unfold IsVs; exact ⟨c, [], by simp, hc, by unfold IsVs; rfl⟩
  | u :: r, xs, h, v, c, hc => by
    unfold IsVs at h; obtain ⟨d, d', rfl, h2, h3⟩ := h
    rw [List.cons_append]; unfold IsVs
    exact ⟨d, d' ++ c, by rw [List.append_assoc], h2, IsVs.snoc h3 hc⟩
theorem IsVs.take : ∀ {l : List V} {xs : List Value}, IsVs w P l xs → ∀ n, IsVs w P (l.take n) (xs.take (n * 6))
  | [], xs, h, n => by unfold IsVs at h; subst h; simp; unfold IsVs; rfl
  | v :: r, xs, h, n => by
    unfold IsVs at h; obtain ⟨c, c', rfl, h2, h3⟩ := h
    cases n with
    | zero => simp; unfold IsVs; rfl
    | succ n =>
      rw [List.take_succ_cons]; unfold IsVs
      refine ⟨c, c'.take (n * 6), ?_, h2, IsVs.take h3 n⟩
      rw [List.take_append, h2.len, show (n + 1) * 6 - 6 = n * 6 by omega, List.take_of_length_le (by rw [h2.len]; omega)]
theorem IsVs.drop : ∀ {l : List V} {xs : List Value}, IsVs w P l xs → ∀ n, IsVs w P (l.drop n) (xs.drop (n * 6))
  | [], xs, h, n => by unfold IsVs at h; subst h; simp; unfold IsVs; rfl
  | v :: r, xs, h, n => by
    cases n with
    | zero => simpa using h
    | succ n =>
      unfold IsVs at h; obtain ⟨c, c', rfl, h2, h3⟩ := h
      rw [List.drop_succ_cons, List.drop_append, h2.len, show (n + 1) * 6 - 6 = n * 6 by omega, show c.drop ((n + 1) * 6) = [] from List.drop_eq_nil_of_le (by rw [h2.len]; omega), List.nil_append]
      exact IsVs.drop h3 n
theorem GoVs.len : ∀ {l : List V} {xs : List Value}, GoVs w P l xs → xs.length = l.length
  | [], xs, h => by unfold GoVs at h; subst h; rfl
  | v :: r, xs, h => by
    unfold GoVs at h; obtain ⟨c, c', rfl, h2, h3⟩ := h
    rw [List.length_cons, GoVs.len h3, List.length_cons]
theorem GoVs.at_ : ∀ {l : List V} {xs : List Value}, GoVs w P l xs → ∀ i (h : i < l.length), ∃ x, xs[i]? = some x ∧ GoV w P l[i] x
  | [], xs, _, i, h => absurd h (by simp)
  | v :: r, xs, h, i, hi => by
    unfold GoVs at h; obtain ⟨c, c', rfl, h2, h3⟩ := h
    cases i with
    | zero => exact ⟨c, rfl, h2⟩
    | succ i =>
      obtain ⟨d, hd, hl⟩ := GoVs.at_ h3 i (by simpa using hi)
      exact ⟨d, by simpa using hd, by simpa using hl⟩
theorem GoVs.mk : ∀ {l : List V} {xs : List Value}, xs.length = l.length → (∀ i (h : i < l.length), ∃ x, xs[i]? = some x ∧ GoV w P l[i] x) → GoVs w P l xs
  | [], xs, h, _ => by unfold GoVs; exact List.eq_nil_of_length_eq_zero (by simpa using h)
  | v :: r, [], h, _ => absurd h (by simp)
  | v :: r, x :: xr, h, hh => by
    unfold GoVs
    obtain ⟨c, hc, hj⟩ := hh 0 (by simp)
    obtain rfl : x = c := by simpa using hc
    refine ⟨x, xr, rfl, by simpa using hj, GoVs.mk (by simpa using h) fun i hi => ?_⟩
    obtain ⟨d, hd, hdj⟩ := hh (i + 1) (by simpa using hi)
    exact ⟨d, by simpa using hd, by simpa using hdj⟩
theorem GoVs.snoc : ∀ {l : List V} {xs : List Value}, GoVs w P l xs → ∀ {v : V} {x : Value}, GoV w P v x → GoVs w P (l ++ [v]) (xs ++ [x])
  | [], xs, h, v, c, hc => by unfold GoVs at h; subst h; simp only [List.nil_append]; unfold GoVs; exact ⟨c, [], by simp, hc, by unfold GoVs; rfl⟩
  | u :: r, xs, h, v, c, hc => by
    unfold GoVs at h; obtain ⟨d, d', rfl, h2, h3⟩ := h
    rw [List.cons_append]; unfold GoVs
    exact ⟨d, d' ++ [c], by simp, h2, GoVs.snoc h3 hc⟩
theorem GoVs.append : ∀ {l : List V} {xs : List Value}, GoVs w P l xs → ∀ {m : List V} {ys : List Value}, GoVs w P m ys → GoVs w P (l ++ m) (xs ++ ys)
  | [], xs, h, m, ys, hm => by unfold GoVs at h; subst h; simpa using hm
  | u :: r, xs, h, m, ys, hm => by
    unfold GoVs at h; obtain ⟨d, d', rfl, h2, h3⟩ := h
    rw [List.cons_append]; unfold GoVs
    exact ⟨d, d' ++ ys, by simp, h2, GoVs.append h3 hm⟩
theorem RowIs.form {s n : Nat} {v : Value} {xs : List Value} (h : RowIs w P s v n xs) : ∃ A c, v = .slice A n c ∧ n ≤ c ∧ c ≤ maxLen ∧ xs.length = n * s := by
  obtain ⟨A, c, h1, h2, h3, h4, _⟩ := h; exact ⟨A, c, h1, h2, h3, h4⟩
theorem RowIs.sizes {s n c m : Nat} {A : Option Addr} {xs : List Value} (h : RowIs w P s (.slice A n c) m xs) : n ≤ c ∧ c ≤ maxLen := by
  obtain ⟨A', c', h1, h2, h3, _⟩ := h
  injection h1 with h1 h4 h5
  subst h4; subst h5; exact ⟨h2, h3⟩
/-- The cells of an element. -/
theorem RowIs.elem {s n c : Nat} {A : Option Addr} {xs : List Value} (h : RowIs w P s (.slice A n c) n xs) (hn : 0 < n) : ∃ b o, A = some ⟨b, o, none⟩ ∧ P b ∧ ∀ j u, xs[j]? = some u → w.cell? ⟨b, o + j, none⟩ = some u := by
  obtain ⟨A', c', h1, _, _, _, h5⟩ := h
  injection h1 with h1 h2 h3
  subst h1; exact h5 hn
/-- The six cells of an element of a slice of values. -/
theorem IsVs.elem {l : List V} {A : Option Addr} {c : Nat} {xs : List Value} (hl : RowIs w P 6 (.slice A l.length c) l.length xs) (hv : IsVs w P l xs) : ∀ i (hi : i < l.length), ∃ b o kv lv, A = some ⟨b, o, none⟩ ∧ b < w.heap.size ∧ P b ∧
    IsV w P l[i] [.int .i64 l[i].k, .int .i64 l[i].n, .float .f64 l[i].r, .string l[i].t, kv, lv] ∧
    (w.cell? ⟨b, o + i * 6, none⟩ = some (.int .i64 l[i].k) ∧ w.cell? ⟨b, o + i * 6 + 1, none⟩ = some (.int .i64 l[i].n) ∧ w.cell? ⟨b, o + i * 6 + 2, none⟩ = some (.float .f64 l[i].r) ∧
      w.cell? ⟨b, o + i * 6 + 3, none⟩ = some (.string l[i].t) ∧ w.cell? ⟨b, o + i * 6 + 4, none⟩ = some kv ∧ w.cell? ⟨b, o + i * 6 + 5, none⟩ = some lv) := fun i hi => by
  obtain ⟨b, o, hA, hP, hc⟩ := hl.elem (by omega)
  obtain ⟨cs, hcs, hcl, hx⟩ := hv.at_ i hi
  obtain ⟨kv', lv', rfl⟩ := hcs.open_
  have f0 := hc (i * 6 + 0) _ (hx 0 (by omega))
  have f1 := hc (i * 6 + 1) _ (hx 1 (by omega))
  have f2 := hc (i * 6 + 2) _ (hx 2 (by omega))
  have f3 := hc (i * 6 + 3) _ (hx 3 (by omega))
  have f4 := hc (i * 6 + 4) _ (hx 4 (by omega))
  have f5 := hc (i * 6 + 5) _ (hx 5 (by omega))
  exact ⟨b, o, kv', lv', hA, World.block_lt_of_cell? w _ f0, hP, hcs, f0, f1, f2, f3, f4, f5⟩
/-- What a row of the call's own holds. -/
theorem RowIs.of_own {base s n : Nat} {e : TypeId} {v : Value} {xs : List Value} (h : w.ownsRow base e s v n xs) (hP : ∀ b, v.ownBlock = some b → P b) : RowIs w P s v n xs := by
  rcases h.2 with ⟨rfl, rfl⟩ | ⟨g, cap, cur, rfl, hb, hg, h1, h2, h3, h4⟩
  · exact ⟨none, 0, rfl, Nat.le_refl _, by unfold maxLen; omega, h.1, fun hn => absurd hn (by omega)⟩
  · refine ⟨_, cap, rfl, h1, h2, h.1, fun _ => ⟨g, 0, rfl, hP g rfl, fun j u hu => ?_⟩⟩
    have := h.cells (g := g) rfl j u hu
    rw [Nat.zero_add, ← Go.Proofs.YtjaeihbfkmflkaaDoorW.PrintWords.add_plain]; exact this
end
end Go.Proofs.YtjaeihbfkmflkaaDoor.Vals
namespace Go.Proofs.YtjaeihbfkmflkaaDoor.Vals
open Go.RowKit
set_option linter.unusedVariables false

/-- Floats that are alike by ==. -/
def feq (a b : Nat) : Bool := FloatKind.f64.format.order a b == some .eq
theorem feq_def (a b : Nat) : feq a b = (FloatKind.f64.format.order a b == some .eq) := rfl
theorem cmp_eq (x y : Int) : compare x y = .eq ↔ x = y := by
  simp only [compare, compareOfLessAndEq]
  split <;> rename_i h
  · exact ⟨fun h' => (by cases h'), fun h' => (by omega)⟩
  · split <;> rename_i h'
    · exact ⟨fun _ => h', fun _ => rfl⟩
    · exact ⟨fun h2 => (by cases h2), fun h2 => absurd h2 h'⟩
theorem datum_symm (a b : Ieee.Datum) : (a.order b == some .eq) = (b.order a == some .eq) := by
  cases a <;> cases b <;> simp only [Ieee.Datum.order]
  case number.number s m i t n j =>
    rw [Int.min_comm j i]
    rw [Bool.eq_iff_iff]; simp only [beq_iff_eq, Option.some.injEq, cmp_eq]; exact eq_comm
  case infinity.infinity s t => cases s <;> cases t <;> rfl
  case number.infinity s m i t => cases t <;> rfl
  case infinity.number t s m i => cases t <;> rfl
theorem feq_symm (a b : Nat) : feq a b = feq b a := datum_symm _ _
theorem datum_refl (a : Ieee.Datum) : (a.order a == some .eq) = !a.isNaN := by
  cases a with
  | number s m i =>
    simp only [Ieee.Datum.order, Ieee.Datum.isNaN]
    have := (cmp_eq (Ieee.signed s m (i - min i i).toNat) _).2 rfl
    rw [this]; rfl
  | infinity s => cases s <;> rfl
  | nan s f => rfl
theorem feq_refl (a : Nat) : feq a a = !(FloatKind.f64.decode a).isNaN := datum_refl _
theorem feq_nan {a b : Nat} (h : (FloatKind.f64.decode a).isNaN = true) : feq a b = false := by
  unfold feq FloatKind.decode at *
  unfold Ieee.Format.order
  cases he : FloatKind.f64.format.read a <;> rw [he] at h <;> simp_all [Ieee.Datum.isNaN, Ieee.Datum.order]
theorem feq_refl_of {a b : Nat} (h : feq a b = true) : feq a a = true := by
  rw [feq_refl]
  cases hn : (FloatKind.f64.decode a).isNaN with
  | false => rfl
  | true => rw [feq_nan hn] at h; cases h
theorem feq_zero : feq 0 0 = true := by decide
/-- A float that less itself is something is no NaN. -/
theorem sub_some {r q : Nat} (h : floatBits .sub .f64 r r = some q) : feq r r = true := by
  rw [feq_refl]
  unfold floatBits at h
  simp only [Ieee.Format.sub, FloatKind.decode] at *
  cases he : FloatKind.f64.format.read r <;> rw [he] at h <;> simp_all [Ieee.Datum.isNaN, Ieee.Datum.sum]
theorem nan_bits (t : Nat) (x y : Nat) : (FloatKind.f64.decode ((Question.nanBits .f64 x y).cut t)).isNaN = true := by
  have hcut : (Question.nanBits .f64 x y).cut t = (t % 2) * 2 ^ 63 + 0x7ff0000000000000 + 1 + (t / 2) % (2 ^ 52 - 1) := rfl
  rw [hcut]
  have hj : (t / 2) % (2 ^ 52 - 1) < 2 ^ 52 - 1 := Nat.mod_lt _ (by decide)
  generalize (t / 2) % (2 ^ 52 - 1) = j at *
  have hs : t % 2 < 2 := Nat.mod_lt _ (by decide)
  generalize t % 2 = s at *
  have e1 : FloatKind.f64.format.signWeight = 9223372036854775808 := rfl
  have e2 : FloatKind.f64.format.binade = 4503599627370496 := rfl
  have e3 : FloatKind.f64.format.infRung = 9218868437227405312 := rfl
  have hm : (s * 2 ^ 63 + 0x7ff0000000000000 + 1 + j) % 9223372036854775808 = 9218868437227405312 + 1 + j := by omega
  unfold FloatKind.decode Ieee.Format.read
  simp only [e1, e2, e3, hm]
  rw [if_neg (by omega), if_neg (by omega), if_neg (by omega)]
  rfl
/-- A NaN comes of a sum that is none: its bits are drawn. -/
theorem run_sub_none {P : Program} (t : TypeId) (r : Nat) (h : floatBits .sub .f64 r r = none) (w : World) : ∃ q, (binOp .sub t (.float .f64 r) (.float .f64 r)).run P w = .ok (.float .f64 q) w.drew ∧ ∀ b, feq q b = false := by
  unfold floatBits at h
  refine ⟨(Question.nanBits .f64 r r).cut (w.tape w.drawn (Question.nanBits .f64 r r)), ?_, fun b => feq_nan (nan_bits _ _ _)⟩
  simp [binOp, Op.floatArith, h, Question.forced]
end Go.Proofs.YtjaeihbfkmflkaaDoor.Vals
namespace Go.Proofs.YtjaeihbfkmflkaaDoor.Vals
open Go.RowKit Go.Proofs.YtjaeihbfkmflkaaDoorW.PrintWords
set_option linter.unusedVariables false
set_option maxRecDepth 20000

/-- Two values without keys and lists. -/
def bareB (k n : Int) (r : Nat) (t : ByteArray) (k' n' : Int) (r' : Nat) (t' : ByteArray) : Bool :=
  decide (k = k') && (decide (n = n') && ((feq r r' || (!feq r r && !feq r' r')) && (t.toList == t'.toList)))

/-- A bool, whichever. -/
def SomeBool (Q : Bool → World → Prop) (e : Ending) (w' : World) : Prop := ∃ b, e = .returned (.bool b) ∧ Q b w'
end Go.Proofs.YtjaeihbfkmflkaaDoor.Vals
namespace Go.Proofs.YtjaeihbfkmflkaaDoor.Vals
open Go.RowKit Go.Proofs.YtjaeihbfkmflkaaDoorW.PrintWords
set_option linter.unusedVariables false
set_option maxRecDepth 20000

/-- An int within bounds. -/
def SomeInt (Q : Int → World → Prop) (e : Ending) (w' : World) : Prop := ∃ r, e = .returned (.int .i64 r) ∧ Q r w'

end Go.Proofs.YtjaeihbfkmflkaaDoor.Vals
namespace Go.Proofs.YtjaeihbfkmflkaaDoor.Vals
open Go.RowKit Go.Proofs.YtjaeihbfkmflkaaDoorW.PrintWords
set_option linter.unusedVariables false
set_option maxRecDepth 20000

/-- A float goes into a cell as it is. -/
theorem store_float (a : Addr) (b : Nat) (w : World) : (store a (.float .f64 b)).run Tryd.prog w = stored Tryd.prog w a (.float .f64 b) .plain := run_store _ w a _ .plain rfl

theorem below3 (w : World) (a b c : Obj) : Below w.heap.size w (((w.alloc a).alloc b).alloc c) :=
  (((Below.refl _ _).alloc (Nat.le_refl _) _).alloc (by simp) _).alloc (by simp; omega) _
/-- What a value of this kind may hold besides keys and a list. -/
def BareOf (k n : Int) (r : Nat) (t : ByteArray) (n' : Int) (r' : Nat) (t' : ByteArray) : Prop :=
  (0 ≤ k ∧ k ≤ 7) ∧ (n' = if k = 1 then bits .and .i64 n 1 else if k = 2 ∨ k = 3 then n else 0) ∧ (r' = if k = 4 then r else 0) ∧ (t' = if k = 5 then t else ⟨#[]⟩)

def leqB (a b : ByteArray) : Bool := Op.bytesLess a.toList b.toList || a.toList == b.toList
/-- What is asked of the i-th key. -/
def KeyOk (ks : List ByteArray) (i : Nat) : Prop := (ks.getD i ⟨#[]⟩).size ≤ 300 ∧ (0 < i → leqB (ks.getD i ⟨#[]⟩) (ks.getD (i - 1) ⟨#[]⟩) = false)
theorem BareOf.uniq {k n : Int} {r : Nat} {t : ByteArray} {n1 n2 : Int} {r1 r2 : Nat} {t1 t2 : ByteArray} (h1 : BareOf k n r t n1 r1 t1) (h2 : BareOf k n r t n2 r2 t2) : n1 = n2 ∧ r1 = r2 ∧ t1 = t2 :=
  ⟨h1.2.1.trans h2.2.1.symm, h1.2.2.1.trans h2.2.2.1.symm, h1.2.2.2.trans h2.2.2.2.symm⟩
/-- A float that less itself is 0. -/
def finB (r : Nat) : Bool := match floatBits .sub .f64 r r with | some q => feq q 0 | none => false
theorem finB_refl {r : Nat} (h : finB r = true) : feq r r = true := by
  unfold finB at h
  cases hs : floatBits .sub .f64 r r with
  | none => rw [hs] at h; cases h
  | some q => exact sub_some hs
mutual
/-- A right value, so many levels deep at most. -/
def Right : V → Int → Prop
  | .mk k n r t ks l, d => (∃ n' r' t', BareOf k n r t n' r' t' ∧ bareB k n r t k n' r' t' = true) ∧ finB r = true ∧ t.size ≤ 300 ∧ (k ≠ 6 → k ≠ 7 → l.length = 0) ∧ l.length ≤ 300 ∧ d ≠ 0 ∧
      (k ≠ 7 → ks.length = 0) ∧ (k = 7 → ks.length = l.length) ∧ (k = 7 → ∀ i, i < l.length → KeyOk ks i) ∧ Rights l (d - 1)
def Rights : List V → Int → Prop
  | [], _ => True
  | v :: r, d => Right v d ∧ Rights r d
end
theorem Rights.mk : ∀ {l : List V} {d : Int}, (∀ i (h : i < l.length), Right l[i] d) → Rights l d
  | [], _, _ => by unfold Rights; trivial
  | v :: r, d, h => by unfold Rights; exact ⟨h 0 (by simp), Rights.mk fun i hi => h (i + 1) (by simpa using hi)⟩
theorem Rights.at_ : ∀ {l : List V} {d : Int}, Rights l d → ∀ i (h : i < l.length), Right l[i] d
  | [], _, _, i, h => absurd h (by simp)
  | v :: r, d, h, i, hi => by
    unfold Rights at h
    cases i with
    | zero => exact h.1
    | succ i => exact Rights.at_ h.2 i (by simpa using hi)
noncomputable def rightB (v : V) (d : Int) : Bool := @decide (Right v d) (Classical.propDecidable _)
theorem rightB_no {v : V} {d : Int} (h : ¬ Right v d) : rightB v d = false := @decide_eq_false _ (Classical.propDecidable _) h
theorem rightB_yes {v : V} {d : Int} (h : Right v d) : rightB v d = true := @decide_eq_true _ (Classical.propDecidable _) h
theorem rightB_iff {v : V} {d : Int} : rightB v d = true ↔ Right v d := @decide_eq_true_iff _ (Classical.propDecidable _)
/-- A bool, this one. -/
def TheBool (r : Bool) (Q : World → Prop) (e : Ending) (w' : World) : Prop := ∃ b, e = .returned (.bool b) ∧ Hid (r = b) ∧ Q w'

end Go.Proofs.YtjaeihbfkmflkaaDoor.Vals
namespace Go.Proofs.YtjaeihbfkmflkaaDoor.Vals
open Go.RowKit
set_option linter.unusedVariables false

/-- A world that is as w was below block B. -/
structure Near (B : Nat) (w : World) where
  W : World
  h : Below B w W
instance (B : Nat) (w : World) : Nonempty (Near B w) := ⟨⟨w, Below.refl _ _⟩⟩
theorem Near.cell {B : Nat} {w : World} (x : Near B w) {b o : Nat} {v : Value} (hb : b < B) (h : w.cell? ⟨b, o, none⟩ = some v) : x.W.cell? ⟨b, o, none⟩ = some v :=
  (x.h.cell (p := ⟨b, o, none⟩) hb).trans h
theorem Near.size {B : Nat} {w : World} (x : Near B w) : w.heap.size ≤ x.W.heap.size := x.h.size
theorem Near.of {B : Nat} {w : World} (x : Near B w) {W : World} (h : Below x.W.heap.size x.W W) (hB : B ≤ w.heap.size) : ∃ y : Near B w, W = y.W :=
  ⟨⟨W, x.h.trans (h.mono (Nat.le_trans hB x.size))⟩, rfl⟩

theorem wp_region_near {P : Program} (B : Nat) (w0 : World) {id : Nat} {Q : Exit → Act → World → Prop} {a : Act} {w : World} {l : List Oper} (hm : P.follows .mixedOrders = true) (hB : Region.lexB .any l.toArray = true) (hw : Below B w0 w)
    (h : wpQuiet P l.toArray (fun w' => ∃ x : Near B w0, w' = x.W) (fun a' => ∀ w', (∃ x : Near B w0, w' = x.W) → Q .normal a' w') l a) : (Code.region id l.toArray true).wp P Q a w :=
  wp_region_quiet (C := fun w' => ∃ x : Near B w0, w' = x.W) hm hB ⟨⟨{ w with drawn := w.drawn + 1 }, ⟨hw.os, hw.tape, hw.output, hw.size, hw.block⟩⟩, rfl⟩ (by simpa using h)
end Go.Proofs.YtjaeihbfkmflkaaDoor.Vals
namespace Go.Proofs.YtjaeihbfkmflkaaDoor.Vals
open Go.RowKit Go.Proofs.YtjaeihbfkmflkaaDoorW.PrintWords
set_option linter.unusedVariables false
set_option maxRecDepth 20000

theorem ifaceInfo : (Tryd.prog.info? 20).map (fun i => (i.zero, i.size, i.bytes)) = some (some .nilIface, 1, 16) := by kernel_rfl
theorem GoV.one {w : World} {P : Nat → Prop} {v : V} {x : Value} (h : GoV w P v x) : x.oneCell' = true := by
  cases v
  unfold GoV at h
  rcases h with ⟨_, rfl⟩ | ⟨_, rfl⟩ | ⟨_, rfl⟩ | ⟨_, rfl⟩ | ⟨_, rfl⟩ | ⟨_, rfl⟩ | ⟨_, a, c, xs, rfl, _⟩ | ⟨_, b, es, clk, xs, rfl, _⟩ <;> rfl
theorem cells_one {x : Value} (h : x.oneCell' = true) : x.cells = #[x] := by cases x <;> first | rfl | cases h
theorem news_one (w : World) (x : Value) (t : TypeId) : ∀ j u, ([x] : List Value)[j]? = some u → (w.alloc (.cells #[x] t)).cell? ((⟨w.heap.size, 0, none⟩ : Addr).add j) = some u := by
  intro j u hj
  match j, hj with
  | 0, hj => simp at hj; subst hj; simp [Addr.add]
  | (j + 1), hj => simp at hj
theorem one_mem {x : Value} (h : x.oneCell' = true) : ∀ u ∈ ([x] : List Value), u.oneCell' = true := by
  intro u hu; simp at hu; subst hu; exact h
/-- What goOf answers for a value. -/
def GoRes (v : V) (w : World) (e : Ending) (w' : World) : Prop := ∃ x, e = .returned (.tuple #[x, .bool true]) ∧ Hid (GoV w' (fun b => w.heap.size ≤ b) v x) ∧ Hid (Below w.heap.size w w')
def GoListRes (l : List V) (w : World) (e : Ending) (w' : World) : Prop := ∃ a cap xs, e = .returned (.tuple #[.slice (some a) l.length cap, .bool true]) ∧
  Hid (RowIs w' (fun b => w.heap.size ≤ b) 1 (.slice (some a) l.length cap) l.length xs ∧ GoVs w' (fun b => w.heap.size ≤ b) l xs) ∧ Hid (Below w.heap.size w w')

end Go.Proofs.YtjaeihbfkmflkaaDoor.Vals
namespace Go.Proofs.YtjaeihbfkmflkaaDoor.Vals
open Go.RowKit Go.MapKept Go.ChangeMaps Go.Proofs.YtjaeihbfkmflkaaDoor.Txt
set_option linter.unusedVariables false

/-! ### the order of texts -/
theorem less_irrefl : ∀ a : List UInt8, Op.bytesLess a a = false
  | [] => rfl
  | x :: a => by
    simp only [Op.bytesLess, less_irrefl a, Bool.and_false, Bool.or_false]
    exact decide_eq_false (by rw [UInt8.lt_iff_toNat_lt]; omega)
theorem less_trans : ∀ a b c : List UInt8, Op.bytesLess a b = true → Op.bytesLess b c = true → Op.bytesLess a c = true
  | _, [], _, h, _ => by cases ‹List UInt8› <;> simp [Op.bytesLess] at h
  | _, _ :: _, [], _, h => by simp [Op.bytesLess] at h
  | [], _ :: _, _ :: _, _, _ => rfl
  | x :: a, y :: b, z :: c, h, k => by
    simp only [Op.bytesLess, Bool.or_eq_true, Bool.and_eq_true, decide_eq_true_eq, beq_iff_eq] at *
    rcases h with h | ⟨rfl, h⟩
    · rcases k with k | ⟨rfl, k⟩
      · left; rw [UInt8.lt_iff_toNat_lt] at *; omega
      · exact .inl h
    · rcases k with k | ⟨rfl, k⟩
      · exact .inl k
      · exact .inr ⟨rfl, less_trans a b c h k⟩
theorem less_total : ∀ a b : List UInt8, Op.bytesLess a b = false → Op.bytesLess b a = false → a = b
  | [], [], _, _ => rfl
  | [], _ :: _, h, _ => by simp [Op.bytesLess] at h
  | _ :: _, [], _, h => by simp [Op.bytesLess] at h
  | x :: a, y :: b, h, k => by
    simp only [Op.bytesLess, Bool.or_eq_false_iff, Bool.and_eq_false_iff, decide_eq_false_iff_not, beq_eq_false_iff_ne] at *
    obtain ⟨h1, h2⟩ := h
    obtain ⟨k1, k2⟩ := k
    have e : x = y := by
      rw [UInt8.lt_iff_toNat_lt] at h1 k1
      exact UInt8.toNat_inj.1 (by omega)
    subst e
    have h3 : Op.bytesLess a b = false := by rcases h2 with h2 | h2; exact absurd rfl h2; exact h2
    have k3 : Op.bytesLess b a = false := by rcases k2 with k2 | k2; exact absurd rfl k2; exact k2
    rw [less_total a b h3 k3]
/-- Not at most: more. -/
theorem not_leq {a b : List UInt8} (h : (Op.bytesLess a b || a == b) = false) : Op.bytesLess b a = true := by
  simp only [Bool.or_eq_false_iff, beq_eq_false_iff_ne] at h
  cases hb : Op.bytesLess b a with
  | true => rfl
  | false => exact absurd (less_total a b h.1 hb) h.2
theorem less_ne {a b : List UInt8} (h : Op.bytesLess a b = true) : a ≠ b := by
  rintro rfl; rw [less_irrefl] at h; cases h
theorem less_asymm {a b : List UInt8} (h : Op.bytesLess a b = true) : Op.bytesLess b a = false := by
  cases hb : Op.bytesLess b a with
  | false => rfl
  | true => have := less_trans _ _ _ h hb; rw [less_irrefl] at this; cases this
/-- Texts, each more than the one ahead of it. -/
def Asc (ks : List ByteArray) : Prop := ks.Pairwise fun a b => Op.bytesLess a.toList b.toList = true
theorem Asc.nodup {ks : List ByteArray} (h : Asc ks) : ks.Nodup := h.imp fun hh => fun e => less_ne hh (by rw [e])
theorem asc_of_steps : ∀ {ks : List ByteArray}, (∀ i, 0 < i → i < ks.length → (Op.bytesLess (ks.getD i ⟨#[]⟩).toList (ks.getD (i - 1) ⟨#[]⟩).toList || (ks.getD i ⟨#[]⟩).toList == (ks.getD (i - 1) ⟨#[]⟩).toList) = false) → Asc ks
  | [], _ => List.Pairwise.nil
  | [_], _ => List.pairwise_singleton _ _
  | a :: b :: r, h => by
    have ih : Asc (b :: r) := asc_of_steps fun i h0 hl => by
      have := h (i + 1) (by omega) (by simpa using hl)
      obtain ⟨j, rfl⟩ : ∃ j, i = j + 1 := ⟨i - 1, by omega⟩
      simpa using this
    have hab : Op.bytesLess a.toList b.toList = true := not_leq (by simpa using h 1 (by omega) (by simp))
    refine List.Pairwise.cons ?_ ih
    intro x hx
    rcases List.mem_cons.1 hx with rfl | hx
    · exact hab
    · exact less_trans _ _ _ hab ((List.pairwise_cons.1 ih).1 x hx)

/-! ### entries -/
theorem beq_bytes (a b : ByteArray) : (a == b) = decide (a = b) := by
  rw [Bool.eq_iff_iff, decide_eq_true_iff]; exact bytes_beq a b
section
variable {P : Program} {w : World} {mt kt et : TypeId} {b : Nat} {es : Array MapEntry} {clk : Nat}
/-- Keys that are texts. -/
def TextKeys (es : Array MapEntry) : Prop := ∀ e ∈ es.toList, ∃ s, e.key = .string s
theorem TextKeys.isKey (h : TextKeys es) : ∀ e ∈ es.toList, IsKey .string e.key := fun e he => by obtain ⟨s, hs⟩ := h e he; rw [hs]; trivial
theorem run_update_new (hm : P.underlying mt = some (.map kt et)) (hk : P.underlying kt = some .string) (hb : w.heap[b]? = some (.map es clk)) (ht : TextKeys es) (s : ByteArray) (x : Value) (hn : ∀ e ∈ es.toList, e.key ≠ .string s) :
    (Instr.mapUpdate mt (.map (some b)) (.string s) x).run P w = .ok () (setBlock w b (.map (es.push { key := .string s, val := x, born := clk }) (clk + 1))) := by
  have hf : Instr.findNow .string (.string s) es.toList 0 = some none := by
    rcases findNow_spec (d := .string) (k := .string s) trivial es.toList 0 ht.isKey with ⟨h, _⟩ | ⟨j, e, _, hj, he⟩
    · exact h
    · exact absurd he (hn e (List.mem_of_getElem? hj))
  unfold Instr.mapUpdate
  simp only [Sem.run_bind, run_underlying hm, Result.andThen, Go.MapKept.run_getObj_map hb, Go.MapKept.run_checkKey hk (show IsKey .string (.string s) from trivial), Go.MapKept.run_findKey hk hf, Go.MapKept.run_setObj_map _ hb]
  rfl
theorem sameBits_text (n : Nat) (s : ByteArray) : Instr.sameBits n (.string s) (.string s) = true := by
  cases n <;> (unfold Instr.sameBits; rw [beq_bytes]; simp)
theorem run_update_old (hm : P.underlying mt = some (.map kt et)) (hk : P.underlying kt = some .string) (hb : w.heap[b]? = some (.map es clk)) (ht : TextKeys es) (s : ByteArray) (x : Value) {e : MapEntry} (he : e ∈ es.toList) (hs : e.key = .string s) :
    ∃ (j : Nat) (e0 : MapEntry), es.toList[j]? = some e0 ∧ e0.key = .string s ∧ (Instr.mapUpdate mt (.map (some b)) (.string s) x).run P w = .ok () (setBlock w b (.map (es.modify j fun e => { e with key := .string s, val := x }) clk)) := by
  rcases findNow_spec (d := .string) (k := .string s) trivial es.toList 0 ht.isKey with ⟨_, h⟩ | ⟨j, e0, hf, hj, he0⟩
  · exact absurd hs (h e he)
  · refine ⟨j, e0, hj, he0, ?_⟩
    rw [Nat.zero_add] at hf
    have hj' : es[j]? = some e0 := by simpa using hj
    unfold Instr.mapUpdate
    simp only [Sem.run_bind, run_underlying hm, Result.andThen, Go.MapKept.run_getObj_map hb, Go.MapKept.run_checkKey hk (show IsKey .string (.string s) from trivial), Go.MapKept.run_findKey hk hf, hj', Option.map_some, Option.getD_some, he0, Instr.keyThatStays, sameBits_text, if_true, Sem.run_pure, Go.MapKept.run_setObj_map _ hb]
    rfl
theorem run_lookup_no (hm : P.underlying mt = some (.map kt et)) (hk : P.underlying kt = some .string) (hb : w.heap[b]? = some (.map es clk)) (ht : TextKeys es) (s : ByteArray) (hn : ∀ e ∈ es.toList, e.key ≠ .string s) {z : Value} (hz : (zeroValue et).run P w = .ok z w) (ok : Bool) :
    (Instr.lookup mt (.map (some b)) (.string s) ok).run P w = .ok (if ok then .tuple #[z, .bool false] else z) w := by
  have hf : Instr.findNow .string (.string s) es.toList 0 = some none := by
    rcases findNow_spec (d := .string) (k := .string s) trivial es.toList 0 ht.isKey with ⟨h, _⟩ | ⟨j, e, _, hj, he⟩
    · exact h
    · exact absurd he (hn e (List.mem_of_getElem? hj))
  unfold Instr.lookup
  simp only [Sem.run_bind, run_underlying hm, Result.andThen, Go.MapKept.run_getObj_map hb, Sem.run_pure, Go.MapKept.run_checkKey hk (show IsKey .string (.string s) from trivial), Go.MapKept.run_findKey hk hf, hz]
theorem run_lookup_yes (hm : P.underlying mt = some (.map kt et)) (hk : P.underlying kt = some .string) (hb : w.heap[b]? = some (.map es clk)) (ht : TextKeys es) (s : ByteArray) {e : MapEntry} (he : e ∈ es.toList) (hs : e.key = .string s) (hu : (es.toList.map (·.key)).Nodup) (ok : Bool) :
    (Instr.lookup mt (.map (some b)) (.string s) ok).run P w = .ok (if ok then .tuple #[e.val, .bool true] else e.val) w := by
  rcases findNow_spec (d := .string) (k := .string s) trivial es.toList 0 ht.isKey with ⟨_, h⟩ | ⟨j, e0, hf, hj, he0⟩
  · exact absurd hs (h e he)
  · have e1 : e0 = e := by
      obtain ⟨i, hi, rfl⟩ := List.mem_iff_getElem.1 he
      obtain ⟨hj1, hj2⟩ := List.getElem?_eq_some_iff.1 hj
      have hp := List.pairwise_iff_getElem.1 (List.pairwise_map.1 hu)
      have this : j = i := by
        rcases Nat.lt_trichotomy j i with h | h | h
        · exact absurd (by rw [hj2, he0, hs]) (hp j i hj1 hi h)
        · exact h
        · exact absurd (by rw [hj2, he0, hs]) (hp i j hi hj1 h)
      subst this
      exact hj2.symm
    subst e1
    unfold Instr.lookup
    simp only [Sem.run_bind, run_underlying hm, Result.andThen, Go.MapKept.run_getObj_map hb, Sem.run_pure, Go.MapKept.run_checkKey hk (show IsKey .string (.string s) from trivial), Go.MapKept.run_findKey hk hf]
end
theorem setBlock_at {w : World} {b : Nat} {o o' : Obj} (h : w.heap[b]? = some o) : (setBlock w b o').heap[b]? = some o' := (heap_set (o' := o') h).1
theorem setBlock_other {w : World} {b k : Nat} (o' : Obj) (h : k ≠ b) : (setBlock w b o').heap[k]? = w.heap[k]? := by
  unfold setBlock; simp [Ne.symm h]
theorem setBlock_size (w : World) (b : Nat) (o' : Obj) : (setBlock w b o').heap.size = w.heap.size := by unfold setBlock; simp
theorem below_setBlock {B b : Nat} {w w1 : World} (h : Below B w w1) (hb : B ≤ b) (o' : Obj) : Below B w (setBlock w1 b o') :=
  h.trans ⟨rfl, rfl, rfl, by rw [setBlock_size]; exact Nat.le_refl _, fun k hk => setBlock_other o' (by omega)⟩
end Go.Proofs.YtjaeihbfkmflkaaDoor.Vals
namespace Go.Proofs.YtjaeihbfkmflkaaDoor.Vals
open Go.RowKit Go.ChangeMaps Go.Proofs.YtjaeihbfkmflkaaDoorW.PrintWords
set_option linter.unusedVariables false
set_option maxRecDepth 20000

/-- A map's block that stands for the dictionary of these keys and values. -/
def MapIs (w : World) (P : Nat → Prop) (ks : List ByteArray) (l : List V) (b : Nat) : Prop :=
  ∃ es clk xs, P b ∧ w.heap[b]? = some (.map es clk) ∧ (∀ e ∈ es, e.born < clk) ∧ (es.toList.map (·.born)).Nodup ∧ es.size ≤ maxLen ∧
    ks.length = l.length ∧ (es.toList.map fun e => (e.key, e.val)).Perm ((ks.map Value.string).zip xs) ∧ GoVs w P l xs
theorem GoV.dict {w : World} {P : Nat → Prop} {n : Int} {r : Nat} {t : ByteArray} {ks : List ByteArray} {l : List V} {b : Nat} (h : MapIs w P ks l b) : GoV w P (.mk 7 n r t ks l) (.iface 66 (.map (some b))) := by
  obtain ⟨es, clk, xs, h1, h2, h3, h4, h5, h6, h7, h8⟩ := h
  unfold GoV
  exact .inr (.inr (.inr (.inr (.inr (.inr (.inr ⟨rfl, b, es, clk, xs, rfl, h1, h2, h3, h4, h5, h6, h7, h8⟩))))))
/-- The entries of a map that was filled in this order. -/
def entriesOf : Nat → List ByteArray → List Value → List MapEntry
  | i, k :: ks, x :: xs => { key := .string k, val := x, born := i } :: entriesOf (i + 1) ks xs
  | _, _, _ => []
theorem entriesOf_snoc : ∀ (i : Nat) (ks : List ByteArray) (xs : List Value) (k : ByteArray) (x : Value), ks.length = xs.length → entriesOf i (ks ++ [k]) (xs ++ [x]) = entriesOf i ks xs ++ [{ key := .string k, val := x, born := i + ks.length }]
  | i, [], [], k, x, _ => rfl
  | i, a :: ks, y :: xs, k, x, h => by
    simp only [List.cons_append, entriesOf]
    rw [entriesOf_snoc (i + 1) ks xs k x (by simpa using h)]
    simp only [List.length_cons]
    rw [show i + 1 + ks.length = i + (ks.length + 1) by omega]
  | i, [], y :: xs, k, x, h => by simp at h
  | i, a :: ks, [], k, x, h => by simp at h
theorem entriesOf_mem : ∀ {i : Nat} {ks : List ByteArray} {xs : List Value} {e : MapEntry}, e ∈ entriesOf i ks xs → ∃ k ∈ ks, e.key = .string k
  | i, [], xs, e, h => by cases xs <;> simp [entriesOf] at h
  | i, k :: ks, [], e, h => by simp [entriesOf] at h
  | i, k :: ks, x :: xs, e, h => by
    simp only [entriesOf] at h
    rcases List.mem_cons.1 h with rfl | h
    · exact ⟨k, by simp, rfl⟩
    · obtain ⟨k', hk, he⟩ := entriesOf_mem h
      exact ⟨k', by simp [hk], he⟩
theorem entriesOf_pairs : ∀ (i : Nat) (ks : List ByteArray) (xs : List Value), (entriesOf i ks xs).map (fun e => (e.key, e.val)) = (ks.map Value.string).zip xs
  | i, [], xs => by cases xs <;> simp [entriesOf]
  | i, k :: ks, [] => by simp [entriesOf]
  | i, k :: ks, x :: xs => by simp [entriesOf, entriesOf_pairs (i + 1) ks xs]
theorem entriesOf_born : ∀ (i : Nat) (ks : List ByteArray) (xs : List Value), (∀ e ∈ entriesOf i ks xs, i ≤ e.born ∧ e.born < i + ks.length) ∧ ((entriesOf i ks xs).map (·.born)).Nodup
  | i, [], xs => by cases xs <;> simp [entriesOf]
  | i, k :: ks, [] => by simp [entriesOf]
  | i, k :: ks, x :: xs => by
    obtain ⟨h1, h2⟩ := entriesOf_born (i + 1) ks xs
    simp only [entriesOf]
    refine ⟨fun e he => ?_, ?_⟩
    · rcases List.mem_cons.1 he with rfl | he
      · simp
      · have := h1 e he; simp only [List.length_cons]; omega
    · rw [List.map_cons, List.nodup_cons]
      refine ⟨fun hm => ?_, h2⟩
      obtain ⟨e, he, heq⟩ := List.mem_map.1 hm
      have := h1 e he
      simp only at heq
      omega
theorem entriesOf_len : ∀ (i : Nat) (ks : List ByteArray) (xs : List Value), ks.length = xs.length → (entriesOf i ks xs).length = ks.length
  | i, [], xs, _ => by cases xs <;> simp [entriesOf]
  | i, k :: ks, [], h => by simp at h
  | i, k :: ks, x :: xs, h => by simp only [entriesOf, List.length_cons]; rw [entriesOf_len (i + 1) ks xs (by simpa using h)]

def GoDictRes (ks : List ByteArray) (l : List V) (w : World) (e : Ending) (w' : World) : Prop := ∃ b, e = .returned (.tuple #[.map (some b), .bool true]) ∧
  Hid (MapIs w' (fun b => w.heap.size ≤ b) ks l b) ∧ Hid (Below w.heap.size w w')

end Go.Proofs.YtjaeihbfkmflkaaDoor.Vals
namespace Go.Proofs.YtjaeihbfkmflkaaDoor.Vals
open Go.RowKit Go.ChangeMaps Go.Proofs.YtjaeihbfkmflkaaDoorW.PrintWords
set_option linter.unusedVariables false
set_option maxRecDepth 20000

theorem Right.kind {k n : Int} {r : Nat} {t : ByteArray} {ks : List ByteArray} {l : List V} {d : Int} (h : Right (.mk k n r t ks l) d) : 0 ≤ k ∧ k ≤ 7 := by
  unfold Right at h
  obtain ⟨⟨_, _, _, hb, _⟩, _⟩ := h
  exact hb.1
theorem MapIs.keep {w w' : World} {P Q : Nat → Prop} {ks : List ByteArray} {l : List V} {b : Nat} (k : Kept w w' P Q) (h : MapIs w P ks l b) : MapIs w' Q ks l b := by
  obtain ⟨es, clk, xs, h1, h2, h3, h4, h5, h6, h7, h8⟩ := h
  have hb : b < w.heap.size := (Array.getElem?_eq_some_iff.1 h2).1
  obtain ⟨hq, e⟩ := k b h1 hb
  exact ⟨es, clk, xs, hq, e.trans h2, h3, h4, h5, h6, h7, GoVs.keep k _ h8⟩

end Go.Proofs.YtjaeihbfkmflkaaDoor.Vals
namespace Go.Proofs.YtjaeihbfkmflkaaDoor.Vals
open Go.RowKit Go.ChangeMaps Go.Proofs.YtjaeihbfkmflkaaDoorW.PrintWords Go.Proofs.YtjaeihbfkmflkaaDoor.Txt
set_option linter.unusedVariables false
set_option maxRecDepth 20000

mutual
/-- A value as it comes back: what its kind doesn't speak of is empty. -/
def norm : V → V
  | .mk k n r t ks l => .mk k (if k = 1 then (if n = 1 then 1 else 0) else if k = 2 ∨ k = 3 then n else 0) (if k = 4 then r else 0) (if k = 5 then t else ⟨#[]⟩) (if k = 7 then ks else []) (if k = 6 ∨ k = 7 then norms l else [])
def norms : List V → List V
  | [] => []
  | v :: r => norm v :: norms r
end
theorem norms_len : ∀ l, (norms l).length = l.length
  | [] => rfl
  | v :: r => by rw [norms, List.length_cons, List.length_cons, norms_len r]
theorem norms_get : ∀ (l : List V) (i : Nat) (h : i < l.length) (h' : i < (norms l).length), (norms l)[i] = norm l[i]
  | [], i, h, _ => absurd h (by simp)
  | v :: r, 0, _, _ => rfl
  | v :: r, i + 1, h, h' => norms_get r i (by simpa using h) (by simpa [norms] using h')
theorem norms_take (l : List V) (n : Nat) : norms (l.take n) = (norms l).take n := by
  induction l generalizing n with
  | nil => simp [norms]
  | cons v r ih => cases n with
    | zero => simp [norms]
    | succ n => simp [norms, ih]
theorem norms_snoc (l : List V) (v : V) : norms (l ++ [v]) = norms l ++ [norm v] := by
  induction l with
  | nil => simp [norms]
  | cons u r ih => simp [norms, ih]
mutual
/-- Good for coming back: whole numbers of 64 bits, texts and keys that are not too long, keys that ascend. -/
def Fine : V → Prop
  | .mk k n r t ks l => (0 ≤ k ∧ k ≤ 7) ∧ I64 n ∧ t.size ≤ maxLen ∧ l.length ≤ 100000 ∧ (k = 7 → ks.length = l.length ∧ Asc ks ∧ ∀ x ∈ ks, x.size ≤ maxLen) ∧ Fines l
def Fines : List V → Prop
  | [] => True
  | v :: r => Fine v ∧ Fines r
end
theorem Fines.at_ : ∀ {l : List V}, Fines l → ∀ i (h : i < l.length), Fine l[i]
  | [], _, i, h => absurd h (by simp)
  | v :: r, h, i, hi => by
    unfold Fines at h
    cases i with
    | zero => exact h.1
    | succ i => exact Fines.at_ h.2 i (by simpa using hi)
theorem Fines.mk : ∀ {l : List V}, (∀ i (h : i < l.length), Fine l[i]) → Fines l
  | [], _ => by unfold Fines; trivial
  | v :: r, h => by unfold Fines; exact ⟨h 0 (by simp), Fines.mk fun i hi => h (i + 1) (by simpa using hi)⟩

theorem norm_0 (n : Int) (r : Nat) (t : ByteArray) (ks : List ByteArray) (l : List V) : norm (.mk 0 n r t ks l) = .mk 0 0 0 ⟨#[]⟩ [] [] := by unfold norm; simp
theorem norm_1 (n : Int) (r : Nat) (t : ByteArray) (ks : List ByteArray) (l : List V) : norm (.mk 1 n r t ks l) = .mk 1 (if n = 1 then 1 else 0) 0 ⟨#[]⟩ [] [] := by unfold norm; simp
theorem norm_2 (n : Int) (r : Nat) (t : ByteArray) (ks : List ByteArray) (l : List V) : norm (.mk 2 n r t ks l) = .mk 2 n 0 ⟨#[]⟩ [] [] := by unfold norm; simp
theorem norm_3 (n : Int) (r : Nat) (t : ByteArray) (ks : List ByteArray) (l : List V) : norm (.mk 3 n r t ks l) = .mk 3 n 0 ⟨#[]⟩ [] [] := by unfold norm; simp
theorem norm_4 (n : Int) (r : Nat) (t : ByteArray) (ks : List ByteArray) (l : List V) : norm (.mk 4 n r t ks l) = .mk 4 0 r ⟨#[]⟩ [] [] := by unfold norm; simp
theorem norm_5 (n : Int) (r : Nat) (t : ByteArray) (ks : List ByteArray) (l : List V) : norm (.mk 5 n r t ks l) = .mk 5 0 0 t [] [] := by unfold norm; simp
theorem norm_6 (n : Int) (r : Nat) (t : ByteArray) (ks : List ByteArray) (l : List V) : norm (.mk 6 n r t ks l) = .mk 6 0 0 ⟨#[]⟩ [] (norms l) := by unfold norm; simp
theorem norm_7 (n : Int) (r : Nat) (t : ByteArray) (ks : List ByteArray) (l : List V) : norm (.mk 7 n r t ks l) = .mk 7 0 0 ⟨#[]⟩ ks (norms l) := by unfold norm; simp
/-- Six stores fill a block. -/
theorem set6 {w : World} {b : Nat} {t : TypeId} {c0 c1 c2 c3 c4 c5 : Value} (h : w.heap[b]? = some (.cells #[c0, c1, c2, c3, c4, c5] t (0, 0))) (v0 v1 v2 v3 v4 v5 : Value) {w' : World}
    (hw : w' = (((((w.setCell ⟨b, 0, none⟩ v0).setCell ⟨b, 1, none⟩ v1).setCell ⟨b, 2, none⟩ v2).setCell ⟨b, 3, none⟩ v3).setCell ⟨b, 4, none⟩ v4).setCell ⟨b, 5, none⟩ v5) :
    w'.heap[b]? = some (.cells #[v0, v1, v2, v3, v4, v5] t (0, 0)) ∧ (∀ k, k ≠ b → w'.heap[k]? = w.heap[k]?) ∧ Below b w w' := by
  have h5 := blk_set (blk_set (blk_set (blk_set (blk_set (blk_set h 0 v0) 1 v1) 2 v2) 3 v3) 4 v4) 5 v5
  rw [← hw] at h5
  refine ⟨by simpa using h5, fun k hk => ?_, ?_⟩
  · rw [hw, Below.heap_setCell _ _ _ _ hk, Below.heap_setCell _ _ _ _ hk, Below.heap_setCell _ _ _ _ hk, Below.heap_setCell _ _ _ _ hk, Below.heap_setCell _ _ _ _ hk, Below.heap_setCell _ _ _ _ hk]
  · rw [hw]
    have s : ∀ (W : World) (j : Nat) (v : Value), Below b w W → Below b w (W.setCell ⟨b, j, none⟩ v) := fun W j v h => h.setCell (p := ⟨b, j, none⟩) (Nat.le_refl _) v
    exact s _ _ _ (s _ _ _ (s _ _ _ (s _ _ _ (s _ _ _ (s _ _ _ (Below.refl _ _))))))

def ValRes (v : V) (w : World) (e : Ending) (w' : World) : Prop := ∃ kv lv, e = .returned (.agg #[.int .i64 (norm v).k, .int .i64 (norm v).n, .float .f64 (norm v).r, .string (norm v).t, kv, lv]) ∧
  Hid (IsV w' (fun b => w.heap.size ≤ b) (norm v) [.int .i64 (norm v).k, .int .i64 (norm v).n, .float .f64 (norm v).r, .string (norm v).t, kv, lv]) ∧ Hid (Below w.heap.size w w')
def ValueOfOk (v : V) : Prop := ∀ (x : Value) (P : Nat → Prop) (w : World), GoV w P v x → Calls Tryd.prog 51 #[x] w (ValRes v w)
def ValsRes (l : List V) (w : World) (e : Ending) (w' : World) : Prop := ∃ A c ys, e = .returned (.slice A l.length c) ∧
  Hid (RowIs w' (fun b => w.heap.size ≤ b) 6 (.slice A l.length c) l.length ys ∧ IsVs w' (fun b => w.heap.size ≤ b) (norms l) ys) ∧ Hid (Below w.heap.size w w')
def DictRes (ks : List ByteArray) (l : List V) (w : World) (e : Ending) (w' : World) : Prop := ∃ kv lv, e = .returned (.agg #[.int .i64 7, .int .i64 0, .float .f64 0, .string ⟨#[]⟩, kv, lv]) ∧
  Hid (IsV w' (fun b => w.heap.size ≤ b) (.mk 7 0 0 ⟨#[]⟩ ks (norms l)) [.int .i64 7, .int .i64 0, .float .f64 0, .string ⟨#[]⟩, kv, lv]) ∧ Hid (Below w.heap.size w w')
/-- dictOf's contract. -/
def DictOfOk (ks : List ByteArray) (l : List V) : Prop := ∀ (b : Nat) (P : Nat → Prop) (w : World), MapIs w P ks l b → Calls Tryd.prog 37 #[.map (some b)] w (DictRes ks l w)

theorem valueInfo : (Tryd.prog.info? 41).map (fun i => (i.zero, i.size, i.bytes)) = some (some (.agg #[.int .i64 0, .int .i64 0, .float .f64 0, .string ⟨#[]⟩, .slice none 0 0, .slice none 0 0]), 6, 88) := by kernel_rfl
theorem news_cells (w : World) (cs : Array Value) (t : TypeId) : ∀ j u, cs.toList[j]? = some u → (w.alloc (.cells cs t)).cell? ((⟨w.heap.size, 0, none⟩ : Addr).add j) = some u := by
  intro j u hj
  rw [add_plain, blk_cell (heap_alloc_new w _)]
  simpa using hj
theorem IsV.one {w : World} {P : Nat → Prop} {v : V} {cs : List Value} (h : IsV w P v cs) : ∀ u ∈ cs, u.oneCell' = true := by
  cases v; unfold IsV at h
  obtain ⟨kv, lv, xs, rfl, _, _, _, _, h6, h7, _⟩ := h
  obtain ⟨A, c, rfl, _⟩ := h6.form
  obtain ⟨A', c', rfl, _⟩ := h7.form
  intro u hu
  simp only [List.mem_cons, List.not_mem_nil, or_false] at hu
  rcases hu with rfl | rfl | rfl | rfl | rfl | rfl <;> rfl
/-- A value without keys and a list. -/
theorem isV_bare (w : World) (P : Nat → Prop) (k n : Int) (r : Nat) (t : ByteArray) (hk : I64 k) (hn : I64 n) (ht : t.size ≤ maxLen) : IsV w P (.mk k n r t [] []) [.int .i64 k, .int .i64 n, .float .f64 r, .string t, .slice none 0 0, .slice none 0 0] := by
  unfold IsV
  exact ⟨_, _, [], rfl, hk, hn, ht, by simp, ⟨none, 0, rfl, by simp, by unfold maxLen; omega, by simp, fun h => absurd h (by simp)⟩, ⟨none, 0, rfl, by simp, by unfold maxLen; omega, by simp, fun h => absurd h (by simp)⟩, by unfold IsVs; rfl⟩
theorem i64_small {n : Int} (h0 : 0 ≤ n) (h1 : n ≤ 7) : I64 n := by unfold I64; omega

set_option maxHeartbeats 4000000 in
theorem valuesOf_step (l : List V) (hok : ∀ i (h : i < l.length), ValueOfOk l[i]) (h300 : l.length ≤ 100000) (A : Option Addr) (c : Nat) (xs : List Value) (P : Nat → Prop) (w : World)
    (hl : RowIs w P 1 (.slice A l.length c) l.length xs) (hv : GoVs w P l xs) :
    Calls Tryd.prog 58 #[.slice A l.length c] w (ValsRes l w) := by
  obtain ⟨i0, hi0, hz0, hz1, hz2⟩ := info_parts valueInfo
  have hel : ∀ i (hi : i < l.length), ∃ b o x, A = some ⟨b, o, none⟩ ∧ b < w.heap.size ∧ GoV w P l[i] x ∧ w.cell? ⟨b, o + i, none⟩ = some x := fun i hi => by
    obtain ⟨b, o, hA, _, hc⟩ := hl.elem (by omega)
    obtain ⟨x, hx, hg⟩ := hv.at_ i hi
    have := hc i x hx
    exact ⟨b, o, x, hA, World.block_lt_of_cell? w _ this, hg, this⟩
  have HEL := Lib.hid hel
  have HOK := Lib.hid hok
  obtain ⟨hnc, hcm⟩ := hl.sizes
  unfold maxLen at hcm
  clear hok hl hv hel
  obtain ⟨n, hn⟩ : ∃ n, n = l.length := ⟨_, rfl⟩
  rw [← hn] at h300 hnc ⊢
  have HN := Lib.hid hn
  clear hn
  obtain ⟨B, hB⟩ : ∃ B, B = w.heap.size := ⟨_, rfl⟩
  have HB := Lib.hid hB
  clear hB
  go_enter Tryd.func58, Tryd.ntmps58
  go_wp2_with fail
  go_loopg [3, 8] n (fun kq v3 v8 wr => ∃ (i : Nat) (G : Option Addr) (cap : Nat) (ys : List Value), v3 = .slice G i cap ∧ v8 = .int .i64 (i : Int) ∧ i + kq = n ∧
    Hid (wr.ownsRow B 41 6 (.slice G i cap) i ys) ∧ Hid (IsVs wr (fun b => B ≤ b ∧ G.map (·.block) ≠ some b) (norms (l.take i)) ys) ∧ Hid (Below B w wr))
  case atStart => exact ⟨0, none, 0, [], rfl, rfl, by omega, Lib.hid (World.ownsRow_nil _ _ _ _), Lib.hid (by simp only [List.take_zero, norms]; unfold IsVs; rfl), Lib.hid (Below.refl _ _)⟩
  case round =>
    obtain ⟨i, G, cap, ys, rfl, rfl, hik, H1, H2, H3⟩ := hrel
    cases gk with
    | zero =>
      have hi : ¬ i < n := by omega
      have HIN := Lib.hid hik
      clear hik
      go_wp2_with fail
      go_ret
      have hin : i = l.length := by have := HN.out; have := HIN.out; omega
      refine ⟨G, cap, ys, by rw [hin]; rfl, Lib.hid ⟨?_, ?_⟩, by rw [← HB.out]; exact H3⟩
      · have h := RowIs.of_own (P := fun b => w.heap.size ≤ b) H1.out (fun b hb => by have := (H1.out.lt b hb).1; rw [HB.out] at this; exact this)
        rw [← hin]; exact h
      · have h := H2.out
        rw [hin, List.take_length] at h
        exact IsVs.keep (Kept.mono (fun b hb _ => by rw [← HB.out]; exact hb.1)) _ h
    | succ m =>
      have hi : i < n := by omega
      have hi' : i < l.length := by have := HN.out; omega
      obtain ⟨eb, eo, x, hA', hebs, hX, e0⟩ := HEL.out i hi'
      subst hA'
      have hok := HOK.out i hi'
      obtain ⟨u, hu⟩ : ∃ u, u = l[i] := ⟨_, rfl⟩
      rw [← hu] at hX hok
      have g0 : wr.cell? ⟨eb, eo + i, none⟩ = some x := (H3.out.cell (p := ⟨eb, eo + i, none⟩) (by rw [HB.out]; exact hebs)).trans e0
      have HCALL : Hid (Calls Tryd.prog 51 #[x] wr (ValRes u wr)) := Lib.hid (hok x P wr (GoV.keep (Kept.below (by rw [← HB.out]; exact H3.out)) u hX))
      have HU := Lib.hid hu
      have HIK := Lib.hid hik
      clear e0 hX hu hik hok
      go_wp2_with fail
      refine (HCALL.out).mono ?_
      rintro e w1 ⟨kv, lv, rfl, HX, HB1⟩
      have hone := HX.out.one
      have HONE := Lib.hid hone
      obtain ⟨Ak, ck, rfl⟩ : ∃ A c, kv = .slice A (norm u).ks.length c := by obtain ⟨_, h, _⟩ := HX.out.parts; obtain ⟨A, c, h, _⟩ := h.form; exact ⟨A, c, h⟩
      obtain ⟨Al, cl, rfl⟩ : ∃ A c, lv = .slice A (norm u).l.length c := by obtain ⟨_, _, h, _⟩ := HX.out.parts; obtain ⟨A, c, h, _⟩ := h.form; exact ⟨A, c, h⟩
      clear hone
      have HOWN : Hid (w1.ownsRow B 41 6 (.slice G i cap) i ys) := Lib.hid (H1.out.kept (grown_of_below HB1.out none) (by cases G <;> simp [Value.ownBlock]))
      have hs1 := HB1.out.size
      have hs0 := H3.out.size
      have HS1 := Lib.hid (And.intro hs1 hs0)
      have hc5 : B ≤ (w1.alloc (.cells #[.int .i64 (norm u).k, .int .i64 (norm u).n, .float .f64 (norm u).r, .string (norm u).t, .slice Ak (norm u).ks.length ck, .slice Al (norm u).l.length cl] 41)).heap.size := by have := HB.out; simp; omega
      have HC5 := Lib.hid hc5
      clear hs1 hs0 hc5
      go_wp2_with (at_builtin; refine wpList_append_lies _ rfl _ _ 39 rfl B 41 i0 _ 6 88 Tryd.underlying39 hi0 hz0 hz1 hz2 rfl (by decide) (.slice G i cap) i ys rfl (HOWN.out.alloc _) ⟨w1.heap.size, 0, none⟩ 1 1 [.int .i64 (norm u).k, .int .i64 (norm u).n, .float .f64 (norm u).r, .string (norm u).t, .slice Ak (norm u).ks.length ck, .slice Al (norm u).l.length cl] rfl rfl (news_cells _ _ _) HONE.out (by decide) (by unfold maxLen; omega) (by omega) HC5.out _ rfl ?_; intro g' cap' w2 hown2 hgrow hat hlt; refine Hid.out ?_)
      refine Lib.hid ?_
      have HO2 := Lib.hid hown2
      have HG2 := Lib.hid hgrow
      have HAT := Lib.hid hat
      clear hown2 hgrow hat hlt
      go_wp2_with fail
      go_roundg m
      case measure => exact Nat.lt_succ_self m
      case rel =>
        have hob : (Value.slice G i cap).ownBlock = G.map (·.block) := by cases G <;> rfl
        have hat : G.map (·.block) = some g' ∨ g' = w1.heap.size + 1 := by
          rcases HAT.out with h | h
          · exact .inl (by rw [← hob]; exact h)
          · exact .inr (by rw [h]; simp)
        have hg1 : ∀ g, G.map (·.block) = some g → g < wr.heap.size := fun g hg => (H1.out.lt g (by rw [hob]; exact hg)).2
        have hgB : ∀ g, G.map (·.block) = some g → B ≤ g := fun g hg => (H1.out.lt g (by rw [hob]; exact hg)).1
        obtain ⟨q3, q4⟩ := HS1.out
        have hne : ∀ b, b < w1.heap.size + 1 → G.map (·.block) ≠ some b → b ≠ g' := fun b hb h e => by
          rcases hat with h' | h'
          · exact h (by rw [h', e])
          · omega
        have k2 : Kept wr w2 (fun b => B ≤ b ∧ G.map (·.block) ≠ some b) (fun b => B ≤ b ∧ (some (⟨g', 0, none⟩ : Addr)).map (·.block) ≠ some b) := fun b ⟨hb1, hb2⟩ hb3 => by
          refine ⟨⟨hb1, fun e => hne b (by omega) hb2 (by simpa using e.symm)⟩, ?_⟩
          rw [HG2.out.block b (by simp; omega) (by rw [hob]; exact Ne.symm hb2), Below.heap_alloc _ _ _ (by omega), HB1.out.block b (by omega)]
        have k3 : Kept w1 w2 (fun b => wr.heap.size ≤ b) (fun b => B ≤ b ∧ (some (⟨g', 0, none⟩ : Addr)).map (·.block) ≠ some b) := fun b hb1 hb3 => by
          have := HB.out
          have hb1' : wr.heap.size ≤ b := hb1
          have hG : G.map (·.block) ≠ some b := fun e => by have := hg1 b e; omega
          refine ⟨⟨by omega, fun e => hne b (by omega) hG (by simpa using e.symm)⟩, ?_⟩
          rw [HG2.out.block b (by simp; omega) (by rw [hob]; exact Ne.symm hG), Below.heap_alloc _ _ _ hb3]
        refine ⟨i + 1, some ⟨g', 0, none⟩, cap', ys ++ [.int .i64 (norm u).k, .int .i64 (norm u).n, .float .f64 (norm u).r, .string (norm u).t, .slice Ak (norm u).ks.length ck, .slice Al (norm u).l.length cl], rfl, by simp, by have := HIK.out; omega, HO2, Lib.hid ?_, Lib.hid ?_⟩
        · rw [List.take_add_one, List.getElem?_eq_getElem hi', ← HU.out]
          simp only [Option.toList]
          rw [norms_snoc]
          exact IsVs.snoc (IsVs.keep k2 _ H2.out) (IsV.keep k3 _ HX.out)
        · have := HB.out
          exact ((H3.out.trans (HB1.out.mono (by omega))).alloc (by omega) _).grown HG2.out (by simp; omega) (fun k hk => hgB k (by rw [← hob]; exact hk))

set_option maxHeartbeats 4000000 in
theorem valueOf_step (v : V) (hf : Fine v) (hlist : v.k = 6 → ∀ (A : Option Addr) (c : Nat) (xs : List Value) (P : Nat → Prop) (w : World), RowIs w P 1 (.slice A v.l.length c) v.l.length xs → GoVs w P v.l xs → Calls Tryd.prog 58 #[.slice A v.l.length c] w (ValsRes v.l w))
    (hdict : v.k = 7 → DictOfOk v.ks v.l) : ValueOfOk v := by
  intro x P w h
  have hsf := store_float
  obtain ⟨k, n, r, t, ks, l⟩ := v
  simp only [V.k, V.ks, V.l] at hlist hdict
  have hI : I64 n := by unfold Fine at hf; exact hf.2.1
  have hT : t.size ≤ maxLen := by unfold Fine at hf; exact hf.2.2.1
  have hKS : k = 7 → ∀ x ∈ ks, x.size ≤ maxLen := by unfold Fine at hf; exact fun h7 => (hf.2.2.2.2.1 h7).2.2
  have HL := Lib.hid hlist
  have HD := Lib.hid hdict
  have HW : Hid (∀ o, Below w.heap.size w (w.alloc o)) := Lib.hid fun o => (Below.refl _ _).alloc (Nat.le_refl _) o
  clear hlist hdict
  have hg := h
  unfold GoV at h
  rcases h with ⟨rfl, rfl⟩ | ⟨rfl, rfl⟩ | ⟨rfl, rfl⟩ | ⟨rfl, rfl⟩ | ⟨rfl, rfl⟩ | ⟨rfl, rfl⟩ | ⟨rfl, a, c, xs, rfl, hrow, hgo⟩ | ⟨rfl, b, es, clk, xs, rfl, hm1, hm2, hm3, hm4, hm5, hm6, hm7, hm8⟩
  · clear hg
    go_enter Tryd.func51, Tryd.ntmps51
    go_wp2_with fail
    refine bodyPost_ret (v := .agg #[.int .i64 0, .int .i64 0, .float .f64 0, .string ⟨#[]⟩, .slice none 0 0, .slice none 0 0]) (by simp [results, Tryd.results51, go_sem]) rfl ?_
    refine ⟨.slice none 0 0, .slice none 0 0, by rw [norm_0]; rfl, Lib.hid ?_, Lib.hid (HW.out _)⟩
    rw [norm_0]
    exact isV_bare _ _ _ _ _ _ (i64_small (by omega) (by omega)) (i64_small (by omega) (by omega)) (by show 0 ≤ maxLen; omega)
  · clear hg
    by_cases h1 : n = 1
    · obtain ⟨bn, hbn⟩ : ∃ bn, bn = (n == 1) := ⟨_, rfl⟩
      obtain rfl : bn = true := by rw [hbn]; simpa using h1
      rw [← hbn]
      have HBN := Lib.hid h1
      clear hbn h1
      have ta0 : ∀ w, (Instr.typeAssert (.iface 4 (.bool true)) 20 4 true).run Tryd.prog w = .ok (.tuple #[.bool true, .bool true]) w := fun w => by kernel_rfl
      have ta1 : ∀ w, (Instr.typeAssert (.iface 4 (.bool true)) 20 3 true).run Tryd.prog w = .ok (.tuple #[.int .i64 0, .bool false]) w := fun w => by kernel_rfl
      have ta2 : ∀ w, (Instr.typeAssert (.iface 4 (.bool true)) 20 2 true).run Tryd.prog w = .ok (.tuple #[.int .i64 0, .bool false]) w := fun w => by kernel_rfl
      have ta3 : ∀ w, (Instr.typeAssert (.iface 4 (.bool true)) 20 38 true).run Tryd.prog w = .ok (.tuple #[.float .f64 0, .bool false]) w := fun w => by kernel_rfl
      have ta4 : ∀ w, (Instr.typeAssert (.iface 4 (.bool true)) 20 9 true).run Tryd.prog w = .ok (.tuple #[.string ⟨#[]⟩, .bool false]) w := fun w => by kernel_rfl
      have ta5 : ∀ w, (Instr.typeAssert (.iface 4 (.bool true)) 20 112 true).run Tryd.prog w = .ok (.tuple #[.slice none 0 0, .bool false]) w := fun w => by kernel_rfl
      have ta6 : ∀ w, (Instr.typeAssert (.iface 4 (.bool true)) 20 66 true).run Tryd.prog w = .ok (.tuple #[.map none, .bool false]) w := fun w => by kernel_rfl
      have hne : ∀ w, (binOp .eql 20 (.iface 4 (.bool true)) .nilIface).run Tryd.prog w = .ok (.bool false) w := fun w => by kernel_rfl
      go_enter Tryd.func51, Tryd.ntmps51
      go_wp2_with fail
      refine bodyPost_ret (v := .agg #[.int .i64 1, .int .i64 1, .float .f64 0, .string ⟨#[]⟩, .slice none 0 0, .slice none 0 0]) (by simp [results, Tryd.results51, go_sem]) rfl ?_
      refine ⟨.slice none 0 0, .slice none 0 0, by rw [norm_1]; simp [V.k, V.n, V.r, V.t, HBN.out], Lib.hid ?_, Lib.hid (HW.out _)⟩
      rw [norm_1, if_pos HBN.out]
      exact isV_bare _ _ _ _ _ _ (i64_small (by omega) (by omega)) (i64_small (by omega) (by omega)) (by show 0 ≤ maxLen; omega)
    · obtain ⟨bn, hbn⟩ : ∃ bn, bn = (n == 1) := ⟨_, rfl⟩
      obtain rfl : bn = false := by rw [hbn]; simpa using h1
      rw [← hbn]
      have HBN := Lib.hid h1
      clear hbn h1
      have ta0 : ∀ w, (Instr.typeAssert (.iface 4 (.bool false)) 20 4 true).run Tryd.prog w = .ok (.tuple #[.bool false, .bool true]) w := fun w => by kernel_rfl
      have ta1 : ∀ w, (Instr.typeAssert (.iface 4 (.bool false)) 20 3 true).run Tryd.prog w = .ok (.tuple #[.int .i64 0, .bool false]) w := fun w => by kernel_rfl
      have ta2 : ∀ w, (Instr.typeAssert (.iface 4 (.bool false)) 20 2 true).run Tryd.prog w = .ok (.tuple #[.int .i64 0, .bool false]) w := fun w => by kernel_rfl
      have ta3 : ∀ w, (Instr.typeAssert (.iface 4 (.bool false)) 20 38 true).run Tryd.prog w = .ok (.tuple #[.float .f64 0, .bool false]) w := fun w => by kernel_rfl
      have ta4 : ∀ w, (Instr.typeAssert (.iface 4 (.bool false)) 20 9 true).run Tryd.prog w = .ok (.tuple #[.string ⟨#[]⟩, .bool false]) w := fun w => by kernel_rfl
      have ta5 : ∀ w, (Instr.typeAssert (.iface 4 (.bool false)) 20 112 true).run Tryd.prog w = .ok (.tuple #[.slice none 0 0, .bool false]) w := fun w => by kernel_rfl
      have ta6 : ∀ w, (Instr.typeAssert (.iface 4 (.bool false)) 20 66 true).run Tryd.prog w = .ok (.tuple #[.map none, .bool false]) w := fun w => by kernel_rfl
      have hne : ∀ w, (binOp .eql 20 (.iface 4 (.bool false)) .nilIface).run Tryd.prog w = .ok (.bool false) w := fun w => by kernel_rfl
      go_enter Tryd.func51, Tryd.ntmps51
      go_wp2_with fail
      refine bodyPost_ret (v := .agg #[.int .i64 1, .int .i64 0, .float .f64 0, .string ⟨#[]⟩, .slice none 0 0, .slice none 0 0]) (by simp [results, Tryd.results51, go_sem]) rfl ?_
      refine ⟨.slice none 0 0, .slice none 0 0, by rw [norm_1]; simp [V.k, V.n, V.r, V.t, HBN.out], Lib.hid ?_, Lib.hid (HW.out _)⟩
      rw [norm_1, if_neg HBN.out]
      exact isV_bare _ _ _ _ _ _ (i64_small (by omega) (by omega)) (i64_small (by omega) (by omega)) (by show 0 ≤ maxLen; omega)
  · clear hg
    have ta0 : ∀ w, (Instr.typeAssert (.iface 3 (.int .i64 n)) 20 4 true).run Tryd.prog w = .ok (.tuple #[.bool false, .bool false]) w := fun w => by kernel_rfl
    have ta1 : ∀ w, (Instr.typeAssert (.iface 3 (.int .i64 n)) 20 3 true).run Tryd.prog w = .ok (.tuple #[.int .i64 n, .bool true]) w := fun w => by kernel_rfl
    have ta2 : ∀ w, (Instr.typeAssert (.iface 3 (.int .i64 n)) 20 2 true).run Tryd.prog w = .ok (.tuple #[.int .i64 0, .bool false]) w := fun w => by kernel_rfl
    have ta3 : ∀ w, (Instr.typeAssert (.iface 3 (.int .i64 n)) 20 38 true).run Tryd.prog w = .ok (.tuple #[.float .f64 0, .bool false]) w := fun w => by kernel_rfl
    have ta4 : ∀ w, (Instr.typeAssert (.iface 3 (.int .i64 n)) 20 9 true).run Tryd.prog w = .ok (.tuple #[.string ⟨#[]⟩, .bool false]) w := fun w => by kernel_rfl
    have ta5 : ∀ w, (Instr.typeAssert (.iface 3 (.int .i64 n)) 20 112 true).run Tryd.prog w = .ok (.tuple #[.slice none 0 0, .bool false]) w := fun w => by kernel_rfl
    have ta6 : ∀ w, (Instr.typeAssert (.iface 3 (.int .i64 n)) 20 66 true).run Tryd.prog w = .ok (.tuple #[.map none, .bool false]) w := fun w => by kernel_rfl
    have hne : ∀ w, (binOp .eql 20 (.iface 3 (.int .i64 n)) .nilIface).run Tryd.prog w = .ok (.bool false) w := fun w => by kernel_rfl
    go_enter Tryd.func51, Tryd.ntmps51
    go_wp2_with fail
    refine bodyPost_ret (v := .agg #[.int .i64 2, .int .i64 n, .float .f64 0, .string ⟨#[]⟩, .slice none 0 0, .slice none 0 0]) (by simp [results, Tryd.results51, go_sem]) rfl ?_
    refine ⟨.slice none 0 0, .slice none 0 0, by rw [norm_2]; rfl, Lib.hid ?_, Lib.hid (HW.out _)⟩
    rw [norm_2]
    exact isV_bare _ _ _ _ _ _ (i64_small (by omega) (by omega)) hI (by show 0 ≤ maxLen; omega)
  · clear hg
    have ta0 : ∀ w, (Instr.typeAssert (.iface 2 (.int .i64 n)) 20 4 true).run Tryd.prog w = .ok (.tuple #[.bool false, .bool false]) w := fun w => by kernel_rfl
    have ta1 : ∀ w, (Instr.typeAssert (.iface 2 (.int .i64 n)) 20 3 true).run Tryd.prog w = .ok (.tuple #[.int .i64 0, .bool false]) w := fun w => by kernel_rfl
    have ta2 : ∀ w, (Instr.typeAssert (.iface 2 (.int .i64 n)) 20 2 true).run Tryd.prog w = .ok (.tuple #[.int .i64 n, .bool true]) w := fun w => by kernel_rfl
    have ta3 : ∀ w, (Instr.typeAssert (.iface 2 (.int .i64 n)) 20 38 true).run Tryd.prog w = .ok (.tuple #[.float .f64 0, .bool false]) w := fun w => by kernel_rfl
    have ta4 : ∀ w, (Instr.typeAssert (.iface 2 (.int .i64 n)) 20 9 true).run Tryd.prog w = .ok (.tuple #[.string ⟨#[]⟩, .bool false]) w := fun w => by kernel_rfl
    have ta5 : ∀ w, (Instr.typeAssert (.iface 2 (.int .i64 n)) 20 112 true).run Tryd.prog w = .ok (.tuple #[.slice none 0 0, .bool false]) w := fun w => by kernel_rfl
    have ta6 : ∀ w, (Instr.typeAssert (.iface 2 (.int .i64 n)) 20 66 true).run Tryd.prog w = .ok (.tuple #[.map none, .bool false]) w := fun w => by kernel_rfl
    have hne : ∀ w, (binOp .eql 20 (.iface 2 (.int .i64 n)) .nilIface).run Tryd.prog w = .ok (.bool false) w := fun w => by kernel_rfl
    go_enter Tryd.func51, Tryd.ntmps51
    go_wp2_with fail
    refine bodyPost_ret (v := .agg #[.int .i64 3, .int .i64 n, .float .f64 0, .string ⟨#[]⟩, .slice none 0 0, .slice none 0 0]) (by simp [results, Tryd.results51, go_sem]) rfl ?_
    refine ⟨.slice none 0 0, .slice none 0 0, by rw [norm_3]; rfl, Lib.hid ?_, Lib.hid (HW.out _)⟩
    rw [norm_3]
    exact isV_bare _ _ _ _ _ _ (i64_small (by omega) (by omega)) hI (by show 0 ≤ maxLen; omega)
  · clear hg
    have ta0 : ∀ w, (Instr.typeAssert (.iface 38 (.float .f64 r)) 20 4 true).run Tryd.prog w = .ok (.tuple #[.bool false, .bool false]) w := fun w => by kernel_rfl
    have ta1 : ∀ w, (Instr.typeAssert (.iface 38 (.float .f64 r)) 20 3 true).run Tryd.prog w = .ok (.tuple #[.int .i64 0, .bool false]) w := fun w => by kernel_rfl
    have ta2 : ∀ w, (Instr.typeAssert (.iface 38 (.float .f64 r)) 20 2 true).run Tryd.prog w = .ok (.tuple #[.int .i64 0, .bool false]) w := fun w => by kernel_rfl
    have ta3 : ∀ w, (Instr.typeAssert (.iface 38 (.float .f64 r)) 20 38 true).run Tryd.prog w = .ok (.tuple #[.float .f64 r, .bool true]) w := fun w => by kernel_rfl
    have ta4 : ∀ w, (Instr.typeAssert (.iface 38 (.float .f64 r)) 20 9 true).run Tryd.prog w = .ok (.tuple #[.string ⟨#[]⟩, .bool false]) w := fun w => by kernel_rfl
    have ta5 : ∀ w, (Instr.typeAssert (.iface 38 (.float .f64 r)) 20 112 true).run Tryd.prog w = .ok (.tuple #[.slice none 0 0, .bool false]) w := fun w => by kernel_rfl
    have ta6 : ∀ w, (Instr.typeAssert (.iface 38 (.float .f64 r)) 20 66 true).run Tryd.prog w = .ok (.tuple #[.map none, .bool false]) w := fun w => by kernel_rfl
    have hne : ∀ w, (binOp .eql 20 (.iface 38 (.float .f64 r)) .nilIface).run Tryd.prog w = .ok (.bool false) w := fun w => by kernel_rfl
    go_enter Tryd.func51, Tryd.ntmps51
    go_wp2_with fail
    refine bodyPost_ret (v := .agg #[.int .i64 4, .int .i64 0, .float .f64 r, .string ⟨#[]⟩, .slice none 0 0, .slice none 0 0]) (by simp [results, Tryd.results51, go_sem]) rfl ?_
    refine ⟨.slice none 0 0, .slice none 0 0, by rw [norm_4]; rfl, Lib.hid ?_, Lib.hid (HW.out _)⟩
    rw [norm_4]
    exact isV_bare _ _ _ _ _ _ (i64_small (by omega) (by omega)) (i64_small (by omega) (by omega)) (by show 0 ≤ maxLen; omega)
  · clear hg
    have ta0 : ∀ w, (Instr.typeAssert (.iface 9 (.string t)) 20 4 true).run Tryd.prog w = .ok (.tuple #[.bool false, .bool false]) w := fun w => by kernel_rfl
    have ta1 : ∀ w, (Instr.typeAssert (.iface 9 (.string t)) 20 3 true).run Tryd.prog w = .ok (.tuple #[.int .i64 0, .bool false]) w := fun w => by kernel_rfl
    have ta2 : ∀ w, (Instr.typeAssert (.iface 9 (.string t)) 20 2 true).run Tryd.prog w = .ok (.tuple #[.int .i64 0, .bool false]) w := fun w => by kernel_rfl
    have ta3 : ∀ w, (Instr.typeAssert (.iface 9 (.string t)) 20 38 true).run Tryd.prog w = .ok (.tuple #[.float .f64 0, .bool false]) w := fun w => by kernel_rfl
    have ta4 : ∀ w, (Instr.typeAssert (.iface 9 (.string t)) 20 9 true).run Tryd.prog w = .ok (.tuple #[.string t, .bool true]) w := fun w => by kernel_rfl
    have ta5 : ∀ w, (Instr.typeAssert (.iface 9 (.string t)) 20 112 true).run Tryd.prog w = .ok (.tuple #[.slice none 0 0, .bool false]) w := fun w => by kernel_rfl
    have ta6 : ∀ w, (Instr.typeAssert (.iface 9 (.string t)) 20 66 true).run Tryd.prog w = .ok (.tuple #[.map none, .bool false]) w := fun w => by kernel_rfl
    have hne : ∀ w, (binOp .eql 20 (.iface 9 (.string t)) .nilIface).run Tryd.prog w = .ok (.bool false) w := fun w => by kernel_rfl
    go_enter Tryd.func51, Tryd.ntmps51
    go_wp2_with fail
    refine bodyPost_ret (v := .agg #[.int .i64 5, .int .i64 0, .float .f64 0, .string t, .slice none 0 0, .slice none 0 0]) (by simp [results, Tryd.results51, go_sem]) rfl ?_
    refine ⟨.slice none 0 0, .slice none 0 0, by rw [norm_5]; rfl, Lib.hid ?_, Lib.hid (HW.out _)⟩
    rw [norm_5]
    exact isV_bare _ _ _ _ _ _ (i64_small (by omega) (by omega)) (i64_small (by omega) (by omega)) hT
  · clear hg
    have HR := Lib.hid (And.intro hrow hgo)
    clear hrow hgo
    have ta0 : ∀ w, (Instr.typeAssert (.iface 112 (.slice (some a) l.length c)) 20 4 true).run Tryd.prog w = .ok (.tuple #[.bool false, .bool false]) w := fun w => by kernel_rfl
    have ta1 : ∀ w, (Instr.typeAssert (.iface 112 (.slice (some a) l.length c)) 20 3 true).run Tryd.prog w = .ok (.tuple #[.int .i64 0, .bool false]) w := fun w => by kernel_rfl
    have ta2 : ∀ w, (Instr.typeAssert (.iface 112 (.slice (some a) l.length c)) 20 2 true).run Tryd.prog w = .ok (.tuple #[.int .i64 0, .bool false]) w := fun w => by kernel_rfl
    have ta3 : ∀ w, (Instr.typeAssert (.iface 112 (.slice (some a) l.length c)) 20 38 true).run Tryd.prog w = .ok (.tuple #[.float .f64 0, .bool false]) w := fun w => by kernel_rfl
    have ta4 : ∀ w, (Instr.typeAssert (.iface 112 (.slice (some a) l.length c)) 20 9 true).run Tryd.prog w = .ok (.tuple #[.string ⟨#[]⟩, .bool false]) w := fun w => by kernel_rfl
    have ta5 : ∀ w, (Instr.typeAssert (.iface 112 (.slice (some a) l.length c)) 20 112 true).run Tryd.prog w = .ok (.tuple #[.slice (some a) l.length c, .bool true]) w := fun w => by kernel_rfl
    have ta6 : ∀ w, (Instr.typeAssert (.iface 112 (.slice (some a) l.length c)) 20 66 true).run Tryd.prog w = .ok (.tuple #[.map none, .bool false]) w := fun w => by kernel_rfl
    have hne : ∀ w, (binOp .eql 20 (.iface 112 (.slice (some a) l.length c)) .nilIface).run Tryd.prog w = .ok (.bool false) w := fun w => by kernel_rfl
    go_enter Tryd.func51, Tryd.ntmps51
    go_wp2_with fail
    refine (HL.out (by simp) _ _ xs P _ (HR.out.1.keep (by omega) (Kept.below (HW.out _))) (GoVs.keep (Kept.below (HW.out _)) l HR.out.2)).mono ?_
    rintro e w1 ⟨A, cap, ys, rfl, H1, H2⟩
    have hc0 : ∃ c0 c1 c2 c3 c4 c5, w1.heap[w.heap.size]? = some (.cells #[c0, c1, c2, c3, c4, c5] 41 (0, 0)) := ⟨_, _, _, _, _, _, (H2.out.block _ (by simp)).trans (heap_alloc_new w _)⟩
    obtain ⟨c0, c1, c2, c3, c4, c5, hc0⟩ := hc0
    have d0 : w1.cell? ⟨w.heap.size, 0, none⟩ = some c0 := by rw [blk_cell hc0]; rfl
    have d1 : w1.cell? ⟨w.heap.size, 1, none⟩ = some c1 := by rw [blk_cell hc0]; rfl
    have d2 : w1.cell? ⟨w.heap.size, 2, none⟩ = some c2 := by rw [blk_cell hc0]; rfl
    have d3 : w1.cell? ⟨w.heap.size, 3, none⟩ = some c3 := by rw [blk_cell hc0]; rfl
    have d4 : w1.cell? ⟨w.heap.size, 4, none⟩ = some c4 := by rw [blk_cell hc0]; rfl
    have d5 : w1.cell? ⟨w.heap.size, 5, none⟩ = some c5 := by rw [blk_cell hc0]; rfl
    have fz : ∀ j, w1.frozen? ⟨w.heap.size, j, none⟩ = false := fun j => by simp [World.frozen?, hc0]
    have HBW := Lib.hid ((HW.out _).trans (H2.out.mono (by simp)))
    have HH := Lib.hid hc0
    clear hc0
    go_wp2_with fail
    obtain ⟨w2, hw2⟩ : ∃ w2, w2 = (((((w1.setCell ⟨w.heap.size, 0, none⟩ (.int .i64 6)).setCell ⟨w.heap.size, 1, none⟩ (.int .i64 0)).setCell ⟨w.heap.size, 2, none⟩ (.float .f64 0)).setCell ⟨w.heap.size, 3, none⟩ (.string ⟨#[]⟩)).setCell ⟨w.heap.size, 4, none⟩ (.slice none 0 0)).setCell ⟨w.heap.size, 5, none⟩ (.slice A l.length cap) := ⟨_, rfl⟩
    rw [← hw2]
    obtain ⟨hb2, ho2, hl2⟩ := set6 HH.out _ _ _ _ _ _ hw2
    have e0 : w2.cell? ⟨w.heap.size, 0, none⟩ = some (.int .i64 6) := by rw [blk_cell hb2]; rfl
    have e1 : w2.cell? ⟨w.heap.size, 1, none⟩ = some (.int .i64 0) := by rw [blk_cell hb2]; rfl
    have e2 : w2.cell? ⟨w.heap.size, 2, none⟩ = some (.float .f64 0) := by rw [blk_cell hb2]; rfl
    have e3 : w2.cell? ⟨w.heap.size, 3, none⟩ = some (.string ⟨#[]⟩) := by rw [blk_cell hb2]; rfl
    have e4 : w2.cell? ⟨w.heap.size, 4, none⟩ = some (.slice none 0 0) := by rw [blk_cell hb2]; rfl
    have e5 : w2.cell? ⟨w.heap.size, 5, none⟩ = some (.slice A l.length cap) := by rw [blk_cell hb2]; rfl
    have kk : Kept w1 w2 (fun b => w.heap.size + 1 ≤ b) (fun b => w.heap.size ≤ b) := fun b hb _ => ⟨by have hb' : w.heap.size + 1 ≤ b := hb; omega, ho2 b (by have hb' : w.heap.size + 1 ≤ b := hb; omega)⟩
    refine bodyPost_ret (v := .agg #[.int .i64 6, .int .i64 0, .float .f64 0, .string ⟨#[]⟩, .slice none 0 0, .slice A l.length cap]) (by simp [results, Tryd.results51, go_sem, e0, e1, e2, e3, e4, e5]) rfl ?_
    refine ⟨.slice none 0 0, .slice A l.length cap, by rw [norm_6]; rfl, Lib.hid ?_, Lib.hid (HBW.out.trans hl2)⟩
    rw [norm_6]
    have q1 := H1.out.1.keep (P := fun b => (w.alloc (.cells #[.int .i64 0, .int .i64 0, .float .f64 0, .string ⟨#[]⟩, .slice none 0 0, .slice none 0 0] 41)).heap.size ≤ b) (by omega) (by rw [World.size_alloc]; exact kk)
    have q2 := IsVs.keep (P := fun b => (w.alloc (.cells #[.int .i64 0, .int .i64 0, .float .f64 0, .string ⟨#[]⟩, .slice none 0 0, .slice none 0 0] 41)).heap.size ≤ b) (by rw [World.size_alloc]; exact kk) _ H1.out.2
    unfold IsV
    exact ⟨_, _, ys, rfl, i64_small (by omega) (by omega), i64_small (by omega) (by omega), (by show 0 ≤ maxLen; omega), by simp, ⟨none, 0, rfl, by simp, by unfold maxLen; omega, by simp, fun h => absurd h (by simp)⟩, by rw [norms_len]; exact q1, q2⟩
  · have HR := Lib.hid hg
    have HM := Lib.hid (show MapIs w P ks l b from ⟨es, clk, xs, hm1, hm2, hm3, hm4, hm5, hm6, hm7, hm8⟩)
    clear hg hm1 hm2 hm3 hm4 hm5 hm6 hm7 hm8
    have ta0 : ∀ w, (Instr.typeAssert (.iface 66 (.map (some b))) 20 4 true).run Tryd.prog w = .ok (.tuple #[.bool false, .bool false]) w := fun w => by kernel_rfl
    have ta1 : ∀ w, (Instr.typeAssert (.iface 66 (.map (some b))) 20 3 true).run Tryd.prog w = .ok (.tuple #[.int .i64 0, .bool false]) w := fun w => by kernel_rfl
    have ta2 : ∀ w, (Instr.typeAssert (.iface 66 (.map (some b))) 20 2 true).run Tryd.prog w = .ok (.tuple #[.int .i64 0, .bool false]) w := fun w => by kernel_rfl
    have ta3 : ∀ w, (Instr.typeAssert (.iface 66 (.map (some b))) 20 38 true).run Tryd.prog w = .ok (.tuple #[.float .f64 0, .bool false]) w := fun w => by kernel_rfl
    have ta4 : ∀ w, (Instr.typeAssert (.iface 66 (.map (some b))) 20 9 true).run Tryd.prog w = .ok (.tuple #[.string ⟨#[]⟩, .bool false]) w := fun w => by kernel_rfl
    have ta5 : ∀ w, (Instr.typeAssert (.iface 66 (.map (some b))) 20 112 true).run Tryd.prog w = .ok (.tuple #[.slice none 0 0, .bool false]) w := fun w => by kernel_rfl
    have ta6 : ∀ w, (Instr.typeAssert (.iface 66 (.map (some b))) 20 66 true).run Tryd.prog w = .ok (.tuple #[.map (some b), .bool true]) w := fun w => by kernel_rfl
    have hne : ∀ w, (binOp .eql 20 (.iface 66 (.map (some b))) .nilIface).run Tryd.prog w = .ok (.bool false) w := fun w => by kernel_rfl
    go_enter Tryd.func51, Tryd.ntmps51
    go_wp2_with fail
    refine (HD.out (by simp) b P _ (HM.out.keep (Kept.below (HW.out _)))).mono ?_
    rintro e w1 ⟨kv, lv, rfl, H1, H2⟩
    obtain ⟨Ak, ck, rfl⟩ : ∃ A c, kv = .slice A ks.length c := by obtain ⟨_, h, _⟩ := H1.out.parts; obtain ⟨A, c, h, _⟩ := h.form; exact ⟨A, c, h⟩
    obtain ⟨Al, cl, rfl⟩ : ∃ A c, lv = .slice A (norms l).length c := by obtain ⟨_, _, h, _⟩ := H1.out.parts; obtain ⟨A, c, h, _⟩ := h.form; exact ⟨A, c, h⟩
    have hc0 : ∃ c0 c1 c2 c3 c4 c5, w1.heap[w.heap.size]? = some (.cells #[c0, c1, c2, c3, c4, c5] 41 (0, 0)) := ⟨_, _, _, _, _, _, (H2.out.block _ (by simp)).trans (heap_alloc_new w _)⟩
    obtain ⟨c0, c1, c2, c3, c4, c5, hc0⟩ := hc0
    have d0 : w1.cell? ⟨w.heap.size, 0, none⟩ = some c0 := by rw [blk_cell hc0]; rfl
    have d1 : w1.cell? ⟨w.heap.size, 1, none⟩ = some c1 := by rw [blk_cell hc0]; rfl
    have d2 : w1.cell? ⟨w.heap.size, 2, none⟩ = some c2 := by rw [blk_cell hc0]; rfl
    have d3 : w1.cell? ⟨w.heap.size, 3, none⟩ = some c3 := by rw [blk_cell hc0]; rfl
    have d4 : w1.cell? ⟨w.heap.size, 4, none⟩ = some c4 := by rw [blk_cell hc0]; rfl
    have d5 : w1.cell? ⟨w.heap.size, 5, none⟩ = some c5 := by rw [blk_cell hc0]; rfl
    have fz : ∀ j, w1.frozen? ⟨w.heap.size, j, none⟩ = false := fun j => by simp [World.frozen?, hc0]
    have HBW := Lib.hid ((HW.out _).trans (H2.out.mono (by simp)))
    have HH := Lib.hid hc0
    clear hc0
    go_wp2_with fail
    obtain ⟨w2, hw2⟩ : ∃ w2, w2 = (((((w1.setCell ⟨w.heap.size, 0, none⟩ (.int .i64 7)).setCell ⟨w.heap.size, 1, none⟩ (.int .i64 0)).setCell ⟨w.heap.size, 2, none⟩ (.float .f64 0)).setCell ⟨w.heap.size, 3, none⟩ (.string ⟨#[]⟩)).setCell ⟨w.heap.size, 4, none⟩ (.slice Ak ks.length ck)).setCell ⟨w.heap.size, 5, none⟩ (.slice Al (norms l).length cl) := ⟨_, rfl⟩
    rw [← hw2]
    obtain ⟨hb2, ho2, hl2⟩ := set6 HH.out _ _ _ _ _ _ hw2
    have e0 : w2.cell? ⟨w.heap.size, 0, none⟩ = some (.int .i64 7) := by rw [blk_cell hb2]; rfl
    have e1 : w2.cell? ⟨w.heap.size, 1, none⟩ = some (.int .i64 0) := by rw [blk_cell hb2]; rfl
    have e2 : w2.cell? ⟨w.heap.size, 2, none⟩ = some (.float .f64 0) := by rw [blk_cell hb2]; rfl
    have e3 : w2.cell? ⟨w.heap.size, 3, none⟩ = some (.string ⟨#[]⟩) := by rw [blk_cell hb2]; rfl
    have e4 : w2.cell? ⟨w.heap.size, 4, none⟩ = some (.slice Ak ks.length ck) := by rw [blk_cell hb2]; rfl
    have e5 : w2.cell? ⟨w.heap.size, 5, none⟩ = some (.slice Al (norms l).length cl) := by rw [blk_cell hb2]; rfl
    have kk : Kept w1 w2 (fun b => w.heap.size + 1 ≤ b) (fun b => w.heap.size ≤ b) := fun b hb _ => ⟨by have hb' : w.heap.size + 1 ≤ b := hb; omega, ho2 b (by have hb' : w.heap.size + 1 ≤ b := hb; omega)⟩
    refine bodyPost_ret (v := .agg #[.int .i64 7, .int .i64 0, .float .f64 0, .string ⟨#[]⟩, .slice Ak ks.length ck, .slice Al (norms l).length cl]) (by simp [results, Tryd.results51, go_sem, e0, e1, e2, e3, e4, e5]) rfl ?_
    refine ⟨.slice Ak ks.length ck, .slice Al (norms l).length cl, by rw [norm_7]; rfl, Lib.hid ?_, Lib.hid (HBW.out.trans hl2)⟩
    rw [norm_7]
    exact IsV.keep (P := fun b => (w.alloc (.cells #[.int .i64 0, .int .i64 0, .float .f64 0, .string ⟨#[]⟩, .slice none 0 0, .slice none 0 0] 41)).heap.size ≤ b) (by rw [World.size_alloc]; exact kk) _ H1.out
end Go.Proofs.YtjaeihbfkmflkaaDoor.Vals
namespace Go.Proofs.YtjaeihbfkmflkaaDoor.Vals
open Go.RowKit Go.MapKept Go.ChangeMaps Go.Proofs.YtjaeihbfkmflkaaDoor.Txt
open Go.Proofs (encStr)
set_option linter.unusedVariables false

/-- A value's text, as a list of bytes. -/
def keyText : Value → List UInt8
  | .string s => s.data.toList
  | _ => []
theorem enc_keyText (s : ByteArray) : encStr (keyText (.string s)) = .string s := by simp [encStr, keyText]
/-- What the loop over a map has met. -/
structure Seen (es : Array MapEntry) (seen : Array Nat) (done : List MapEntry) : Prop where
  same : done.map (·.born) = seen.toList
  mem : ∀ e ∈ done, e ∈ es.toList
  nd : (done.map (·.born)).Nodup
theorem Seen.start (es : Array MapEntry) : Seen es #[] [] := ⟨rfl, fun e he => absurd he (by simp), by simp⟩
theorem Seen.step {es : Array MapEntry} {seen : Array Nat} {done : List MapEntry} {e : MapEntry} (h : Seen es seen done) (he : e ∈ (leftOf es seen).toList) : Seen es (seen.push e.born) (done ++ [e]) := by
  obtain ⟨h1, h2⟩ := mem_left he
  refine ⟨by simp [h.same], fun x hx => ?_, ?_⟩
  · rcases List.mem_append.1 hx with hx | hx
    · exact h.mem x hx
    · rw [List.mem_singleton.1 hx]; exact h1
  · rw [List.map_append]
    refine List.nodup_append.2 ⟨h.nd, by simp, fun a ha b hb => ?_⟩
    have hb' : b = e.born := by simpa using hb
    rintro rfl
    rw [h.same] at ha
    have : seen.contains e.born = true := by rw [Array.contains_iff_mem, ← Array.mem_toList_iff, ← hb']; exact ha
    rw [this] at h2; cases h2
theorem Seen.done {es : Array MapEntry} {seen : Array Nat} {done : List MapEntry} (h : Seen es seen done) (hn : (es.toList.map (·.born)).Nodup) (h0 : (leftOf es seen).size = 0) : done.Perm es.toList := by
  have hnd : ∀ {l : List MapEntry}, (l.map (·.born)).Nodup → l.Nodup := fun {l} h => (List.pairwise_map.1 h).imp fun hne e => hne (by rw [e])
  refine (List.perm_ext_iff_of_nodup (hnd h.nd) (hnd hn)).2 fun x => ⟨h.mem x, fun hx => ?_⟩
  have hc := all_seen es seen h0 x hx
  rw [Array.contains_iff_mem, ← Array.mem_toList_iff, ← h.same] at hc
  obtain ⟨d, hd, hdx⟩ := List.mem_map.1 hc
  have hde := h.mem d hd
  have : d = x := by
    obtain ⟨i, hi, rfl⟩ := List.mem_iff_getElem.1 hde
    obtain ⟨j, hj, rfl⟩ := List.mem_iff_getElem.1 hx
    by_cases hij : i = j
    · subst hij; rfl
    · exfalso
      have hp := List.pairwise_iff_getElem.1 (List.pairwise_map.1 hn)
      rcases Nat.lt_or_gt_of_ne hij with h' | h'
      · exact hp i j hi hj h' hdx
      · exact hp j i hj hi h' hdx.symm
  rw [← this]; exact hd
/-- The entries' keys and values, as they stand for keys and values in order. -/
theorem keys_perm {es : List MapEntry} {ks : List ByteArray} {xs : List Value} (hp : (es.map fun e => (e.key, e.val)).Perm ((ks.map Value.string).zip xs)) (hl : ks.length ≤ xs.length) : (es.map (·.key)).Perm (ks.map Value.string) := by
  have h := hp.map Prod.fst
  rw [List.map_map, List.map_fst_zip (by simpa using hl)] at h
  exact h
theorem keyTexts_perm {es : List MapEntry} {ks : List ByteArray} (hp : (es.map (·.key)).Perm (ks.map Value.string)) : (es.map fun e => keyText e.key).Perm (ks.map fun k => k.data.toList) := by
  have h := hp.map keyText
  rw [List.map_map, List.map_map] at h
  exact h
theorem keys_enc {es : List MapEntry} {ks : List ByteArray} (hp : (es.map (·.key)).Perm (ks.map Value.string)) {done : List MapEntry} (hd : ∀ e ∈ done, e ∈ es) : done.map (·.key) = (done.map fun e => keyText e.key).map encStr := by
  rw [List.map_map]
  refine List.map_congr_left fun e he => ?_
  have : e.key ∈ ks.map Value.string := hp.mem_iff.1 (List.mem_map.2 ⟨e, hd e he, rfl⟩)
  obtain ⟨s, _, hs⟩ := List.mem_map.1 this
  show e.key = encStr (keyText e.key)
  rw [← hs, enc_keyText]
theorem enc_keys (ks : List ByteArray) : (ks.map fun k => k.data.toList).map encStr = ks.map Value.string := by
  rw [List.map_map]; exact List.map_congr_left fun k _ => by simp [encStr]
/-- Keys that ascend, sorted. -/
theorem sorted_keys {ks : List ByteArray} (h : Asc ks) {ss : List (List UInt8)} (hp : ss.Perm (ks.map fun k => k.data.toList)) : ss.mergeSort (fun x y => decide (x ≤ y)) = ks.map fun k => k.data.toList := by
  have tr : ∀ a b c : List UInt8, decide (a ≤ b) = true → decide (b ≤ c) = true → decide (a ≤ c) = true := fun a b c h1 h2 => by simp only [decide_eq_true_eq] at *; exact List.le_trans h1 h2
  have tot : ∀ a b : List UInt8, (decide (a ≤ b) || decide (b ≤ a)) = true := fun a b => by simp only [Bool.or_eq_true, decide_eq_true_eq]; exact List.le_total a b
  refine List.Perm.eq_of_pairwise (le := fun a b => decide (a ≤ b) = true) (fun a b _ _ h1 h2 => ?_) (List.pairwise_mergeSort tr tot ss) ?_ ((List.mergeSort_perm ss _).trans hp)
  · simp only [decide_eq_true_eq] at h1 h2
    exact List.le_antisymm h1 h2
  · refine List.pairwise_map.2 (List.Pairwise.imp ?_ h)
    intro a b hab
    rw [bytesLess_eq, Lib.toList_data, Lib.toList_data] at hab
    simp only [decide_eq_true_eq] at hab ⊢
    exact List.le_of_lt hab
/-- An entry for each key. -/
theorem entry_at {es : List MapEntry} {ks : List ByteArray} {xs : List Value} (hp : (es.map fun e => (e.key, e.val)).Perm ((ks.map Value.string).zip xs)) (i : Nat) (hi : i < ks.length) (hx : i < xs.length) : ∃ e ∈ es, e.key = .string ks[i] ∧ e.val = xs[i] := by
  have hm : ((Value.string ks[i], xs[i]) : Value × Value) ∈ (ks.map Value.string).zip xs := by
    rw [List.mem_iff_getElem]
    exact ⟨i, by rw [List.length_zip, List.length_map]; omega, by simp⟩
  obtain ⟨e, he, h⟩ := List.mem_map.1 (hp.mem_iff.2 hm)
  exact ⟨e, he, congrArg Prod.fst h, congrArg Prod.snd h⟩
theorem keys_nodup {es : List MapEntry} {ks : List ByteArray} (hp : (es.map (·.key)).Perm (ks.map Value.string)) (h : Asc ks) : (es.map (·.key)).Nodup := by
  refine hp.nodup_iff.2 (List.pairwise_map.2 (h.nodup.imp fun hne e => hne ?_))
  injection e
theorem keys_text {es : Array MapEntry} {ks : List ByteArray} (hp : (es.toList.map (·.key)).Perm (ks.map Value.string)) : TextKeys es := fun e he => by
  have : e.key ∈ ks.map Value.string := hp.mem_iff.1 (List.mem_map.2 ⟨e, he, rfl⟩)
  obtain ⟨s, _, hs⟩ := List.mem_map.1 this
  exact ⟨s, hs.symm⟩

section
variable {P : Program} (w : World) {ops : Array Oper} {rest : List Oper} {o : Oper} {a : Act} {Q : Exit → Act → World → Prop}
theorem wpList_range_at (hg : o.guard = none) (m : Operand) (t : TypeId) (hop : o.op = Op.range t m) (k e : TypeId) (ht : P.underlying t = some (.map k e)) (b : Nat) (es : Array MapEntry) (clk : Nat) (hm : a.eval m = .map (some b)) (hb : w.heap[b]? = some (.map es clk)) (r : Nat) (hr : w.heap.size = r)
    (hK : wpList P ops Q rest (a.put o.dst (.pointer (some ⟨r, 0, none⟩))) (w.alloc (.mapIter (some b) clk #[] clk))) : wpList P ops Q (o :: rest) a w := by
  subst hr
  refine wpList_plain hg fun K' hK' => ?_
  unfold Oper.wp
  simp [execOp, hop, hm, run_range_map w t k e b es clk ht hb, Result.andThen]
  exact hK' _ _ hK
theorem wpList_next_at (hg : o.guard = none) (it : Operand) (hop : o.op = Op.next it false) (r bm since : Nat) (seen : Array Nat) (es : Array MapEntry) (done : List MapEntry)
    (hit : a.eval it = .pointer (some ⟨r, 0, none⟩)) (hr : w.heap[r]? = some (.mapIter (some bm) since seen since)) (hb : w.heap[bm]? = some (.map es since)) (hold : ∀ x ∈ es.toList, x.born < since) (hne : bm ≠ r) (hn : (es.toList.map (·.born)).Nodup) (hs : Seen es seen done)
    (hDone : Hid ((leftOf es seen).size = 0) → wpList P ops Q rest (a.put o.dst (.tuple #[.bool false])) w)
    (hMore : ∀ (e : MapEntry) (w' : World), Hid (e ∈ es.toList ∧ Seen es (seen.push e.born) (done ++ [e]) ∧ (leftOf es (seen.push e.born)).size < (leftOf es seen).size ∧ w'.heap[r]? = some (.mapIter (some bm) since (seen.push e.born) since) ∧ (∀ k, k ≠ r → w'.heap[k]? = w.heap[k]?) ∧ w'.heap.size = w.heap.size ∧ (∀ B w0, Below B w0 w → B ≤ r → Below B w0 w') ∧ w.grownBy w' (some r)) →
      (Instr.entry (.pointer (some ⟨r, 0, none⟩))).run P w' = .ok (.tuple #[e.key, e.val]) w' → wpList P ops Q rest (a.put o.dst (.tuple #[.bool true, e.key, e.val])) w') : wpList P ops Q (o :: rest) a w := by
  refine wpList_plain hg fun K' hK' => ?_
  unfold Oper.wp
  rcases run_next_at (P := P) w o.type r bm since since seen es since hr hb hold (Nat.le_refl _) with ⟨h0, hrun⟩ | ⟨e, he, w1, hw1, hrun⟩
  · simp [execOp, hop, hit, hrun, Result.andThen]
    exact hK' _ _ (hDone (show Hid _ from h0))
  · simp [execOp, hop, hit, hrun, Result.andThen]
    have hr1 : w1.heap[r]? = some (.mapIter (some bm) since seen since) := by rcases hw1 with rfl | rfl <;> exact hr
    have hsz : w1.heap.size = w.heap.size := by rcases hw1 with rfl | rfl <;> rfl
    have hoth : ∀ k, k ≠ r → (setBlock w1 r (.mapIter (some bm) since (seen.push e.born) since)).heap[k]? = w.heap[k]? := fun k hk => by
      rw [setBlock_other _ hk]; rcases hw1 with rfl | rfl <;> rfl
    refine hK' _ _ (hMore e _ (show Hid _ from ⟨(mem_left he).1, hs.step he, left_shrinks es seen e he, setBlock_at hr1, hoth, by rw [setBlock_size]; exact hsz, fun B w0 h hB => below_setBlock ?_ hB _, ?_⟩) ?_)
    · rcases hw1 with rfl | rfl
      · exact h
      · exact h.trans ⟨rfl, rfl, rfl, Nat.le_refl _, fun _ _ => rfl⟩
    · refine ⟨?_, ?_, ?_, by rw [setBlock_size, hsz]; exact Nat.le_refl _, fun k hk hkr => hoth k (fun e => hkr (by rw [e]))⟩
      all_goals (rcases hw1 with rfl | rfl <;> rfl)
    · exact run_entry_at _ r bm since seen es since e (setBlock_at hr1) ((hoth bm hne).trans hb) (mem_left he).1 hn
end
end Go.Proofs.YtjaeihbfkmflkaaDoor.Vals
namespace Go.Proofs.YtjaeihbfkmflkaaDoor.Vals
open Go.RowKit Go.Proofs.YtjaeihbfkmflkaaDoorW.PrintWords
set_option linter.unusedVariables false
/-- A box of six cells. -/
def Box6 (w : World) (b : Nat) (c0 c1 c2 c3 c4 c5 : Value) : Prop := w.heap[b]? = some (.cells #[c0, c1, c2, c3, c4, c5] 41 (0, 0))
theorem Box6.new (w : World) (c0 c1 c2 c3 c4 c5 : Value) : Box6 (w.alloc (.cells #[c0, c1, c2, c3, c4, c5] 41)) w.heap.size c0 c1 c2 c3 c4 c5 := heap_alloc_new w _
theorem Box6.lt {w : World} {b : Nat} {c0 c1 c2 c3 c4 c5 : Value} (h : Box6 w b c0 c1 c2 c3 c4 c5) : b < w.heap.size := blk_lt h
theorem Box6.below {w w' : World} {b : Nat} {c0 c1 c2 c3 c4 c5 : Value} (h : Box6 w b c0 c1 c2 c3 c4 c5) (hb : Below w.heap.size w w') : Box6 w' b c0 c1 c2 c3 c4 c5 := (hb.block b h.lt).trans h
theorem Box6.cells {w : World} {b : Nat} {c0 c1 c2 c3 c4 c5 : Value} (h : Box6 w b c0 c1 c2 c3 c4 c5) : w.cell? ⟨b, 0, none⟩ = some c0 ∧ w.cell? ⟨b, 1, none⟩ = some c1 ∧ w.cell? ⟨b, 2, none⟩ = some c2 ∧ w.cell? ⟨b, 3, none⟩ = some c3 ∧ w.cell? ⟨b, 4, none⟩ = some c4 ∧ w.cell? ⟨b, 5, none⟩ = some c5 :=
  ⟨by rw [blk_cell h]; rfl, by rw [blk_cell h]; rfl, by rw [blk_cell h]; rfl, by rw [blk_cell h]; rfl, by rw [blk_cell h]; rfl, by rw [blk_cell h]; rfl⟩

end Go.Proofs.YtjaeihbfkmflkaaDoor.Vals
