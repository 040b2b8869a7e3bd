/- Values of impl.Value in memory (IsV) and values as Go has them (GoV): what they stand for; how a reading of an argument gives one; how both are kept from world to world. -/
import Derived.Test.YtkikkeegdooenaaGreatDoorProg
import Derived.Test.YtkikkeegdooenaaGreatDoorTxt
import Derived.Deep.Slices
import Derived.Deep.Fields
import Derived.Deep.AppendLies
import Derived.SliceStrings
import Derived.Below
import Derived.ChangeSame
import Derived.KernelRfl
namespace Go.Proofs.YtkikkeegdooenaaGreatDoor.Vals
open Go.RowKit Go.ChangeShapes Go.WideShapes Go.Deep
set_option linter.unusedVariables false

/-- A value as data. -/
inductive V where
  | mk (k n : Int) (r : Nat) (t : ByteArray) (ks : List ByteArray) (l : List V)
def V.k : V → Int | .mk k _ _ _ _ _ => k
def V.n : V → Int | .mk _ n _ _ _ _ => n
def V.r : V → Nat | .mk _ _ r _ _ _ => r
def V.t : V → ByteArray | .mk _ _ _ t _ _ => t
def V.ks : V → List ByteArray | .mk _ _ _ _ ks _ => ks
def V.l : V → List V | .mk _ _ _ _ _ l => l
theorem V.eta (v : V) : V.mk v.k v.n v.r v.t v.ks v.l = v := by cases v; rfl

theorem V.lt_of_get (v : V) (i : Nat) (h : i < v.l.length) : SizeOf.sizeOf v.l[i] < SizeOf.sizeOf v := by
  have := List.sizeOf_lt_of_mem (List.getElem_mem h)
  cases v with
  | mk k n r t ks l => simp only [V.l, V.mk.sizeOf_spec] at *; omega

/-- Within 64 bits. -/
def I64 (n : Int) : Prop := -9223372036854775808 ≤ n ∧ n ≤ 9223372036854775807

/-- A slice value whose n elements (s cells each) are xs; they lie in a block that P lets in. -/
def RowIs (w : World) (P : Nat → Prop) (s : Nat) (v : Value) (n : Nat) (xs : List Value) : Prop :=
  ∃ A c, v = .slice A n c ∧ n ≤ c ∧ c ≤ maxLen ∧ xs.length = n * s ∧ (0 < n → ∃ b o, A = some ⟨b, o, none⟩ ∧ P b ∧ ∀ j u, xs[j]? = some u → w.cell? ⟨b, o + j, none⟩ = some u)

mutual
/-- These six cells stand for the value. -/
def IsV (w : World) (P : Nat → Prop) : V → List Value → Prop
  | .mk k n r t ks l, cs => ∃ kv lv xs, cs = [.int .i64 k, .int .i64 n, .float .f64 r, .string t, kv, lv] ∧ I64 k ∧ I64 n ∧ t.size ≤ maxLen ∧ (∀ x ∈ ks, x.size ≤ maxLen) ∧
      RowIs w P 1 kv ks.length (ks.map .string) ∧ RowIs w P 6 lv l.length xs ∧ IsVs w P l xs
def IsVs (w : World) (P : Nat → Prop) : List V → List Value → Prop
  | [], xs => xs = []
  | v :: r, xs => ∃ c c', xs = c ++ c' ∧ IsV w P v c ∧ IsVs w P r c'
end

mutual
/-- This Go value stands for the value. -/
def GoV (w : World) (P : Nat → Prop) : V → Value → Prop
  | .mk k n r t ks l, x =>
    (k = 0 ∧ x = .nilIface) ∨ (k = 1 ∧ x = .iface 4 (.bool (n == 1))) ∨ (k = 2 ∧ x = .iface 3 (.int .i64 n)) ∨ (k = 3 ∧ x = .iface 2 (.int .i64 n)) ∨
    (k = 4 ∧ x = .iface 40 (.float .f64 r)) ∨ (k = 5 ∧ x = .iface 9 (.string t)) ∨
    (k = 6 ∧ ∃ a c xs, x = .iface 36 (.slice (some a) l.length c) ∧ RowIs w P 1 (.slice (some a) l.length c) l.length xs ∧ GoVs w P l xs) ∨
    (k = 7 ∧ ∃ b es clk xs, x = .iface 53 (.map (some b)) ∧ P b ∧ w.heap[b]? = some (.map es clk) ∧ (∀ e ∈ es, e.born < clk) ∧ (es.toList.map (·.born)).Nodup ∧ es.size ≤ maxLen ∧
      ks.length = l.length ∧ (es.toList.map fun e => (e.key, e.val)).Perm ((ks.map Value.string).zip xs) ∧ GoVs w P l xs)
def GoVs (w : World) (P : Nat → Prop) : List V → List Value → Prop
  | [], xs => xs = []
  | v :: r, xs => ∃ x xr, xs = x :: xr ∧ GoV w P v x ∧ GoVs w P r xr
end

/-! ### from world to world -/
/-- What P lets in of the first world is as it was in the second one, and Q lets it in. -/
def Kept (w w' : World) (P Q : Nat → Prop) : Prop := ∀ b, P b → b < w.heap.size → Q b ∧ w'.heap[b]? = w.heap[b]?
theorem Kept.refl (w : World) (P : Nat → Prop) : Kept w w P P := fun _ h _ => ⟨h, rfl⟩
theorem Kept.heap {w w' : World} {P : Nat → Prop} (h : w'.heap = w.heap) : Kept w w' P P := fun b hp _ => ⟨hp, by rw [h]⟩
theorem Kept.mono {w : World} {P Q : Nat → Prop} (h : ∀ b, P b → b < w.heap.size → Q b) : Kept w w P Q := fun b hp hl => ⟨h b hp hl, rfl⟩
theorem Kept.below {w w' : World} {P : Nat → Prop} (h : Below w.heap.size w w') : Kept w w' P P := fun b hp hl => ⟨hp, h.block b hl⟩
theorem Kept.grown {w w' : World} {P : Nat → Prop} {row : Option Nat} (h : w.grownBy w' row) (hp : ∀ b, P b → some b ≠ row) : Kept w w' P P := fun b hb hl => ⟨hb, h.block b hl (hp b hb)⟩
theorem Kept.set {w : World} {P : Nat → Prop} {a : Addr} (u : Value) (hp : ∀ b, P b → b ≠ a.block) : Kept w (w.setCell a u) P P := fun b hb _ => ⟨hb, Below.heap_setCell _ _ _ _ (hp b hb)⟩
theorem Kept.trans {w w1 w2 : World} {P Q R : Nat → Prop} (h : Kept w w1 P Q) (h1 : Kept w1 w2 Q R) : Kept w w2 P R := fun b hp hl => by
  obtain ⟨hq, e⟩ := h b hp hl
  have hl1 : b < w1.heap.size := by
    rcases Nat.lt_or_ge b w1.heap.size with h2 | h2
    · exact h2
    · rw [Array.getElem?_eq_none h2] at e; rw [Array.getElem?_eq_getElem hl] at e; cases e
  obtain ⟨hr, e1⟩ := h1 b hq hl1
  exact ⟨hr, e1.trans e⟩

section
variable {w w' : World} {P Q : Nat → Prop}
theorem RowIs.keep {s n : Nat} {v : Value} {xs : List Value} (h : RowIs w P s v n xs) (hs : 0 < s) (k : Kept w w' P Q) : RowIs w' Q s v n xs := by
  obtain ⟨A, c, hv, h1, h2, h3, h4⟩ := h
  refine ⟨A, c, hv, h1, h2, h3, fun hn => ?_⟩
  obtain ⟨b, o, hA, hP, hc⟩ := h4 hn
  have hl : 0 < xs.length := by rw [h3]; exact Nat.mul_pos hn hs
  have hb : b < w.heap.size := World.block_lt_of_cell? w ⟨b, o + 0, none⟩ (hc 0 _ (List.getElem?_eq_getElem hl))
  obtain ⟨hq, e⟩ := k b hP hb
  exact ⟨b, o, hA, hq, fun j u hu => (World.cell?_of_block (w := w) (a := ⟨b, o + j, none⟩) e).trans (hc j u hu)⟩
mutual
theorem IsV.keep (k : Kept w w' P Q) : ∀ (v : V) {cs : List Value}, IsV w P v cs → IsV w' Q v cs
  | .mk _ _ _ _ _ l, cs, h => by
    unfold IsV at h ⊢
    obtain ⟨kv, lv, xs, h1, h2, h3, h4, h5, h6, h7, h8⟩ := h
    exact ⟨kv, lv, xs, h1, h2, h3, h4, h5, h6.keep (by omega) k, h7.keep (by omega) k, IsVs.keep k l h8⟩
theorem IsVs.keep (k : Kept w w' P Q) : ∀ (l : List V) {xs : List Value}, IsVs w P l xs → IsVs w' Q l xs
  | [], xs, h => by unfold IsVs at h ⊢; exact h
  | v :: r, xs, h => by
    unfold IsVs at h ⊢
    obtain ⟨c, c', h1, h2, h3⟩ := h
    exact ⟨c, c', h1, IsV.keep k v h2, IsVs.keep k r h3⟩
end
mutual
theorem GoV.keep (k : Kept w w' P Q) : ∀ (v : V) {x : Value}, GoV w P v x → GoV w' Q v x
  | .mk _ _ _ _ _ l, x, h => by
    unfold GoV at h ⊢
    rcases h with h | h | h | h | h | h | ⟨hk, a, c, xs, h1, h2, h3⟩ | ⟨hk, b, es, clk, xs, h1, h2, h3, h4, h5, h6, h7, h8, h9⟩
    · exact .inl h
    · exact .inr (.inl h)
    · exact .inr (.inr (.inl h))
    · exact .inr (.inr (.inr (.inl h)))
    · exact .inr (.inr (.inr (.inr (.inl h))))
    · exact .inr (.inr (.inr (.inr (.inr (.inl h)))))
    · exact .inr (.inr (.inr (.inr (.inr (.inr (.inl ⟨hk, a, c, xs, h1, h2.keep (by omega) k, GoVs.keep k l h3⟩))))))
    · have hb : b < w.heap.size := (Array.getElem?_eq_some_iff.1 h3).1
      obtain ⟨hq, e⟩ := k b h2 hb
      exact .inr (.inr (.inr (.inr (.inr (.inr (.inr ⟨hk, b, es, clk, xs, h1, hq, e.trans h3, h4, h5, h6, h7, h8, GoVs.keep k l h9⟩))))))
theorem GoVs.keep (k : Kept w w' P Q) : ∀ (l : List V) {xs : List Value}, GoVs w P l xs → GoVs w' Q l xs
  | [], xs, h => by unfold GoVs at h ⊢; exact h
  | v :: r, xs, h => by
    unfold GoVs at h ⊢
    obtain ⟨c, c', h1, h2, h3⟩ := h
    exact ⟨c, c', h1, GoV.keep k v h2, GoVs.keep k r h3⟩
end
end

/-! ### lists -/
section
variable {w : World} {P : Nat → Prop}
theorem IsV.len {v : V} {cs : List Value} (h : IsV w P v cs) : cs.length = 6 := by
  cases v; unfold IsV at h; obtain ⟨kv, lv, xs, rfl, _⟩ := h; rfl
theorem IsV.open_ {v : V} {cs : List Value} (h : IsV w P v cs) : ∃ kv lv, cs = [.int .i64 v.k, .int .i64 v.n, .float .f64 v.r, .string v.t, kv, lv] := by
  cases v; unfold IsV at h; obtain ⟨kv, lv, xs, rfl, _⟩ := h; exact ⟨kv, lv, rfl⟩
theorem IsV.parts {v : V} {c0 c1 c2 c3 kv lv : Value} (h : IsV w P v [c0, c1, c2, c3, kv, lv]) : ∃ xs, RowIs w P 1 kv v.ks.length (v.ks.map .string) ∧ RowIs w P 6 lv v.l.length xs ∧ IsVs w P v.l xs ∧ I64 v.k ∧ I64 v.n ∧ v.t.size ≤ maxLen ∧ (∀ x ∈ v.ks, x.size ≤ maxLen) := by
  cases v with
  | mk k n r t ks l =>
    unfold IsV at h
    obtain ⟨kv', lv', xs, h1, h2, h3, h4, h5, h6, h7, h8⟩ := h
    simp only [List.cons.injEq] at h1
    obtain ⟨_, _, _, _, rfl, rfl, _⟩ := h1
    exact ⟨xs, h6, h7, h8, h2, h3, h4, h5⟩
theorem IsVs.len : ∀ {l : List V} {xs : List Value}, IsVs w P l xs → xs.length = l.length * 6
  | [], xs, h => by unfold IsVs at h; subst h; rfl
  | v :: r, xs, h => by
    unfold IsVs at h; obtain ⟨c, c', rfl, h2, h3⟩ := h
    rw [List.length_append, h2.len, IsVs.len h3, List.length_cons]; omega
theorem IsVs.at_ : ∀ {l : List V} {xs : List Value}, IsVs w P l xs → ∀ i (h : i < l.length), ∃ c, IsV w P l[i] c ∧ c.length = 6 ∧ ∀ j, j < 6 → xs[i * 6 + j]? = c[j]?
  | [], xs, _, i, h => absurd h (by simp)
  | v :: r, xs, h, i, hi => by
    unfold IsVs at h; obtain ⟨c, c', rfl, h2, h3⟩ := h
    cases i with
    | zero => exact ⟨c, h2, h2.len, fun j hj => by rw [Nat.zero_mul, Nat.zero_add, List.getElem?_append_left (by rw [h2.len]; exact hj)]⟩
    | succ i =>
      obtain ⟨d, hd, hl, hj⟩ := IsVs.at_ h3 i (by simpa using hi)
      refine ⟨d, by simpa using hd, hl, fun j h => ?_⟩
      rw [List.getElem?_append_right (by rw [h2.len]; omega), h2.len, show (i + 1) * 6 + j - 6 = i * 6 + j by omega]
      exact hj j h
theorem IsVs.mk : ∀ {l : List V} {xs : List Value}, xs.length = l.length * 6 → (∀ i (h : i < l.length), ∃ c, IsV w P l[i] c ∧ ∀ j, j < 6 → xs[i * 6 + j]? = c[j]?) → IsVs w P l xs
  | [], xs, h, _ => by unfold IsVs; exact List.eq_nil_of_length_eq_zero (by simpa using h)
  | v :: r, xs, h, hh => by
    unfold IsVs
    obtain ⟨c, hc, hj⟩ := hh 0 (by simp)
    have hl := hc.len
    refine ⟨c, xs.drop 6, ?_, by simpa using hc, IsVs.mk (by rw [List.length_drop, h, List.length_cons]; omega) fun i hi => ?_⟩
    · have e : xs.take 6 = c := by
        apply List.ext_getElem?
        intro j
        rw [List.getElem?_take]
        by_cases h6 : j < 6
        · rw [if_pos h6]; have := hj j h6; simpa using this
        · rw [if_neg h6, List.getElem?_eq_none (by omega)]
      rw [← e, List.take_append_drop]
    · obtain ⟨d, hd, hdj⟩ := hh (i + 1) (by simpa using hi)
      refine ⟨d, by simpa using hd, fun j h6 => ?_⟩
      rw [List.getElem?_drop, ← hdj j h6]
      congr 1; omega
theorem IsVs.snoc : ∀ {l : List V} {xs : List Value}, IsVs w P l xs → ∀ {v : V} {c : List Value}, IsV w P v c → IsVs w P (l ++ [v]) (xs ++ c)
  | [], xs, h, v, c, hc => by unfold IsVs at h; subst h; simp only [List.nil_append]; unfold IsVs; exact ⟨c, [], by simp, hc, by unfold IsVs; rfl⟩
  | u :: r, xs, h, v, c, hc => by
    unfold IsVs at h; obtain ⟨d, d', rfl, h2, h3⟩ := h
    rw [List.cons_append]; unfold IsVs
    exact ⟨d, d' ++ c, by rw [List.append_assoc], h2, IsVs.snoc h3 hc⟩
theorem IsVs.take : ∀ {l : List V} {xs : List Value}, IsVs w P l xs → ∀ n, IsVs w P (l.take n) (xs.take (n * 6))
  | [], xs, h, n => by unfold IsVs at h; subst h; simp; unfold IsVs; rfl
  | v :: r, xs, h, n => by
    unfold IsVs at h; obtain ⟨c, c', rfl, h2, h3⟩ := h
    cases n with
    | zero => simp; unfold IsVs; rfl
    | succ n =>
      rw [List.take_succ_cons]; unfold IsVs
      refine ⟨c, c'.take (n * 6), ?_, h2, IsVs.take h3 n⟩
      rw [List.take_append, h2.len, show (n + 1) * 6 - 6 = n * 6 by omega, List.take_of_length_le (by rw [h2.len]; omega)]
theorem IsVs.drop : ∀ {l : List V} {xs : List Value}, IsVs w P l xs → ∀ n, IsVs w P (l.drop n) (xs.drop (n * 6))
  | [], xs, h, n => by unfold IsVs at h; subst h; simp; unfold IsVs; rfl
  | v :: r, xs, h, n => by
    cases n with
    | zero => simpa using h
    | succ n =>
      unfold IsVs at h; obtain ⟨c, c', rfl, h2, h3⟩ := h
      rw [List.drop_succ_cons, List.drop_append, h2.len, show (n + 1) * 6 - 6 = n * 6 by omega, show c.drop ((n + 1) * 6) = [] from List.drop_eq_nil_of_le (by rw [h2.len]; omega), List.nil_append]
      exact IsVs.drop h3 n
theorem GoVs.len : ∀ {l : List V} {xs : List Value}, GoVs w P l xs → xs.length = l.length
  | [], xs, h => by unfold GoVs at h; subst h; rfl
  | v :: r, xs, h => by
    unfold GoVs at h; obtain ⟨c, c', rfl, h2, h3⟩ := h
    rw [List.length_cons, GoVs.len h3, List.length_cons]
theorem GoVs.at_ : ∀ {l : List V} {xs : List Value}, GoVs w P l xs → ∀ i (h : i < l.length), ∃ x, xs[i]? = some x ∧ GoV w P l[i] x
  | [], xs, _, i, h => absurd h (by simp)
  | v :: r, xs, h, i, hi => by
    unfold GoVs at h; obtain ⟨c, c', rfl, h2, h3⟩ := h
    cases i with
    | zero => exact ⟨c, rfl, h2⟩
    | succ i =>
      obtain ⟨d, hd, hl⟩ := GoVs.at_ h3 i (by simpa using hi)
      exact ⟨d, by simpa using hd, by simpa using hl⟩
theorem GoVs.mk : ∀ {l : List V} {xs : List Value}, xs.length = l.length → (∀ i (h : i < l.length), ∃ x, xs[i]? = some x ∧ GoV w P l[i] x) → GoVs w P l xs
  | [], xs, h, _ => by unfold GoVs; exact List.eq_nil_of_length_eq_zero (by simpa using h)
  | v :: r, [], h, _ => absurd h (by simp)
  | v :: r, x :: xr, h, hh => by
    unfold GoVs
    obtain ⟨c, hc, hj⟩ := hh 0 (by simp)
    obtain rfl : x = c := by simpa using hc
    refine ⟨x, xr, rfl, by simpa using hj, GoVs.mk (by simpa using h) fun i hi => ?_⟩
    obtain ⟨d, hd, hdj⟩ := hh (i + 1) (by simpa using hi)
    exact ⟨d, by simpa using hd, by simpa using hdj⟩
theorem GoVs.snoc : ∀ {l : List V} {xs : List Value}, GoVs w P l xs → ∀ {v : V} {x : Value}, GoV w P v x → GoVs w P (l ++ [v]) (xs ++ [x])
  | [], xs, h, v, c, hc => by unfold GoVs at h; subst h; simp only [List.nil_append]; unfold GoVs; exact ⟨c, [], by simp, hc, by unfold GoVs; rfl⟩
  | u :: r, xs, h, v, c, hc => by
    unfold GoVs at h; obtain ⟨d, d', rfl, h2, h3⟩ := h
    rw [List.cons_append]; unfold GoVs
    exact ⟨d, d' ++ [c], by simp, h2, GoVs.snoc h3 hc⟩
theorem GoVs.append : ∀ {l : List V} {xs : List Value}, GoVs w P l xs → ∀ {m : List V} {ys : List Value}, GoVs w P m ys → GoVs w P (l ++ m) (xs ++ ys)
  | [], xs, h, m, ys, hm => by unfold GoVs at h; subst h; simpa using hm
  | u :: r, xs, h, m, ys, hm => by
    unfold GoVs at h; obtain ⟨d, d', rfl, h2, h3⟩ := h
    rw [List.cons_append]; unfold GoVs
    exact ⟨d, d' ++ ys, by simp, h2, GoVs.append h3 hm⟩
theorem RowIs.form {s n : Nat} {v : Value} {xs : List Value} (h : RowIs w P s v n xs) : ∃ A c, v = .slice A n c ∧ n ≤ c ∧ c ≤ maxLen ∧ xs.length = n * s := by
  obtain ⟨A, c, h1, h2, h3, h4, _⟩ := h; exact ⟨A, c, h1, h2, h3, h4⟩
theorem RowIs.sizes {s n c m : Nat} {A : Option Addr} {xs : List Value} (h : RowIs w P s (.slice A n c) m xs) : n ≤ c ∧ c ≤ maxLen := by
  obtain ⟨A', c', h1, h2, h3, _⟩ := h
  injection h1 with h1 h4 h5
  subst h4; subst h5; exact ⟨h2, h3⟩
/-- The cells of an element. -/
theorem RowIs.elem {s n c : Nat} {A : Option Addr} {xs : List Value} (h : RowIs w P s (.slice A n c) n xs) (hn : 0 < n) : ∃ b o, A = some ⟨b, o, none⟩ ∧ P b ∧ ∀ j u, xs[j]? = some u → w.cell? ⟨b, o + j, none⟩ = some u := by
  obtain ⟨A', c', h1, _, _, _, h5⟩ := h
  injection h1 with h1 h2 h3
  subst h1; exact h5 hn
/-- The six cells of an element of a slice of values. -/
theorem IsVs.elem {l : List V} {A : Option Addr} {c : Nat} {xs : List Value} (hl : RowIs w P 6 (.slice A l.length c) l.length xs) (hv : IsVs w P l xs) : ∀ i (hi : i < l.length), ∃ b o kv lv, A = some ⟨b, o, none⟩ ∧ b < w.heap.size ∧ P b ∧
    IsV w P l[i] [.int .i64 l[i].k, .int .i64 l[i].n, .float .f64 l[i].r, .string l[i].t, kv, lv] ∧
    (w.cell? ⟨b, o + i * 6, none⟩ = some (.int .i64 l[i].k) ∧ w.cell? ⟨b, o + i * 6 + 1, none⟩ = some (.int .i64 l[i].n) ∧ w.cell? ⟨b, o + i * 6 + 2, none⟩ = some (.float .f64 l[i].r) ∧
      w.cell? ⟨b, o + i * 6 + 3, none⟩ = some (.string l[i].t) ∧ w.cell? ⟨b, o + i * 6 + 4, none⟩ = some kv ∧ w.cell? ⟨b, o + i * 6 + 5, none⟩ = some lv) := fun i hi => by
  obtain ⟨b, o, hA, hP, hc⟩ := hl.elem (by omega)
  obtain ⟨cs, hcs, hcl, hx⟩ := hv.at_ i hi
  obtain ⟨kv', lv', rfl⟩ := hcs.open_
  have f0 := hc (i * 6 + 0) _ (hx 0 (by omega))
  have f1 := hc (i * 6 + 1) _ (hx 1 (by omega))
  have f2 := hc (i * 6 + 2) _ (hx 2 (by omega))
  have f3 := hc (i * 6 + 3) _ (hx 3 (by omega))
  have f4 := hc (i * 6 + 4) _ (hx 4 (by omega))
  have f5 := hc (i * 6 + 5) _ (hx 5 (by omega))
  exact ⟨b, o, kv', lv', hA, World.block_lt_of_cell? w _ f0, hP, hcs, f0, f1, f2, f3, f4, f5⟩
/-- What a row of the call's own holds. -/
theorem RowIs.of_own {base s n : Nat} {e : TypeId} {v : Value} {xs : List Value} (h : w.ownsRow base e s v n xs) (hP : ∀ b, v.ownBlock = some b → P b) : RowIs w P s v n xs := by
  rcases h.2 with ⟨rfl, rfl⟩ | ⟨g, cap, cur, rfl, hb, hg, h1, h2, h3, h4⟩
  · exact ⟨none, 0, rfl, Nat.le_refl _, by unfold maxLen; omega, h.1, fun hn => absurd hn (by omega)⟩
  · refine ⟨_, cap, rfl, h1, h2, h.1, fun _ => ⟨g, 0, rfl, hP g rfl, fun j u hu => ?_⟩⟩
    have := h.cells (g := g) rfl j u hu
    rw [Nat.zero_add, ← Go.Proofs.YtkikkeegdooenaaGreatDoorW.PrintWords.add_plain]; exact this
end
end Go.Proofs.YtkikkeegdooenaaGreatDoor.Vals
