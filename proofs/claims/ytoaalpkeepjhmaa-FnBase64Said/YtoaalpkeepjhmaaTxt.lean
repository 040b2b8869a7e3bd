/- Plain lemmas on texts (lists of bytes), on loops with rounds, and on the first place of a text in another one. No program in sight. -/
import Derived.Test.YtoaalpkeepjhmaaWWords
import Derived.Lib.Strings
namespace Go.Proofs.Ytoaalpkeepjhmaa.Txt
open Go.RowKit Go.Proofs.YtoaalpkeepjhmaaW.PrintWords

/-! ### byte arrays as lists -/
theorem len_eq (s : ByteArray) : s.size = s.toList.length := by rw [Lib.toList_data, Array.length_toList]; rfl
theorem ext_eq {s t : ByteArray} (h : s.toList = t.toList) : s = t := by
  rw [Lib.toList_data, Lib.toList_data] at h
  cases s with | mk a => cases t with | mk b => cases a with | mk x => cases b with | mk y => simp only at h; rw [h]
theorem ext_iff' {s t : ByteArray} : s.toList = t.toList ↔ s = t := ⟨ext_eq, fun h => by rw [h]⟩
theorem tl_extract (s : ByteArray) (a b : Nat) : (s.extract a b).toList = (s.toList.drop a).take (b - a) := by
  rw [Lib.extract_toList, Lib.toList_data]
theorem tl_append (a b : ByteArray) : (a ++ b).toList = a.toList ++ b.toList := by
  rw [Lib.toList_data, Lib.toList_data, Lib.toList_data, ByteArray.data_append, Array.toList_append]
theorem tl_mk (l : List UInt8) : (⟨l.toArray⟩ : ByteArray).toList = l := by rw [Lib.toList_data]
theorem tl_nil : (⟨#[]⟩ : ByteArray).toList = [] := by rw [Lib.toList_data]
theorem size_extract (s : ByteArray) (a b : Nat) (h1 : a ≤ b) (h2 : b ≤ s.size) : (s.extract a b).size = b - a := by
  rw [len_eq, tl_extract, List.length_take, List.length_drop, ← len_eq]; omega
theorem size_append (a b : ByteArray) : (a ++ b).size = a.size + b.size := by
  rw [len_eq, tl_append, List.length_append, ← len_eq, ← len_eq]
theorem extract_zero_size (s : ByteArray) : s.extract 0 s.size = s := by
  apply ext_eq; rw [tl_extract, List.drop_zero, Nat.sub_zero, len_eq, List.take_length]
theorem extract_self (s : ByteArray) (a : Nat) : (s.extract a s.size).toList = s.toList.drop a := by
  rw [tl_extract, List.take_of_length_le]; rw [List.length_drop, ← len_eq]; omega
theorem extract_upto (s : ByteArray) (b : Nat) : (s.extract 0 b).toList = s.toList.take b := by
  rw [tl_extract, List.drop_zero, Nat.sub_zero]
theorem bt_get (s : ByteArray) (i : Int) (h : i.toNat < s.toList.length) : bt s i = ((s.toList[i.toNat]'h).toNat : Int) := by
  have h' : i.toNat < s.size := by rw [len_eq]; exact h
  unfold bt; rw [dif_pos h']
  have : s[i.toNat]'h' = s.toList[i.toNat]'h := by
    have e : s.toList = s.data.toList := Lib.toList_data s
    simp only [e]; rfl
  rw [this]
theorem bt_getD (s : ByteArray) (i : Int) : bt s i = ((s.toList.getD i.toNat 0).toNat : Int) := by
  by_cases h : i.toNat < s.toList.length
  · rw [bt_get s i h, List.getD_eq_getElem?_getD, List.getElem?_eq_getElem h]; rfl
  · have h' : ¬ i.toNat < s.size := by rw [len_eq]; exact h
    unfold bt; rw [dif_neg h', List.getD_eq_getElem?_getD, List.getElem?_eq_none (by omega)]; rfl

/-- Whose block a slice lies in: its length doesn't matter. -/
theorem own_map (A : Option Addr) (n c : Nat) : (Value.slice A n c).ownBlock = A.map (·.block) := by cases A <;> rfl

/-! ### words of 64 bits -/
theorem w64 {n : Int} (h0 : -9223372036854775808 ≤ n) (h1 : n ≤ 9223372036854775807) : wrap64 n = n := by unfold wrap64; omega

/-- (omega must not see 'wrap64' in the context: it may unfold it) -/
theorem wadd (a b : Nat) (h : a + b ≤ 9223372036854775807) : wrap64 ((a : Int) + (b : Int)) = ((a + b : Nat) : Int) := by
  rw [w64 (by omega) (by omega)]; rfl
theorem wsucc (a : Nat) (h : a + 1 ≤ 9223372036854775807) : wrap64 ((a : Int) + 1) = ((a + 1 : Nat) : Int) := by
  rw [w64 (by omega) (by omega)]; rfl
theorem wsub (a b : Nat) (h : b ≤ a) (h' : a ≤ 9223372036854775807) : wrap64 ((a : Int) - (b : Int)) = ((a - b : Nat) : Int) := by
  rw [w64 (by omega) (by omega)]; omega

theorem wf64 {n : Int} (h : (Lit.int .i64 n).wf = true) : -9223372036854775808 ≤ n ∧ n ≤ 9223372036854775807 := by
  simp only [Lit.wf, IntKind.min, IntKind.max, IntKind.signed, IntKind.bits, Bool.and_eq_true, decide_eq_true_eq, if_true] at h
  omega

/-! ### rounds -/
theorem Ev.uniq {α : Type} {g : Nat → Option α} {r q : α} (h : Ev g r) (h' : Ev g q) : r = q := by
  obtain ⟨K, h⟩ := h; obtain ⟨K', h'⟩ := h'
  have a := h (max K K') (by omega); have b := h' (max K K') (by omega)
  rw [a] at b; exact Option.some.inj b
theorem Ev.pos {α : Type} {g : Nat → Option α} {c : Prop} [Decidable c] {f : Nat → Option α} {r : α} (hc : c) (h : Ev g r) : Ev (fun k => if c then g k else f k) r := by
  simp only [if_pos hc]; exact h
theorem Ev.neg {α : Type} {g : Nat → Option α} {c : Prop} [Decidable c] {f : Nat → Option α} {r : α} (hc : ¬ c) (h : Ev f r) : Ev (fun k => if c then g k else f k) r := by
  simp only [if_neg hc]; exact h
theorem Ev.const {α : Type} {g : Option α} {r : α} (h : g = some r) : Ev (fun _ => g) r := ⟨0, fun _ _ => h⟩
/-- A call, then what follows. -/
theorem Ev.andThen {α β : Type} {g : Nat → Option α} {f : Nat → α → Option β} {a : α} {r : β} (h : Ev g a) (k : Ev (fun n => f n a) r) : Ev (fun n => (g n).bind (fun t => f n t)) r := h.bind k
theorem Ev.thenC {α β : Type} {g : Option α} {f : Nat → α → Option β} {a : α} {r : β} (h : g = some a) (k : Ev (fun n => f n a) r) : Ev (fun n => g.bind (fun t => f n t)) r := by
  subst h; exact k
/-- A loop by an invariant on a measure. -/
theorem loop_ev {σ ρ : Type} (l : Nat → σ → Option ρ) (Inv : σ → Prop) (res : σ → ρ) (m : σ → Nat)
    (step : ∀ s, Inv s → (∀ k, l (k + 1) s = some (res s)) ∨ ∃ s', Inv s' ∧ m s' < m s ∧ res s' = res s ∧ ∀ k, l (k + 1) s = l k s') :
    ∀ s, Inv s → Ev (fun k => l k s) (res s) := by
  have key : ∀ (n : Nat) (s : σ), m s < n → Inv s → Ev (fun k => l k s) (res s) := by
    intro n
    induction n with
    | zero => intro s hs; omega
    | succ n ih =>
      intro s hs hi
      rcases step s hi with h | ⟨s', hi', hm, hr, hk⟩
      · exact Ev.step h (Ev.now _)
      · rw [← hr]; exact Ev.step hk (ih s' (by omega) hi')
  intro s hi
  exact key (m s + 1) s (by omega) hi
/-- As loop_ev; a round may end in something that needs rounds of its own. -/
theorem loop_ev' {σ ρ : Type} (l : Nat → σ → Option ρ) (Inv : σ → Prop) (res : σ → ρ) (m : σ → Nat)
    (step : ∀ s, Inv s → (∀ s', Inv s' → m s' < m s → Ev (fun k => l k s') (res s')) → Ev (fun k => l (k + 1) s) (res s)) :
    ∀ s, Inv s → Ev (fun k => l k s) (res s) := by
  have key : ∀ (n : Nat) (s : σ), m s < n → Inv s → Ev (fun k => l k s) (res s) := by
    intro n
    induction n with
    | zero => intro s hs; omega
    | succ n ih =>
      intro s hs hi
      exact Ev.step (fun _ => rfl) (step s hi (fun s' hi' hm => ih s' (by omega) hi'))
  intro s hi
  exact key (m s + 1) s (by omega) hi

/-! ### the first place of a text in another one -/
def idx (p : List UInt8) : List UInt8 → Option Nat
  | [] => if p = [] then some 0 else none
  | c :: s => if p.isPrefixOf (c :: s) then some 0 else (idx p s).map (· + 1)
/-- As Go tells it: -1 without one; 'i' more. -/
def at_ (i : Nat) : Option Nat → Int
  | none => -1
  | some j => ((j + i : Nat) : Int)
theorem pre_iff (p s : List UInt8) : p.isPrefixOf s = true ↔ s.take p.length = p := by
  rw [List.isPrefixOf_iff_prefix, List.prefix_iff_eq_take]; exact eq_comm
theorem pre_len {p s : List UInt8} (h : p.isPrefixOf s = true) : p.length ≤ s.length := by
  rw [List.isPrefixOf_iff_prefix] at h; exact h.length_le
theorem idx_short (p s : List UInt8) (h : s.length < p.length) : idx p s = none := by
  induction s with
  | nil => rw [idx, if_neg]; intro e; rw [e] at h; simp at h
  | cons c s ih =>
    rw [idx, if_neg, ih (by simp at h; omega)]; rfl
    intro e; have := pre_len e; omega
theorem idx_hit (p s : List UInt8) (h : p.isPrefixOf s = true) : idx p s = some 0 := by
  cases s with
  | nil => rw [idx, if_pos]; simpa using h
  | cons c s => rw [idx, if_pos h]
theorem idx_miss (p : List UInt8) (c : UInt8) (s : List UInt8) (h : ¬ p.isPrefixOf (c :: s) = true) : idx p (c :: s) = (idx p s).map (· + 1) := by
  rw [idx, if_neg h]
theorem idx_some {p s : List UInt8} {j : Nat} (h : idx p s = some j) : j + p.length ≤ s.length ∧ p.isPrefixOf (s.drop j) = true := by
  induction s generalizing j with
  | nil =>
    rw [idx] at h
    split at h
    · rename_i e; subst e; obtain rfl := Option.some.inj h; simp
    · exact absurd h (by simp)
  | cons c s ih =>
    rw [idx] at h
    split at h
    · rename_i e; obtain rfl := Option.some.inj h; exact ⟨by have := pre_len e; omega, by simpa using e⟩
    · obtain ⟨q, hq, rfl⟩ := Option.map_eq_some_iff.1 h
      have ⟨a, b⟩ := ih hq
      exact ⟨by simp; omega, by simpa using b⟩
theorem idx_before {p s : List UInt8} {j : Nat} (h : idx p s = some j) : ∀ q, q < j → ¬ p.isPrefixOf (s.drop q) = true := by
  induction s generalizing j with
  | nil =>
    rw [idx] at h
    split at h
    · obtain rfl := Option.some.inj h; intro q hq; omega
    · exact absurd h (by simp)
  | cons c s ih =>
    rw [idx] at h
    split at h
    · obtain rfl := Option.some.inj h; intro q hq; omega
    · rename_i hn
      obtain ⟨j', hj', rfl⟩ := Option.map_eq_some_iff.1 h
      intro q hq
      cases q with
      | zero => simpa using hn
      | succ q => simpa using ih hj' q (by omega)
theorem idx_none {p s : List UInt8} (h : idx p s = none) : ∀ q, q ≤ s.length → ¬ p.isPrefixOf (s.drop q) = true := by
  induction s with
  | nil =>
    rw [idx] at h
    split at h
    · exact absurd h (by simp)
    · rename_i hp; intro q _; simpa using hp
  | cons c s ih =>
    rw [idx] at h
    split at h
    · exact absurd h (by simp)
    · rename_i hn
      have hs : idx p s = none := by simpa using h
      intro q hq
      cases q with
      | zero => simpa using hn
      | succ q => simpa using ih hs q (by simp at hq; omega)

/-- The search loop as it is printed (s: where; p: what). -/
theorem search (l : Nat → Int → Option Int) (s p : List UInt8) (hs : s.length ≤ 140737488355328) (hp : p.length ≤ 140737488355328)
    (h : ∀ k x, l (k + 1) x = if wrap64 (x + p.length) ≤ (s.length : Int) then (if 0 ≤ x then (if x ≤ wrap64 (x + p.length) then (if (s.drop x.toNat).take ((wrap64 (x + p.length)).toNat - x.toNat) = p then some x else l k (wrap64 (x + 1))) else none) else none) else some (-1))
    (i : Nat) (hi : i ≤ s.length ∨ p ≠ []) (hi' : i ≤ 140737488355328) : Ev (fun k => l k (i : Int)) (at_ i (idx p (s.drop i))) := by
  have key : ∀ (d i : Nat), s.length + 1 - i ≤ d → (i ≤ s.length ∨ p ≠ []) → i ≤ 140737488355328 → Ev (fun k => l k (i : Int)) (at_ i (idx p (s.drop i))) := by
    intro d
    induction d with
    | zero =>
      intro i hd hi hi'
      have hlt : s.length < i := by omega
      have e : s.drop i = [] := List.drop_eq_nil_of_le (by omega)
      have hp' : p ≠ [] := by rcases hi with h | h; omega; exact h
      have hpl : 0 < p.length := List.length_pos_iff.2 hp'
      rw [e, idx, if_neg hp']
      refine Ev.step (f := fun _ => some (-1)) (fun k => ?_) (Ev.now _)
      rw [h, if_neg (by rw [w64 (by omega) (by omega)]; omega)]
    | succ d ih =>
      intro i hd hi hi'
      by_cases hle : i + p.length ≤ s.length
      · by_cases hm : p.isPrefixOf (s.drop i) = true
        · rw [idx_hit _ _ hm]
          refine Ev.step (f := fun _ => some (i : Int)) (fun k => ?_) (by simp only [at_, Nat.zero_add]; exact Ev.now _)
          rw [h, w64 (by omega) (by omega), if_pos (by omega), if_pos (by omega), if_pos (by omega)]
          rw [show (((i : Int) + (p.length : Int)).toNat - (i : Int).toNat) = p.length by omega, Int.toNat_natCast, if_pos ((pre_iff _ _).1 hm)]
        · refine Ev.step (f := fun k => l k ((i + 1 : Nat) : Int)) (fun k => ?_) ?_
          · rw [h, w64 (by omega) (by omega), if_pos (by omega), if_pos (by omega), if_pos (by omega)]
            rw [show (((i : Int) + (p.length : Int)).toNat - (i : Int).toNat) = p.length by omega, Int.toNat_natCast, if_neg (fun e => hm ((pre_iff _ _).2 e)), w64 (by omega) (by omega)]
            rfl
          · have hil : i < s.length ∨ p = [] := by
              by_cases hp0 : p = []
              · exact .inr hp0
              · have : 0 < p.length := List.length_pos_iff.2 hp0
                exact .inl (by omega)
            rcases hil with hil | hp0
            · have e : s.drop i = s[i] :: s.drop (i + 1) := List.drop_eq_getElem_cons hil
              have := ih (i + 1) (by omega) (.inl (by omega)) (by omega)
              have e2 : at_ i (idx p (s.drop i)) = at_ (i + 1) (idx p (s.drop (i + 1))) := by
                rw [e, idx_miss _ _ _ (by rw [← e]; exact hm)]
                cases idx p (s.drop (i + 1)) with
                | none => rfl
                | some j => simp only [Option.map_some, at_]; omega
              rw [e2]; exact this
            · subst hp0; exact absurd (by simp) hm
      · have hsh : idx p (s.drop i) = none := by
          by_cases hil : i ≤ s.length
          · exact idx_short _ _ (by rw [List.length_drop]; omega)
          · have e : s.drop i = [] := List.drop_eq_nil_of_le (by omega)
            have hp' : p ≠ [] := by rcases hi with h | h; omega; exact h
            rw [e, idx, if_neg hp']
        rw [hsh]
        refine Ev.step (f := fun _ => some (-1)) (fun k => ?_) (Ev.now _)
        rw [h, if_neg (by rw [w64 (by omega) (by omega)]; omega)]
  exact key _ i (Nat.le_refl _) hi hi'

/-! ### the parts of a text between another one (that is not empty) -/
def splitF (p : List UInt8) : Nat → List UInt8 → List (List UInt8)
  | 0, s => [s]
  | n + 1, s => match idx p s with
    | none => [s]
    | some j => s.take j :: splitF p n (s.drop (j + p.length))
def splitL (p s : List UInt8) : List (List UInt8) := splitF p s.length s
theorem splitF_enough (p : List UInt8) (hp : p ≠ []) : ∀ (n m : Nat) (s : List UInt8), s.length ≤ n → s.length ≤ m → splitF p n s = splitF p m s := by
  have hpp := List.length_pos_iff.2 hp
  have z : ∀ (m : Nat) (s : List UInt8), s.length ≤ 0 → splitF p m s = [s] := by
    intro m s h
    have : s = [] := List.length_eq_zero_iff.1 (by omega)
    subst this
    cases m with
    | zero => rfl
    | succ m => simp [splitF, idx, hp]
  intro n
  induction n with
  | zero => intro m s h _; rw [z m s h]; rfl
  | succ n ih =>
    intro m s h h'
    cases m with
    | zero => rw [z (n + 1) s h']; rfl
    | succ m =>
      simp only [splitF]
      cases hx : idx p s with
      | none => rfl
      | some j =>
        have := (idx_some hx).1
        simp only
        rw [ih m _ (by rw [List.length_drop]; omega) (by rw [List.length_drop]; omega)]
theorem splitL_none {p s : List UInt8} (_hp : p ≠ []) (h : idx p s = none) : splitL p s = [s] := by
  unfold splitL
  cases s with
  | nil => rfl
  | cons c s => simp only [List.length_cons, splitF, h]
theorem splitL_some {p s : List UInt8} {j : Nat} (hp : p ≠ []) (h : idx p s = some j) : splitL p s = s.take j :: splitL p (s.drop (j + p.length)) := by
  have hpp := List.length_pos_iff.2 hp
  have := (idx_some h).1
  unfold splitL
  obtain ⟨n, hn⟩ : ∃ n, s.length = n + 1 := ⟨s.length - 1, by omega⟩
  rw [hn]; simp only [splitF, h]
  rw [splitF_enough p hp n (s.drop (j + p.length)).length _ (by rw [List.length_drop]; omega) (Nat.le_refl _)]
theorem splitL_ne (p s : List UInt8) : splitL p s ≠ [] := by
  unfold splitL
  cases s with
  | nil => simp [splitF]
  | cons c s =>
    simp only [List.length_cons, splitF]
    split <;> simp

end Go.Proofs.Ytoaalpkeepjhmaa.Txt
