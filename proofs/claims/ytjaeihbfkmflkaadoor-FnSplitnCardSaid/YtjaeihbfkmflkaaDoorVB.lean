/- Walks of spec.Same and spec.SameList: whether two values are the same. -/
import Derived.Test.YtjaeihbfkmflkaaDoorVA
import Derived.Deep.DeepCutAuto
import Derived.Test.YtjaeihbfkmflkaaDoorValW3
import Derived.Test.YtjaeihbfkmflkaaDoorValDict
import Derived.Laws.BitsLemmas
import Derived.Deep.OwnRows
import Derived.Maps.OwnSet
import Derived.Carry
import Derived.IntWalk
import Derived.ChangeArms
import Derived.SliceStrings
import Derived.KernelRfl
import Derived.WalkKit
import Derived.ProofKit
import Derived.OpenShut
import Derived.Deep.RegionHeld3
namespace Go.Proofs.YtjaeihbfkmflkaaDoor.Vals
open Go.RowKit Go.Proofs.YtjaeihbfkmflkaaDoorW.PrintWords Go.Proofs.YtjaeihbfkmflkaaDoor.Txt
set_option linter.unusedVariables false
set_option maxRecDepth 20000

mutual
/-- Two values are the same. -/
def SameP : V → V → Prop
  | .mk k n r t ks l, b => bareB k n r t b.k b.n b.r b.t = true ∧ ks = b.ks ∧ l.length = b.l.length ∧ SamesP l b.l
def SamesP : List V → List V → Prop
  | [], m => m = []
  | a :: x, m => ∃ b y, m = b :: y ∧ SameP a b ∧ SamesP x y
end
theorem SamesP.mk : ∀ {l m : List V}, l.length = m.length → (∀ i (h : i < l.length) (h' : i < m.length), SameP l[i] m[i]) → SamesP l m
  | [], m, h, _ => by unfold SamesP; exact List.eq_nil_of_length_eq_zero (by simpa using h.symm)
  | a :: x, [], h, _ => absurd h (by simp)
  | a :: x, b :: y, h, hh => by
    unfold SamesP
    exact ⟨b, y, rfl, hh 0 (by simp) (by simp), SamesP.mk (by simpa using h) fun i hi hi' => hh (i + 1) (by simpa using hi) (by simpa using hi')⟩
theorem SamesP.at_ : ∀ {l m : List V}, SamesP l m → ∀ i (h : i < l.length) (h' : i < m.length), SameP l[i] m[i]
  | [], m, _, i, hi, _ => absurd hi (by simp)
  | a :: x, m, h, i, hi, hi' => by
    unfold SamesP at h
    obtain ⟨b, y, rfl, h1, h2⟩ := h
    cases i with
    | zero => simpa using h1
    | succ i => simpa using SamesP.at_ h2 i (by simpa using hi) (by simpa using hi')
theorem SamesP.len : ∀ {l m : List V}, SamesP l m → l.length = m.length
  | [], m, h => by unfold SamesP at h; subst h; rfl
  | a :: x, m, h => by
    unfold SamesP at h
    obtain ⟨b, y, rfl, _, h2⟩ := h
    rw [List.length_cons, List.length_cons, SamesP.len h2]
noncomputable def sameB (a b : V) : Bool := @decide (SameP a b) (Classical.propDecidable _)
noncomputable def samesB (a b : List V) : Bool := @decide (SamesP a b) (Classical.propDecidable _)
theorem sameB_no {a b : V} (h : ¬ SameP a b) : sameB a b = false := @decide_eq_false _ (Classical.propDecidable _) h
theorem sameB_yes {a b : V} (h : SameP a b) : sameB a b = true := @decide_eq_true _ (Classical.propDecidable _) h
theorem sameB_iff {a b : V} : sameB a b = true ↔ SameP a b := @decide_eq_true_iff _ (Classical.propDecidable _)
theorem samesB_no {a b : List V} (h : ¬ SamesP a b) : samesB a b = false := @decide_eq_false _ (Classical.propDecidable _) h
theorem samesB_yes {a b : List V} (h : SamesP a b) : samesB a b = true := @decide_eq_true _ (Classical.propDecidable _) h
theorem samesB_iff {a b : List V} : samesB a b = true ↔ SamesP a b := @decide_eq_true_iff _ (Classical.propDecidable _)

theorem keyCell {w : World} {P : Nat → Prop} {A : Option Addr} {c : Nat} {ks : List ByteArray} (hk : RowIs w P 1 (.slice A ks.length c) ks.length (ks.map Value.string)) :
    ∀ i (hi : i < ks.length), ∃ b o, A = some ⟨b, o, none⟩ ∧ b < w.heap.size ∧ w.cell? ⟨b, o + i, none⟩ = some (.string ks[i]) := fun i hi => by
  obtain ⟨b, o, hA, _, hc⟩ := hk.elem (by omega)
  have := hc i (.string ks[i]) (by simp [hi])
  exact ⟨b, o, hA, World.block_lt_of_cell? w _ this, this⟩

end Go.Proofs.YtjaeihbfkmflkaaDoor.Vals
namespace Go.Proofs.YtjaeihbfkmflkaaDoor.Vals
open Go.RowKit Go.Proofs.YtjaeihbfkmflkaaDoorW.PrintWords
set_option linter.unusedVariables false
set_option maxRecDepth 20000

end Go.Proofs.YtjaeihbfkmflkaaDoor.Vals
namespace Go.Proofs.YtjaeihbfkmflkaaDoor.Vals
open Go.RowKit Go.Proofs.YtjaeihbfkmflkaaDoorW.PrintWords Go.Proofs.YtjaeihbfkmflkaaDoor.Txt
set_option linter.unusedVariables false
set_option maxRecDepth 20000

theorem and1 (n : Int) : bits .and .i64 n 1 = n % 2 := by
  have h1 : (BitVec.ofInt 64 1).toNat = 2 ^ 1 - 1 := by decide
  have key : (BitVec.ofInt 64 n &&& BitVec.ofInt 64 1).toNat = (n % ((2 ^ 64 : Nat) : Int)).toNat % 2 ^ 1 := by
    rw [BitVec.toNat_and, BitVec.toNat_ofInt, h1, Nat.and_two_pow_sub_one_eq_mod]
  show IntKind.i64.wrap ((BitVec.ofInt 64 n &&& BitVec.ofInt 64 1).toNat : Nat) = n % 2
  rw [key, IntKind.wrap_i64]
  omega

theorem Right.bare {k n : Int} {r : Nat} {t : ByteArray} {ks : List ByteArray} {l : List V} {d : Int} (h : Right (.mk k n r t ks l) d) :
    (n = if k = 1 then (if n = 1 then 1 else 0) else if k = 2 ∨ k = 3 then n else 0) ∧ feq r (if k = 4 then r else 0) = true ∧ t = (if k = 5 then t else ⟨#[]⟩) := by
  unfold Right at h
  obtain ⟨⟨n', r', t', hb, hbb⟩, hf, _⟩ := h
  obtain ⟨_, rfl, rfl, rfl⟩ := hb
  have hr := finB_refl hf
  unfold bareB at hbb
  simp only [Bool.and_eq_true, decide_eq_true_eq, Bool.or_eq_true, beq_iff_eq, hr] at hbb
  obtain ⟨_, h1, h2, h3⟩ := hbb
  refine ⟨?_, ?_, ext_eq h3⟩
  · by_cases hk : k = 1
    · rw [if_pos hk] at h1 ⊢
      rw [and1] at h1
      split <;> omega
    · rw [if_neg hk] at h1 ⊢
      exact h1
  · rcases h2 with h2 | h2
    · exact h2
    · simp at h2
theorem Right.fine : ∀ (N : Nat) (v : V), SizeOf.sizeOf v < N → ∀ {d : Int} {w : World} {P : Nat → Prop} {c0 c1 c2 c3 kv lv : Value}, Right v d → IsV w P v [c0, c1, c2, c3, kv, lv] → Fine v := by
  intro N
  induction N with
  | zero => intro v h; omega
  | succ N ih =>
    intro v hN d w P c0 c1 c2 c3 kv lv hr hi
    obtain ⟨xs, _, hl, hv, _, hI, _, _⟩ := hi.parts
    obtain ⟨A, c, rfl, _⟩ := hl.form
    have hch : ∀ i (h : i < v.l.length), Right v.l[i] (d - 1) → Fine v.l[i] := fun i h hri => by
      obtain ⟨b, o, kv', lv', _, _, _, hi', _⟩ := IsVs.elem hl hv i h
      exact ih _ (by have := v.lt_of_get i h; omega) hri hi'
    have hk := hr
    obtain ⟨k, n, r, t, ks, l⟩ := v
    have hkk := hk.kind
    unfold Right at hr
    obtain ⟨_, _, h3, _, h5, _, _, h8, h9, h10⟩ := hr
    unfold Fine
    refine ⟨hkk, hI, by unfold maxLen; omega, by simpa using Nat.le_trans h5 (by omega), fun h7 => ⟨h8 h7, ?_, ?_⟩, Fines.mk fun i h => hch i h (h10.at_ i h)⟩
    · exact asc_of_steps fun i h0 hi => (h9 h7 i (by have := h8 h7; omega)).2 h0
    · intro x hx
      obtain ⟨i, hi, rfl⟩ := List.mem_iff_getElem.1 hx
      have := (h9 h7 i (by have := h8 h7; omega)).1
      simp only [List.getD_eq_getElem?_getD, List.getElem?_eq_getElem hi, Option.getD_some] at this
      unfold maxLen; omega
theorem fine_of {v : V} {d : Int} {w : World} {P : Nat → Prop} {c0 c1 c2 c3 kv lv : Value} (hr : Right v d) (hi : IsV w P v [c0, c1, c2, c3, kv, lv]) : Fine v := Right.fine _ v (Nat.lt_succ_self _) hr hi
theorem fines_of {l : List V} {d : Int} {w : World} {P : Nat → Prop} {A : Option Addr} {c : Nat} {xs : List Value} (hr : Rights l d) (hl : RowIs w P 6 (.slice A l.length c) l.length xs) (hv : IsVs w P l xs) : Fines l :=
  Fines.mk fun i h => by
    obtain ⟨b, o, kv', lv', _, _, _, hi', _⟩ := IsVs.elem hl hv i h
    exact fine_of (hr.at_ i h) hi'
theorem same_norm : ∀ (N : Nat) (v : V), SizeOf.sizeOf v < N → ∀ {d : Int}, Right v d → SameP (norm v) v := by
  intro N
  induction N with
  | zero => intro v h; omega
  | succ N ih =>
    intro v hN d hr
    have hch : ∀ i (h : i < v.l.length), Right v.l[i] (d - 1) → SameP (norm v.l[i]) v.l[i] := fun i h hri => ih _ (by have := v.lt_of_get i h; omega) hri
    obtain ⟨k, n, r, t, ks, l⟩ := v
    obtain ⟨h1, h2, h3⟩ := hr.bare
    unfold Right at hr
    obtain ⟨_, _, _, h4, _, _, h7, _, _, h10⟩ := hr
    unfold norm
    unfold SameP
    simp only [V.k, V.n, V.r, V.t, V.ks, V.l]
    refine ⟨?_, ?_, ?_, ?_⟩
    · unfold bareB
      rw [← h1, ← h3, feq_symm, h2]
      simp
    · by_cases hk : k = 7
      · rw [if_pos hk]
      · rw [if_neg hk, List.eq_nil_of_length_eq_zero (h7 hk)]
    · by_cases hk : k = 6 ∨ k = 7
      · rw [if_pos hk, norms_len]
      · rw [if_neg hk, h4 (fun e => hk (.inl e)) (fun e => hk (.inr e))]; rfl
    · by_cases hk : k = 6 ∨ k = 7
      · rw [if_pos hk]
        exact SamesP.mk (norms_len l) fun i hi hi' => by rw [norms_get l i hi' hi]; exact hch i hi' (h10.at_ i hi')
      · rw [if_neg hk, List.eq_nil_of_length_eq_zero (h4 (fun e => hk (.inl e)) (fun e => hk (.inr e)))]
        unfold SamesP; rfl
theorem same_of {v : V} {d : Int} (hr : Right v d) : SameP (norm v) v := same_norm _ v (Nat.lt_succ_self _) hr
theorem sames_of {l : List V} {d : Int} (hr : Rights l d) : SamesP (norms l) l := SamesP.mk (norms_len l) fun i hi hi' => by rw [norms_get l i hi' hi]; exact same_of (hr.at_ i hi')
end Go.Proofs.YtjaeihbfkmflkaaDoor.Vals
namespace Go.Proofs.YtjaeihbfkmflkaaDoor.Vals
open Go.RowKit Go.Proofs.YtjaeihbfkmflkaaDoorW.PrintWords
set_option linter.unusedVariables false
set_option maxRecDepth 20000

theorem RowIs.cell1 {w : World} {P : Nat → Prop} {a : Addr} {n c : Nat} {xs : List Value} (h : RowIs w P 1 (.slice (some a) n c) n xs) (hn : 0 < n) : ∃ b o, a = ⟨b, o, none⟩ ∧ b < w.heap.size ∧ ∀ j u, xs[j]? = some u → w.cell? ⟨b, o + j, none⟩ = some u := by
  obtain ⟨A, c', _, _, _, hx, _⟩ := id h
  obtain ⟨b, o, hA, _, hc⟩ := h.elem hn
  injection hA with hA
  obtain ⟨u, hu⟩ : ∃ u, xs[0]? = some u := ⟨xs[0], List.getElem?_eq_getElem (by omega)⟩
  exact ⟨b, o, hA, World.block_lt_of_cell? w _ (hc 0 u hu), hc⟩
theorem GoVs.drop {w : World} {P : Nat → Prop} : ∀ (k : Nat) {l : List V} {xs : List Value}, GoVs w P l xs → GoVs w P (l.drop k) (xs.drop k)
  | 0, l, xs, h => by simpa using h
  | k + 1, [], xs, h => by unfold GoVs at h; subst h; simp; unfold GoVs; rfl
  | k + 1, v :: l, xs, h => by
    unfold GoVs at h
    obtain ⟨x, xr, rfl, _, h⟩ := h
    exact GoVs.drop k h
theorem GoVs.take {w : World} {P : Nat → Prop} : ∀ (k : Nat) {l : List V} {xs : List Value}, GoVs w P l xs → GoVs w P (l.take k) (xs.take k)
  | 0, l, xs, h => by simp; unfold GoVs; rfl
  | k + 1, [], xs, h => by unfold GoVs at h; subst h; simp; unfold GoVs; rfl
  | k + 1, v :: l, xs, h => by
    unfold GoVs at h
    obtain ⟨x, xr, rfl, h1, h⟩ := h
    simp only [List.take_succ_cons]
    unfold GoVs
    exact ⟨x, _, rfl, h1, GoVs.take k h⟩
/-- A value of an interface's type. -/
def Face (x : Value) : Prop := x = .nilIface ∨ ∃ t y, x = .iface t y
theorem GoV.face {w : World} {P : Nat → Prop} {v : V} {x : Value} (h : GoV w P v x) : Face x := by
  cases v; unfold GoV at h
  rcases h with ⟨_, rfl⟩ | ⟨_, rfl⟩ | ⟨_, rfl⟩ | ⟨_, rfl⟩ | ⟨_, rfl⟩ | ⟨_, rfl⟩ | ⟨_, a, c, xs, rfl, _⟩ | ⟨_, b, es, clk, xs, rfl, _⟩
  · exact .inl rfl
  all_goals exact .inr ⟨_, _, rfl⟩
theorem GoVs.face {w : World} {P : Nat → Prop} : ∀ {l : List V} {xs : List Value}, GoVs w P l xs → ∀ x ∈ xs, Face x
  | [], xs, h => by unfold GoVs at h; subst h; intro x hx; cases hx
  | v :: l, xs, h => by
    unfold GoVs at h
    obtain ⟨y, r, rfl, h1, h2⟩ := h
    intro x hx
    rcases List.mem_cons.1 hx with rfl | hx
    · exact h1.face
    · exact h2.face x hx
theorem faceInfo : (Tryd.prog.info? 20).map (fun i => (i.zero, i.size, i.bytes)) = some (some .nilIface, 1, 16) := by kernel_rfl
theorem take_set {arr : Array Value} {ys : List Value} {i : Nat} {v : Value} (h : arr.toList.take i = ys.take i) (hi : i < arr.size) (hv : ys[i]? = some v) : (arr.set! i v).toList.take (i + 1) = ys.take (i + 1) := by
  have hy : i < ys.length := by rw [List.getElem?_eq_some_iff] at hv; exact hv.1
  apply List.ext_getElem?
  intro j
  rcases Nat.lt_trichotomy j i with hj | rfl | hj
  · have h1 := congrArg (fun l => l[j]?) h
    simp only [List.getElem?_take_of_lt hj] at h1
    rw [List.getElem?_take_of_lt (by omega), List.getElem?_take_of_lt (by omega), ← h1]
    simp [Array.set!, Array.setIfInBounds, hi, show ¬ i = j by omega]
  · rw [List.getElem?_take_of_lt (by omega), List.getElem?_take_of_lt (by omega), hv]
    simp [Array.set!, Array.setIfInBounds, hi]
  · rw [List.getElem?_take_eq_none (by omega), List.getElem?_take_eq_none (by omega)]

def RestRes (n : Nat) (xs : List Value) (w : World) (e : Ending) (w' : World) : Prop := ∃ A c, e = .returned (.tuple #[.slice A (n - 1) c, .nilIface]) ∧ Hid (RowIs w' (fun b => w.heap.size ≤ b) 1 (.slice A (n - 1) c) (n - 1) (xs.drop 1)) ∧ Hid (Below w.heap.size w w')
def InitialRes (n : Nat) (xs : List Value) (w : World) (e : Ending) (w' : World) : Prop := ∃ A c, e = .returned (.tuple #[.slice A (n - 1) c, .nilIface]) ∧ Hid (RowIs w' (fun b => w.heap.size ≤ b) 1 (.slice A (n - 1) c) (n - 1) (xs.take (n - 1))) ∧ Hid (Below w.heap.size w w')
end Go.Proofs.YtjaeihbfkmflkaaDoor.Vals
namespace Go.Proofs.YtjaeihbfkmflkaaDoor.Vals
open Go.RowKit Go.MapKept Go.ChangeMaps Go.Proofs.YtjaeihbfkmflkaaDoor.Txt
set_option linter.unusedVariables false

abbrev lessB (a b : ByteArray) : Bool := Op.bytesLess a.toList b.toList
/-- Where a key stands among ascending ones, or ought to. -/
def atD (ks : List ByteArray) (s : ByteArray) : Nat := (ks.takeWhile fun k => lessB k s).length
def isD (ks : List ByteArray) (s : ByteArray) : Bool := decide (ks[atD ks s]? = some s)
theorem atD_le (ks : List ByteArray) (s : ByteArray) : atD ks s ≤ ks.length := by
  unfold atD; exact (List.takeWhile_sublist _).length_le
theorem atD_take (ks : List ByteArray) (s : ByteArray) : ks.take (atD ks s) = ks.takeWhile fun k => lessB k s :=
  (List.prefix_iff_eq_take.1 (List.takeWhile_prefix _)).symm
theorem mem_while {α : Type} (p : α → Bool) : ∀ {l : List α} {x : α}, x ∈ l.takeWhile p → p x = true
  | [], x, h => by simp at h
  | a :: r, x, h => by
    rw [List.takeWhile_cons] at h
    split at h
    · rcases List.mem_cons.1 h with rfl | h
      · assumption
      · exact mem_while p h
    · simp at h
theorem erase_map {α β : Type} (f : α → β) : ∀ (l : List α) (i : Nat), (l.map f).eraseIdx i = (l.eraseIdx i).map f
  | [], i => by simp
  | a :: r, 0 => by simp
  | a :: r, i + 1 => by simp [erase_map f r i]
theorem atD_less {ks : List ByteArray} {s : ByteArray} {j : Nat} (hj : j < ks.length) (h : j < atD ks s) : lessB ks[j] s = true := by
  have hm : ks[j] ∈ ks.takeWhile fun k => lessB k s := by
    rw [← atD_take, List.mem_iff_getElem]
    exact ⟨j, by rw [List.length_take]; omega, List.getElem_take⟩
  exact mem_while (fun k => lessB k s) hm
theorem atD_of {s : ByteArray} : ∀ {ks : List ByteArray} {i : Nat}, i ≤ ks.length → (∀ j (h : j < ks.length), j < i → lessB ks[j] s = true) → (∀ h : i < ks.length, lessB ks[i] s = false) → atD ks s = i
  | [], i, h, _, _ => by simp at h; subst h; rfl
  | k :: r, 0, _, _, h => by
    have := h (by simp)
    unfold atD
    rw [List.takeWhile_cons, if_neg (by simpa using this)]; rfl
  | k :: r, i + 1, hi, h1, h2 => by
    have h0 := h1 0 (by simp) (by omega)
    have ih := atD_of (ks := r) (i := i) (by simpa using hi) (fun j hj hji => by have := h1 (j + 1) (by simpa using hj) (by omega); simpa using this) (fun h => by have := h2 (by simpa using h); simpa using this)
    unfold atD at ih ⊢
    rw [List.takeWhile_cons, if_pos (by simpa using h0), List.length_cons, ih]
theorem atD_stop {ks : List ByteArray} {s : ByteArray} (h : atD ks s < ks.length) : lessB ks[atD ks s] s = false := by
  cases hb : lessB ks[atD ks s] s with
  | false => rfl
  | true =>
    exfalso
    have key : ∀ (ks : List ByteArray) (h : atD ks s < ks.length), lessB ks[atD ks s] s = true → False := by
      intro ks
      induction ks with
      | nil => intro h; simp at h
      | cons k r ih =>
        intro h hb
        by_cases hk : lessB k s = true
        · have e : atD (k :: r) s = atD r s + 1 := by unfold atD; rw [List.takeWhile_cons, if_pos hk, List.length_cons]
          simp only [e, List.getElem_cons_succ] at hb
          exact ih (by rw [e, List.length_cons] at h; omega) hb
        · have e : atD (k :: r) s = 0 := by unfold atD; rw [List.takeWhile_cons, if_neg hk]; rfl
          simp only [e, List.getElem_cons_zero] at hb
          exact hk hb
    exact key ks h hb
/-- A key that is there stands at its place. -/
theorem atD_mem {ks : List ByteArray} {s : ByteArray} (ha : Asc ks) {i : Nat} (hi : i < ks.length) (e : ks[i] = s) : atD ks s = i :=
  atD_of (by omega) (fun j hj hji => by rw [← e]; exact List.pairwise_iff_getElem.1 ha j i hj hi hji) (fun _ => by rw [e]; exact less_irrefl _)
theorem isD_of {ks : List ByteArray} {s : ByteArray} (ha : Asc ks) (h : s ∈ ks) : isD ks s = true := by
  obtain ⟨i, hi, e⟩ := List.mem_iff_getElem.1 h
  unfold isD
  rw [atD_mem ha hi e, List.getElem?_eq_getElem hi, e]; simp
theorem isD_mem {ks : List ByteArray} {s : ByteArray} (h : isD ks s = true) : ∃ hi : atD ks s < ks.length, ks[atD ks s] = s := by
  unfold isD at h
  rw [decide_eq_true_eq] at h
  exact List.getElem?_eq_some_iff.1 h
theorem isD_no {ks : List ByteArray} {s : ByteArray} (ha : Asc ks) (h : isD ks s = false) : s ∉ ks := fun hm => by rw [isD_of ha hm] at h; cases h
/-- The keys with one more. -/
def putK (ks : List ByteArray) (s : ByteArray) : List ByteArray := if isD ks s = true then ks else ks.take (atD ks s) ++ s :: ks.drop (atD ks s)
def putL {α : Type} (ks : List ByteArray) (l : List α) (s : ByteArray) (u : α) : List α := if isD ks s = true then l.set (atD ks s) u else l.take (atD ks s) ++ u :: l.drop (atD ks s)
/-- The keys without one. -/
def takeK (ks : List ByteArray) (s : ByteArray) : List ByteArray := if isD ks s = true then ks.eraseIdx (atD ks s) else ks
def takeL {α : Type} (ks : List ByteArray) (l : List α) (s : ByteArray) : List α := if isD ks s = true then l.eraseIdx (atD ks s) else l
theorem put_len {α : Type} {ks : List ByteArray} {l : List α} {s : ByteArray} {u : α} (h : ks.length = l.length) : (putK ks s).length = (putL ks l s u).length := by
  unfold putK putL
  split
  · rw [List.length_set]; exact h
  · simp only [List.length_append, List.length_cons, List.length_take, List.length_drop, h]
theorem take_len {α : Type} {ks : List ByteArray} {l : List α} {s : ByteArray} (h : ks.length = l.length) : (takeK ks s).length = (takeL ks l s).length := by
  unfold takeK takeL
  split
  · rw [List.length_eraseIdx, List.length_eraseIdx, h]
  · exact h
theorem Asc.put {ks : List ByteArray} (ha : Asc ks) (s : ByteArray) : Asc (putK ks s) := by
  unfold putK
  split
  · exact ha
  · rename_i hn
    have hn' : isD ks s = false := by simpa using hn
    have hns := isD_no ha hn'
    refine List.pairwise_append.2 ⟨ha.sublist (List.take_sublist _ _), List.pairwise_cons.2 ⟨fun b hb => ?_, ha.sublist (List.drop_sublist _ _)⟩, fun a hA b hb => ?_⟩
    · obtain ⟨j, hj, rfl⟩ := List.mem_iff_getElem.1 hb
      rw [List.length_drop] at hj
      rw [List.getElem_drop]
      have hst := atD_stop (s := s) (ks := ks) (by omega)
      have hge : lessB ks[atD ks s + j] s = false := by
        rcases Nat.eq_zero_or_pos j with h0 | h0
        · subst h0; exact hst
        · cases hb : lessB ks[atD ks s + j] s with
          | false => rfl
          | true =>
            have := List.pairwise_iff_getElem.1 ha (atD ks s) (atD ks s + j) (by omega) (by omega) (by omega)
            have h2 : lessB ks[atD ks s] s = true := less_trans _ _ _ this hb
            rw [hst] at h2; cases h2
      cases hc : lessB s ks[atD ks s + j] with
      | true => exact hc
      | false =>
        have := less_total _ _ hc hge
        exact absurd (List.getElem_mem (by omega : atD ks s + j < ks.length)) (by rw [← ext_eq this]; exact hns)
    · have hA' : lessB a s = true := by rw [atD_take] at hA; exact mem_while (fun k => lessB k s) hA
      rcases List.mem_cons.1 hb with rfl | hb
      · exact hA'
      · obtain ⟨j, hj, rfl⟩ := List.mem_iff_getElem.1 hb
        obtain ⟨i, hi, rfl⟩ := List.mem_iff_getElem.1 hA
        rw [List.length_take] at hi
        rw [List.length_drop] at hj
        rw [List.getElem_drop, List.getElem_take]
        exact List.pairwise_iff_getElem.1 ha i (atD ks s + j) (by omega) (by omega) (by omega)
theorem Asc.take {ks : List ByteArray} (ha : Asc ks) (s : ByteArray) : Asc (takeK ks s) := by
  unfold takeK
  split
  · exact ha.sublist (List.eraseIdx_sublist _ _)
  · exact ha
theorem putK_all {ks : List ByteArray} {s : ByteArray} {p : ByteArray → Prop} (h : ∀ k ∈ ks, p k) (hs : p s) : ∀ k ∈ putK ks s, p k := by
  intro k hk
  unfold putK at hk
  split at hk
  · exact h k hk
  · rcases List.mem_append.1 hk with hk | hk
    · exact h k (List.mem_of_mem_take hk)
    · rcases List.mem_cons.1 hk with rfl | hk
      · exact hs
      · exact h k (List.mem_of_mem_drop hk)
theorem takeK_all {ks : List ByteArray} {s : ByteArray} {p : ByteArray → Prop} (h : ∀ k ∈ ks, p k) : ∀ k ∈ takeK ks s, p k := by
  intro k hk
  unfold takeK at hk
  split at hk
  · exact h k (List.mem_of_mem_eraseIdx hk)
  · exact h k hk
theorem putL_mem {α : Type} {ks : List ByteArray} {l : List α} {s : ByteArray} {u : α} {p : α → Prop} (h : ∀ k ∈ l, p k) (hs : p u) : ∀ k ∈ putL ks l s u, p k := by
  intro k hk
  unfold putL at hk
  split at hk
  · rcases List.mem_or_eq_of_mem_set hk with hk | rfl
    · exact h k hk
    · exact hs
  · rcases List.mem_append.1 hk with hk | hk
    · exact h k (List.mem_of_mem_take hk)
    · rcases List.mem_cons.1 hk with rfl | hk
      · exact hs
      · exact h k (List.mem_of_mem_drop hk)
theorem takeL_mem {α : Type} {ks : List ByteArray} {l : List α} {s : ByteArray} {p : α → Prop} (h : ∀ k ∈ l, p k) : ∀ k ∈ takeL ks l s, p k := by
  intro k hk
  unfold takeL at hk
  split at hk
  · exact h k (List.mem_of_mem_eraseIdx hk)
  · exact h k hk
theorem Rights.of_mem {l : List V} {d : Int} (h : ∀ v ∈ l, Right v d) : Rights l d := Rights.mk fun i hi => h _ (List.getElem_mem hi)
theorem Rights.mem {l : List V} {d : Int} (h : Rights l d) : ∀ v ∈ l, Right v d := fun v hv => by
  obtain ⟨i, hi, rfl⟩ := List.mem_iff_getElem.1 hv; exact h.at_ i hi
theorem Fines.of_mem {l : List V} (h : ∀ v ∈ l, Fine v) : Fines l := Fines.mk fun i hi => h _ (List.getElem_mem hi)
theorem Fines.mem {l : List V} (h : Fines l) : ∀ v ∈ l, Fine v := fun v hv => by
  obtain ⟨i, hi, rfl⟩ := List.mem_iff_getElem.1 hv; exact h.at_ i hi
/-! ### entries -/
/-- A key, this one. -/
def keyIs (s : ByteArray) : Value → Bool
  | .string t => decide (t = s)
  | _ => false
theorem keyIs_iff {s : ByteArray} {v : Value} : keyIs s v = true ↔ v = .string s := by
  cases v <;> simp [keyIs]
/-- With another value for a key. -/
def swapP (s : ByteArray) (x : Value) (p : Value × Value) : Value × Value := if keyIs s p.1 = true then (.string s, x) else p
theorem modify_pairs {es : Array MapEntry} {j : Nat} {e0 : MapEntry} {s : ByteArray} {x : Value} (hn : (es.toList.map (·.key)).Nodup) (hj : es.toList[j]? = some e0) (he : e0.key = .string s) :
    (es.modify j fun e => { e with key := .string s, val := x }).toList.map (fun e => (e.key, e.val)) = (es.toList.map fun e => (e.key, e.val)).map (swapP s x) := by
  obtain ⟨hjl, hj'⟩ := List.getElem?_eq_some_iff.1 hj
  apply List.ext_getElem
  · simp
  · intro i h1 h2
    simp only [List.getElem_map, Array.getElem_toList, Array.getElem_modify]
    have hil : i < es.size := by simpa using h1
    by_cases hij : j = i
    · subst hij
      rw [if_pos rfl]
      have : es[j].key = .string s := by rw [← he, ← hj']; rfl
      unfold swapP
      rw [if_pos (keyIs_iff.2 this)]
    · rw [if_neg hij]
      unfold swapP
      rw [if_neg]
      intro hk
      have hk' := keyIs_iff.1 hk
      have hp := List.pairwise_iff_getElem.1 (List.pairwise_map.1 hn)
      have e1 : es.toList[j].key = .string s := by rw [hj', he]
      have e2 : (es.toList[i]'(by simpa using hil)).key = .string s := hk'
      rcases Nat.lt_or_gt_of_ne hij with h | h
      · exact hp j i hjl (by simpa using hil) h (by rw [e1, e2])
      · exact hp i j (by simpa using hil) hjl h (by rw [e1, e2])
theorem zip_set {ks : List ByteArray} {xs : List Value} (ha : Asc ks) (hl : ks.length = xs.length) {i : Nat} (hi : i < ks.length) (x : Value) :
    ((ks.map Value.string).zip xs).map (swapP ks[i] x) = (ks.map Value.string).zip (xs.set i x) := by
  apply List.ext_getElem
  · simp
  · intro j h1 h2
    have hj : j < ks.length := by simp at h1; omega
    simp only [List.getElem_map, List.getElem_zip, List.getElem_set]
    unfold swapP
    by_cases hij : i = j
    · subst hij
      rw [if_pos (keyIs_iff.2 rfl), if_pos rfl]
    · rw [if_neg, if_neg hij]
      intro h
      have := keyIs_iff.1 h
      injection this with this
      exact hij (asc_inj' ha hi hj this.symm)
where
  asc_inj' {ks : List ByteArray} (h : Asc ks) {i j : Nat} (hi : i < ks.length) (hj : j < ks.length) (e : ks[i] = ks[j]) : i = j := by
    have hp := List.pairwise_iff_getElem.1 h.nodup
    rcases Nat.lt_trichotomy i j with h | h | h
    · exact absurd e (hp i j hi hj h)
    · exact h
    · exact absurd e.symm (hp j i hj hi h)
theorem erase_filter {α : Type} (p : α → Bool) : ∀ (l : List α) (j : Nat) (h : j < l.length), (∀ i (hi : i < l.length), p l[i] = decide (i ≠ j)) → l.eraseIdx j = l.filter p
  | [], j, h, _ => by simp at h
  | a :: r, 0, _, hp => by
    have h0 := hp 0 (by simp)
    simp only [List.getElem_cons_zero, ne_eq, not_true_eq_false, decide_false] at h0
    rw [List.eraseIdx_cons_zero, List.filter_cons, if_neg (by rw [h0]; simp)]
    refine (List.filter_eq_self.2 fun b hb => ?_).symm
    obtain ⟨i, hi, rfl⟩ := List.mem_iff_getElem.1 hb
    have := hp (i + 1) (by simpa using hi)
    simpa using this
  | a :: r, j + 1, h, hp => by
    have h0 := hp 0 (by simp)
    simp only [List.getElem_cons_zero, ne_eq, Nat.zero_ne_add_one, not_false_eq_true, decide_true] at h0
    rw [List.eraseIdx_cons_succ, List.filter_cons, if_pos h0, erase_filter p r j (by simpa using h) fun i hi => by
      have := hp (i + 1) (by simpa using hi)
      simpa using this]
theorem erase_pairs {es : Array MapEntry} {j : Nat} {e0 : MapEntry} {s : ByteArray} (hn : (es.toList.map (·.key)).Nodup) (hj : es.toList[j]? = some e0) (he : e0.key = .string s) :
    (es.eraseIdxIfInBounds j).toList.map (fun e => (e.key, e.val)) = (es.toList.map fun e => (e.key, e.val)).filter fun p => !keyIs s p.1 := by
  obtain ⟨hjl, hj'⟩ := List.getElem?_eq_some_iff.1 hj
  rw [← erase_filter _ _ j (by simpa using hjl)]
  · rw [Array.toList_eraseIdxIfInBounds, erase_map]
  · intro i hi
    have hil : i < es.toList.length := by simpa using hi
    simp only [List.getElem_map]
    have hp := List.pairwise_iff_getElem.1 (List.pairwise_map.1 hn)
    have e1 : es.toList[j].key = .string s := by rw [hj', he]
    by_cases hij : i = j
    · subst hij
      rw [keyIs_iff.2 e1]; simp
    · have : keyIs s es.toList[i].key = false := by
        cases hk : keyIs s es.toList[i].key with
        | false => rfl
        | true =>
          exfalso
          have e2 := keyIs_iff.1 hk
          rcases Nat.lt_or_gt_of_ne hij with h | h
          · exact hp i j hil hjl h (by rw [e1, e2])
          · exact hp j i hjl hil h (by rw [e1, e2])
      rw [this]; simp [hij]
theorem zip_erase {ks : List ByteArray} {xs : List Value} (ha : Asc ks) (hl : ks.length = xs.length) {i : Nat} (hi : i < ks.length) :
    ((ks.map Value.string).zip xs).filter (fun p => !keyIs ks[i] p.1) = ((ks.eraseIdx i).map Value.string).zip (xs.eraseIdx i) := by
  rw [← erase_filter _ _ i (by simp; omega)]
  · have hz : ∀ (a : List Value) (b : List Value) (i : Nat), a.length = b.length → (a.zip b).eraseIdx i = (a.eraseIdx i).zip (b.eraseIdx i) := by
      intro a
      induction a with
      | nil => intro b i h; simp
      | cons x a ih =>
        intro b i h
        cases b with
        | nil => simp at h
        | cons y b =>
          cases i with
          | zero => simp
          | succ i => simp only [List.zip_cons_cons, List.eraseIdx_cons_succ]; rw [ih b i (by simpa using h)]
    rw [hz _ _ _ (by simpa using hl), erase_map]
  · intro j hj
    have hjl : j < ks.length := by simp at hj; omega
    simp only [List.getElem_zip, List.getElem_map]
    by_cases hij : j = i
    · subst hij
      rw [keyIs_iff.2 rfl]; simp
    · have : keyIs ks[i] (.string ks[j]) = false := by
        cases hk : keyIs ks[i] (.string ks[j]) with
        | false => rfl
        | true =>
          have := keyIs_iff.1 hk
          injection this with this
          exact absurd (zip_set.asc_inj' ha hjl hi this) hij
      rw [this]; simp [hij]
theorem zip_put {ks : List ByteArray} {xs : List Value} (hl : ks.length = xs.length) (a : Nat) (s : ByteArray) (x : Value) :
    (((ks.map Value.string).zip xs) ++ [(Value.string s, x)]).Perm (((ks.take a ++ s :: ks.drop a).map Value.string).zip (xs.take a ++ x :: xs.drop a)) := by
  have e1 : ((ks.take a ++ s :: ks.drop a).map Value.string).zip (xs.take a ++ x :: xs.drop a) = ((ks.take a).map Value.string).zip (xs.take a) ++ (Value.string s, x) :: ((ks.drop a).map Value.string).zip (xs.drop a) := by
    rw [List.map_append, List.map_cons, List.zip_append (by simp [hl])]; rfl
  have e2 : (ks.map Value.string).zip xs = ((ks.take a).map Value.string).zip (xs.take a) ++ ((ks.drop a).map Value.string).zip (xs.drop a) := by
    rw [← List.zip_append (by simp [hl]), ← List.map_append, List.take_append_drop, List.take_append_drop]
  rw [e1, e2]
  exact (List.perm_append_singleton _ _).trans (List.perm_middle.symm)
end Go.Proofs.YtjaeihbfkmflkaaDoor.Vals
namespace Go.Proofs.YtjaeihbfkmflkaaDoor.Vals
open Go.RowKit Go.Proofs.YtjaeihbfkmflkaaDoorW.PrintWords
set_option linter.unusedVariables false
set_option maxRecDepth 20000

theorem wpList_len_at {P : Program} (w : World) {ops : Array Oper} {rest : List Oper} {o : Oper} {a : Act} {Q : Exit → Act → World → Prop} (hg : o.guard = none) (m : Operand) (t : TypeId) (hop : o.op = Op.call { callee := Callee.builtin Builtin.len, args := #[m], argTypes := #[t] })
    (k e : TypeId) (ht : P.underlying t = some (.map k e)) (b : Nat) (es : Array MapEntry) (clk : Nat) (hm : a.eval m = .map (some b)) (hb : w.heap[b]? = some (.map es clk))
    (hK : wpList P ops Q rest (a.put o.dst (.int .i64 (es.size : Int))) w) : wpList P ops Q (o :: rest) a w := by
  refine wpList_plain hg fun K' hK' => ?_
  have hrun : (Builtin.len_ #[t] o.type #[.map (some b)]).run P w = .ok (.int .i64 (es.size : Int)) w := by
    simp [Builtin.len_, run_underlying ht, MapKept.run_getObj_map hb, goInt, Result.andThen]
  unfold Oper.wp
  simp [execOp, hop, resolve, invoke, builtin, hm, hrun, Result.andThen]
  exact hK' _ _ hK

def emptyB (v : V) : Bool := if v.k = 4 then feq v.r 0 else if v.k = 5 then decide (v.t = ⟨#[]⟩) else if v.k = 6 ∨ v.k = 7 then decide (v.l.length = 0) else decide (v.n = 0)

end Go.Proofs.YtjaeihbfkmflkaaDoor.Vals
namespace Go.Proofs.YtjaeihbfkmflkaaDoor.Vals
open Go.RowKit Go.Proofs.YtjaeihbfkmflkaaDoorW.PrintWords
set_option linter.unusedVariables false
set_option maxRecDepth 20000

end Go.Proofs.YtjaeihbfkmflkaaDoor.Vals
namespace Go.Proofs.YtjaeihbfkmflkaaDoor.Vals
open Go.RowKit Go.Proofs.YtjaeihbfkmflkaaDoorW.PrintWords
set_option linter.unusedVariables false
set_option maxRecDepth 20000

def V.nil : V := .mk 0 0 0 ⟨#[]⟩ [] []
theorem fine_nil : Fine V.nil := by
  unfold V.nil Fine
  exact ⟨by omega, i64_small (by omega) (by omega), by show 0 ≤ maxLen; omega, by simp, fun h => absurd h (by omega), by unfold Fines; trivial⟩
theorem norm_nil : norm V.nil = V.nil := by unfold V.nil; rw [norm_0]
theorem GoV.nil (w : World) (P : Nat → Prop) : GoV w P V.nil .nilIface := by unfold V.nil GoV; exact .inl ⟨rfl, rfl⟩
theorem GoVs.head {w : World} {P : Nat → Prop} : ∀ {l : List V} {xs : List Value}, GoVs w P l xs → GoV w P (l.headD V.nil) (xs.headD .nilIface)
  | [], xs, h => by unfold GoVs at h; subst h; exact GoV.nil w P
  | v :: l, xs, h => by unfold GoVs at h; obtain ⟨x, r, rfl, h1, _⟩ := h; exact h1
theorem GoVs.last {w : World} {P : Nat → Prop} : ∀ {l : List V} {xs : List Value}, GoVs w P l xs → GoV w P (l.getLastD V.nil) (xs.getLastD .nilIface)
  | [], xs, h => by unfold GoVs at h; subst h; exact GoV.nil w P
  | [v], xs, h => by
    unfold GoVs at h; obtain ⟨x, r, rfl, h1, h2⟩ := h
    unfold GoVs at h2; subst h2; exact h1
  | v :: u :: l, xs, h => by
    unfold GoVs at h; obtain ⟨x, r, rfl, _, h2⟩ := h
    have := GoVs.last h2
    unfold GoVs at h2; obtain ⟨y, s, rfl, _, _⟩ := h2
    simpa using this
theorem Fines.head : ∀ {l : List V}, Fines l → Fine (l.headD V.nil)
  | [], _ => fine_nil
  | v :: l, h => by unfold Fines at h; exact h.1
theorem Fines.last : ∀ {l : List V}, Fines l → Fine (l.getLastD V.nil)
  | [], _ => fine_nil
  | [v], h => by unfold Fines at h; exact h.1
  | v :: u :: r, h => by
    unfold Fines at h
    have := Fines.last (l := u :: r) h.2
    simpa using this
theorem nil_nil : ∀ w, (binOp .eql 86 .nilIface .nilIface).run Tryd.prog w = .ok (.bool true) w := fun w => by kernel_rfl
def PickRes (v : V) (w : World) (e : Ending) (w' : World) : Prop := ∃ kv lv, e = .returned (.tuple #[.agg #[.int .i64 (norm v).k, .int .i64 (norm v).n, .float .f64 (norm v).r, .string (norm v).t, kv, lv], .bool true]) ∧
  Hid (IsV w' (fun b => w.heap.size ≤ b) (norm v) [.int .i64 (norm v).k, .int .i64 (norm v).n, .float .f64 (norm v).r, .string (norm v).t, kv, lv]) ∧ Hid (Below w.heap.size w w')
def ListRes (l : List V) (w : World) (e : Ending) (w' : World) : Prop := ∃ A c ys, e = .returned (.tuple #[.slice A l.length c, .bool true]) ∧
  Hid (RowIs w' (fun b => w.heap.size ≤ b) 6 (.slice A l.length c) l.length ys ∧ IsVs w' (fun b => w.heap.size ≤ b) (norms l) ys) ∧ Hid (Below w.heap.size w w')

end Go.Proofs.YtjaeihbfkmflkaaDoor.Vals
namespace Go.Proofs.YtjaeihbfkmflkaaDoor.Vals
open Go.RowKit Go.Proofs.YtjaeihbfkmflkaaDoorW.PrintWords
set_option linter.unusedVariables false
set_option maxRecDepth 20000

/-- The first that is not empty. -/
def pickV : List V → V
  | [] => V.nil
  | v :: r => if emptyB v = true then pickV r else v
def pickX : List V → List Value → Value
  | v :: r, x :: s => if emptyB v = true then pickX r s else x
  | _, _ => .nilIface
theorem GoVs.pick {w : World} {P : Nat → Prop} : ∀ {l : List V} {xs : List Value}, GoVs w P l xs → GoV w P (pickV l) (pickX l xs)
  | [], xs, h => by unfold GoVs at h; subst h; exact GoV.nil w P
  | v :: l, xs, h => by
    unfold GoVs at h
    obtain ⟨x, r, rfl, h1, h2⟩ := h
    unfold pickV pickX
    split
    · exact GoVs.pick h2
    · exact h1
end Go.Proofs.YtjaeihbfkmflkaaDoor.Vals
namespace Go.Proofs.YtjaeihbfkmflkaaDoor.Vals
open Go.RowKit Go.ChangeMaps Go.Proofs.YtjaeihbfkmflkaaDoorW.PrintWords Go.Proofs.YtjaeihbfkmflkaaDoor.Txt
set_option linter.unusedVariables false
set_option maxRecDepth 20000

theorem zero_of {r : Nat} (h : feq r 0 = true) : ∃ s i, FloatKind.f64.format.read r = .number s 0 i := by
  unfold feq Ieee.Format.order at h
  have h0 : FloatKind.f64.format.read 0 = .number false 0 (-1074) := by rfl
  rw [h0] at h
  cases hr : FloatKind.f64.format.read r with
  | number s m i =>
    rw [hr] at h
    simp only [Ieee.Datum.order, beq_iff_eq, Option.some.injEq, cmp_eq] at h
    refine ⟨s, i, ?_⟩
    have hm : m = 0 := by
      unfold Ieee.signed at h
      simp only [Nat.shiftLeft_eq] at h
      have hp : 0 < 2 ^ (i - min i (-1074)).toNat := Nat.pow_pos (by omega)
      have : m * 2 ^ (i - min i (-1074)).toNat = 0 := by
        generalize m * 2 ^ (i - min i (-1074)).toNat = q at h ⊢
        cases s
        · simp only [Bool.false_eq_true, if_false, Nat.zero_mul] at h; omega
        · simp only [Bool.false_eq_true, if_false, if_true, Nat.zero_mul] at h; omega
      rcases Nat.mul_eq_zero.1 this with h | h
      · exact h
      · omega
    rw [hm]
  | infinity s => rw [hr] at h; cases s <;> simp [Ieee.Datum.order] at h
  | nan s f => rw [hr] at h; simp [Ieee.Datum.order] at h
theorem feq_of {r r' : Nat} (h : feq r 0 = true) (h' : feq r' 0 = true) : feq r r' = true := by
  obtain ⟨s, i, e⟩ := zero_of h
  obtain ⟨t, j, e'⟩ := zero_of h'
  unfold feq Ieee.Format.order
  rw [e, e']
  simp only [Ieee.Datum.order, beq_iff_eq, Option.some.injEq, cmp_eq]
  unfold Ieee.signed
  cases s <;> cases t <;> simp
/-- Neither a list nor a dictionary. -/
structure Basic (x : Value) : Prop where
  l : ∀ w, (Instr.typeAssert x 20 112 true).run Tryd.prog w = .ok (.tuple #[.slice none 0 0, .bool false]) w
  m : ∀ w, (Instr.typeAssert x 20 66 true).run Tryd.prog w = .ok (.tuple #[.map none, .bool false]) w
theorem basic_of {w : World} {P : Nat → Prop} {v : V} {x : Value} (h : GoV w P v x) (hk : v.k ≤ 5) : Basic x := by
  obtain ⟨k, n, r, t, ks, l⟩ := v
  simp only [V.k] at hk
  unfold GoV at h
  rcases h with ⟨rfl, rfl⟩ | ⟨rfl, rfl⟩ | ⟨rfl, rfl⟩ | ⟨rfl, rfl⟩ | ⟨rfl, rfl⟩ | ⟨rfl, rfl⟩ | ⟨rfl, _⟩ | ⟨rfl, _⟩
  · exact ⟨fun w => by kernel_rfl, fun w => by kernel_rfl⟩
  · obtain ⟨y, hy⟩ : ∃ y : Value, y = .bool (n == 1) := ⟨_, rfl⟩
    rw [← hy]
    exact ⟨fun w => by kernel_rfl, fun w => by kernel_rfl⟩
  · exact ⟨fun w => by kernel_rfl, fun w => by kernel_rfl⟩
  · exact ⟨fun w => by kernel_rfl, fun w => by kernel_rfl⟩
  · exact ⟨fun w => by kernel_rfl, fun w => by kernel_rfl⟩
  · exact ⟨fun w => by kernel_rfl, fun w => by kernel_rfl⟩
  · omega
  · omega
theorem same_basic {a b : V} {d d' : Int} (ha : Right a d) (hb : Right b d') (hk : a.k ≤ 5) (hk' : b.k ≤ 5) : SameP a b ↔ a.k = b.k ∧ a.n = b.n ∧ feq a.r b.r = true ∧ a.t = b.t := by
  obtain ⟨k, n, r, t, ks, l⟩ := a
  obtain ⟨k', n', r', t', ks', l'⟩ := b
  simp only [V.k, V.n, V.r, V.t] at *
  unfold Right at ha hb
  obtain ⟨_, hf, _, h4, _, _, h7, _, _, _⟩ := ha
  obtain ⟨_, hf', _, h4', _, _, h7', _, _, _⟩ := hb
  have hr := finB_refl hf
  obtain rfl := List.eq_nil_of_length_eq_zero (h4 (by omega) (by omega))
  obtain rfl := List.eq_nil_of_length_eq_zero (h4' (by omega) (by omega))
  obtain rfl := List.eq_nil_of_length_eq_zero (h7 (by omega))
  obtain rfl := List.eq_nil_of_length_eq_zero (h7' (by omega))
  unfold SameP
  unfold bareB
  simp only [V.k, V.n, V.r, V.t, V.ks, V.l, Bool.and_eq_true, Bool.or_eq_true, hr, Bool.not_true, Bool.false_and, Bool.false_eq_true, or_false, beq_iff_eq, true_and]
  constructor
  · rintro ⟨⟨h1, h2, h3, h4⟩, _⟩
    exact ⟨of_decide_eq_true h1, of_decide_eq_true h2, h3, ext_eq h4⟩
  · rintro ⟨h1, h2, h3, h4⟩
    exact ⟨⟨decide_eq_true h1, decide_eq_true h2, h3, by rw [h4]⟩, by unfold SamesP; rfl⟩
theorem same_kind {a b : V} (h : SameP a b) : a.k = b.k := by
  obtain ⟨k, n, r, t, ks, l⟩ := a
  unfold SameP at h
  have := h.1
  unfold bareB at this
  simp only [Bool.and_eq_true, decide_eq_true_eq] at this
  exact this.1
theorem sameB_kind {a b : V} (h : a.k ≠ b.k) : sameB a b = false := sameB_no fun e => h (same_kind e)
/-- == of two values that are neither lists nor dictionaries. -/
theorem eq_basic {w0 : World} {P Q : Nat → Prop} {a b : V} {x y : Value} {d d' : Int} (ha : Right a d) (hb : Right b d') (hk : a.k ≤ 5) (hk' : b.k ≤ 5) (hx : GoV w0 P a x) (hy : GoV w0 Q b y) :
    ∀ w, (binOp .eql 20 x y).run Tryd.prog w = .ok (.bool (sameB a b)) w := by
  have HS := same_basic ha hb hk hk'
  obtain ⟨k, n, r, t, ks, l⟩ := a
  obtain ⟨k', n', r', t', ks', l'⟩ := b
  obtain ⟨hn, hfr, ht⟩ := ha.bare
  obtain ⟨hn', hfr', ht'⟩ := hb.bare
  simp only [V.k, V.n, V.r, V.t] at hk hk' HS
  unfold GoV at hx hy
  rcases hx with ⟨rfl, rfl⟩ | ⟨rfl, rfl⟩ | ⟨rfl, rfl⟩ | ⟨rfl, rfl⟩ | ⟨rfl, rfl⟩ | ⟨rfl, rfl⟩ | ⟨rfl, _⟩ | ⟨rfl, _⟩
  · rcases hy with ⟨rfl, rfl⟩ | ⟨rfl, rfl⟩ | ⟨rfl, rfl⟩ | ⟨rfl, rfl⟩ | ⟨rfl, rfl⟩ | ⟨rfl, rfl⟩ | ⟨rfl, _⟩ | ⟨rfl, _⟩
    · have e : sameB (.mk 0 n r t ks l) (.mk 0 n' r' t' ks' l') = true := by
        rw [Bool.eq_iff_iff, sameB_iff, HS]
        simp at hn hn' ht ht' hfr hfr'
        simp only [true_and]
        rw [hn, hn', ht, ht']
        exact ⟨fun _ => trivial, fun _ => ⟨rfl, feq_of hfr hfr', rfl⟩⟩
      rw [e]
      exact fun w => by kernel_rfl
    · rw [sameB_kind (by simp [V.k])]
      generalize (n' == 1) = z'
      exact fun w => by kernel_rfl
    · rw [sameB_kind (by simp [V.k])]
      exact fun w => by kernel_rfl
    · rw [sameB_kind (by simp [V.k])]
      exact fun w => by kernel_rfl
    · rw [sameB_kind (by simp [V.k])]
      exact fun w => by kernel_rfl
    · rw [sameB_kind (by simp [V.k])]
      exact fun w => by kernel_rfl
    · omega
    · omega
  · rcases hy with ⟨rfl, rfl⟩ | ⟨rfl, rfl⟩ | ⟨rfl, rfl⟩ | ⟨rfl, rfl⟩ | ⟨rfl, rfl⟩ | ⟨rfl, rfl⟩ | ⟨rfl, _⟩ | ⟨rfl, _⟩
    · rw [sameB_kind (by simp [V.k])]
      generalize (n == 1) = z
      exact fun w => by kernel_rfl
    · have e : sameB (.mk 1 n r t ks l) (.mk 1 n' r' t' ks' l') = ((n == 1) == (n' == 1)) := by
        rw [Bool.eq_iff_iff, sameB_iff, HS]
        simp at hn hn' ht ht' hfr hfr'
        simp only [true_and]
        rw [ht, ht']
        constructor
        · rintro ⟨h, _⟩; rw [h]; simp
        · intro h
          refine ⟨?_, feq_of hfr hfr', rfl⟩
          split at hn <;> split at hn' <;> simp_all
      rw [e]
      generalize (n == 1) = z
      generalize (n' == 1) = z'
      exact fun w => by kernel_rfl
    · rw [sameB_kind (by simp [V.k])]
      generalize (n == 1) = z
      exact fun w => by kernel_rfl
    · rw [sameB_kind (by simp [V.k])]
      generalize (n == 1) = z
      exact fun w => by kernel_rfl
    · rw [sameB_kind (by simp [V.k])]
      generalize (n == 1) = z
      exact fun w => by kernel_rfl
    · rw [sameB_kind (by simp [V.k])]
      generalize (n == 1) = z
      exact fun w => by kernel_rfl
    · omega
    · omega
  · rcases hy with ⟨rfl, rfl⟩ | ⟨rfl, rfl⟩ | ⟨rfl, rfl⟩ | ⟨rfl, rfl⟩ | ⟨rfl, rfl⟩ | ⟨rfl, rfl⟩ | ⟨rfl, _⟩ | ⟨rfl, _⟩
    · rw [sameB_kind (by simp [V.k])]
      exact fun w => by kernel_rfl
    · rw [sameB_kind (by simp [V.k])]
      generalize (n' == 1) = z'
      exact fun w => by kernel_rfl
    · have e : sameB (.mk 2 n r t ks l) (.mk 2 n' r' t' ks' l') = (n == n') := by
        rw [Bool.eq_iff_iff, sameB_iff, HS]
        simp at hn hn' ht ht' hfr hfr'
        simp only [true_and]
        rw [ht, ht', beq_iff_eq]
        exact ⟨fun h => h.1, fun h => ⟨h, feq_of hfr hfr', rfl⟩⟩
      rw [e]
      exact fun w => by kernel_rfl
    · rw [sameB_kind (by simp [V.k])]
      exact fun w => by kernel_rfl
    · rw [sameB_kind (by simp [V.k])]
      exact fun w => by kernel_rfl
    · rw [sameB_kind (by simp [V.k])]
      exact fun w => by kernel_rfl
    · omega
    · omega
  · rcases hy with ⟨rfl, rfl⟩ | ⟨rfl, rfl⟩ | ⟨rfl, rfl⟩ | ⟨rfl, rfl⟩ | ⟨rfl, rfl⟩ | ⟨rfl, rfl⟩ | ⟨rfl, _⟩ | ⟨rfl, _⟩
    · rw [sameB_kind (by simp [V.k])]
      exact fun w => by kernel_rfl
    · rw [sameB_kind (by simp [V.k])]
      generalize (n' == 1) = z'
      exact fun w => by kernel_rfl
    · rw [sameB_kind (by simp [V.k])]
      exact fun w => by kernel_rfl
    · have e : sameB (.mk 3 n r t ks l) (.mk 3 n' r' t' ks' l') = (n == n') := by
        rw [Bool.eq_iff_iff, sameB_iff, HS]
        simp at hn hn' ht ht' hfr hfr'
        simp only [true_and]
        rw [ht, ht', beq_iff_eq]
        exact ⟨fun h => h.1, fun h => ⟨h, feq_of hfr hfr', rfl⟩⟩
      rw [e]
      exact fun w => by kernel_rfl
    · rw [sameB_kind (by simp [V.k])]
      exact fun w => by kernel_rfl
    · rw [sameB_kind (by simp [V.k])]
      exact fun w => by kernel_rfl
    · omega
    · omega
  · rcases hy with ⟨rfl, rfl⟩ | ⟨rfl, rfl⟩ | ⟨rfl, rfl⟩ | ⟨rfl, rfl⟩ | ⟨rfl, rfl⟩ | ⟨rfl, rfl⟩ | ⟨rfl, _⟩ | ⟨rfl, _⟩
    · rw [sameB_kind (by simp [V.k])]
      exact fun w => by kernel_rfl
    · rw [sameB_kind (by simp [V.k])]
      generalize (n' == 1) = z'
      exact fun w => by kernel_rfl
    · rw [sameB_kind (by simp [V.k])]
      exact fun w => by kernel_rfl
    · rw [sameB_kind (by simp [V.k])]
      exact fun w => by kernel_rfl
    · have e : sameB (.mk 4 n r t ks l) (.mk 4 n' r' t' ks' l') = feq r r' := by
        rw [Bool.eq_iff_iff, sameB_iff, HS]
        simp at hn hn' ht ht' hfr hfr'
        simp only [true_and]
        rw [hn, hn', ht, ht']
        exact ⟨fun h => h.2.1, fun h => ⟨rfl, h, rfl⟩⟩
      rw [e]
      exact fun w => by kernel_rfl
    · rw [sameB_kind (by simp [V.k])]
      exact fun w => by kernel_rfl
    · omega
    · omega
  · rcases hy with ⟨rfl, rfl⟩ | ⟨rfl, rfl⟩ | ⟨rfl, rfl⟩ | ⟨rfl, rfl⟩ | ⟨rfl, rfl⟩ | ⟨rfl, rfl⟩ | ⟨rfl, _⟩ | ⟨rfl, _⟩
    · rw [sameB_kind (by simp [V.k])]
      exact fun w => by kernel_rfl
    · rw [sameB_kind (by simp [V.k])]
      generalize (n' == 1) = z'
      exact fun w => by kernel_rfl
    · rw [sameB_kind (by simp [V.k])]
      exact fun w => by kernel_rfl
    · rw [sameB_kind (by simp [V.k])]
      exact fun w => by kernel_rfl
    · rw [sameB_kind (by simp [V.k])]
      exact fun w => by kernel_rfl
    · have e : sameB (.mk 5 n r t ks l) (.mk 5 n' r' t' ks' l') = (t == t') := by
        rw [Bool.eq_iff_iff, sameB_iff, HS]
        simp at hn hn' ht ht' hfr hfr'
        simp only [true_and]
        rw [hn, hn', beq_bytes, decide_eq_true_eq]
        exact ⟨fun h => h.2.2, fun h => ⟨rfl, feq_of hfr hfr', h⟩⟩
      rw [e]
      exact fun w => by kernel_rfl
    · omega
    · omega
  · omega
  · omega

theorem face_of {w : World} {P : Nat → Prop} {v : V} {x : Value} (h : GoV w P v x) : Face x := by
  obtain ⟨k, n, r, t, ks, l⟩ := v
  unfold GoV at h
  rcases h with ⟨rfl, rfl⟩ | ⟨rfl, rfl⟩ | ⟨rfl, rfl⟩ | ⟨rfl, rfl⟩ | ⟨rfl, rfl⟩ | ⟨rfl, rfl⟩ | ⟨rfl, a, c, xs, rfl, _⟩ | ⟨rfl, b, es, clk, xs, rfl, _⟩
  · exact .inl rfl
  all_goals exact .inr ⟨_, _, rfl⟩
/-- Two dictionaries whose keys are the same, each with the same value. -/
def DictSame (ks ks' : List ByteArray) (l l' : List V) : Prop := ks = ks' ∧ SamesP l l'
noncomputable def dictB (ks ks' : List ByteArray) (l l' : List V) : Bool := @decide (DictSame ks ks' l l') (Classical.propDecidable _)
theorem dictB_no {ks ks' : List ByteArray} {l l' : List V} (h : ¬ DictSame ks ks' l l') : dictB ks ks' l l' = false := @decide_eq_false _ (Classical.propDecidable _) h
theorem dictB_yes {ks ks' : List ByteArray} {l l' : List V} (h : DictSame ks ks' l l') : dictB ks ks' l l' = true := @decide_eq_true _ (Classical.propDecidable _) h
theorem asc_inj {ks : List ByteArray} (h : Asc ks) {i j : Nat} (hi : i < ks.length) (hj : j < ks.length) (e : ks[i] = ks[j]) : i = j := by
  have hp := List.pairwise_iff_getElem.1 h.nodup
  rcases Nat.lt_trichotomy i j with h | h | h
  · exact absurd e (hp i j hi hj h)
  · exact h
  · exact absurd e.symm (hp j i hj hi h)
/-- What one dictionary's keys and values have to do with the other one's: every one is there with the same value. -/
def Met (ks ks' : List ByteArray) (l l' : List V) (i : Nat) : Prop := ∃ j, ∃ (h : i < ks.length) (h' : j < ks'.length) (q : i < l.length) (q' : j < l'.length), ks'[j] = ks[i] ∧ SameP l[i] l'[j]
theorem dict_same {ks ks' : List ByteArray} {l l' : List V} (hl : ks.length = l.length) (hl' : ks'.length = l'.length) (ha : Asc ks) (ha' : Asc ks') (hk : ks.length = ks'.length) (h : ∀ i, i < ks.length → Met ks ks' l l' i) : DictSame ks ks' l l' := by
  have hsub : ∀ x ∈ ks, x ∈ ks' := fun x hx => by
    obtain ⟨i, hi, rfl⟩ := List.mem_iff_getElem.1 hx
    obtain ⟨j, _, hj, _, _, e, _⟩ := h i hi
    rw [← e]; exact List.getElem_mem hj
  have hsup : ∀ x ∈ ks', x ∈ ks := fun x hx => by
    by_cases hx' : x ∈ ks
    · exact hx'
    · have := len_le (l := x :: ks) (List.nodup_cons.2 ⟨hx', ha.nodup⟩) ks' (fun y hy => by
        rcases List.mem_cons.1 hy with rfl | hy
        · exact hx
        · exact hsub y hy)
      rw [List.length_cons] at this; omega
  have hperm : ks.Perm ks' := (List.perm_ext_iff_of_nodup ha.nodup ha'.nodup).2 fun x => ⟨hsub x, hsup x⟩
  have he : ks = ks' := by
    refine List.Perm.eq_of_pairwise (le := fun (a b : ByteArray) => Op.bytesLess a.toList b.toList = true) (fun a b _ _ h1 h2 => ?_) ha ha' hperm
    have := less_trans _ _ _ h1 h2
    rw [less_irrefl] at this; cases this
  subst he
  refine ⟨rfl, SamesP.mk (by omega) fun i hi hi' => ?_⟩
  obtain ⟨j, h1, h2, h3, h4, e, hs⟩ := h i (by omega)
  obtain rfl := asc_inj ha h2 h1 e
  exact hs
theorem entry_of {es : List MapEntry} {ks : List ByteArray} {xs : List Value} (hp : (es.map fun e => (e.key, e.val)).Perm ((ks.map Value.string).zip xs)) {e : MapEntry} (he : e ∈ es) : ∃ (i : Nat) (hi : i < ks.length) (hx : i < xs.length), e.key = .string ks[i] ∧ e.val = xs[i] := by
  have hm : (e.key, e.val) ∈ (ks.map Value.string).zip xs := hp.mem_iff.1 (List.mem_map.2 ⟨e, he, rfl⟩)
  obtain ⟨i, hi, h⟩ := List.mem_iff_getElem.1 hm
  rw [List.length_zip, List.length_map] at hi
  refine ⟨i, by omega, by omega, ?_⟩
  rw [List.getElem_zip] at h
  injection h with h1 h2
  exact ⟨by rw [← h1]; simp, h2.symm⟩
theorem mapLen {w : World} {b : Nat} {es : Array MapEntry} {clk : Nat} (hb : w.heap[b]? = some (.map es clk)) : (Builtin.len_ #[66] 3 #[.map (some b)]).run Tryd.prog w = .ok (.int .i64 (es.size : Int)) w := by
  simp [Builtin.len_, run_underlying Tryd.underlying66, MapKept.run_getObj_map hb, goInt, Result.andThen]
/-- What is asked of a dictionary, beside its entries in memory. -/
structure DictOk (ks : List ByteArray) (l : List V) (d : Int) : Prop where
  asc : Asc ks
  r : Rights l d

theorem bare_same {k n n' : Int} {r r' : Nat} {t t' : ByteArray} {ks ks' : List ByteArray} {l l' : List V} {d d' : Int} (ha : Right (.mk k n r t ks l) d) (hb : Right (.mk k n' r' t' ks' l') d') (hk : k = 6 ∨ k = 7) : bareB k n r t k n' r' t' = true := by
  obtain ⟨hn, hf, ht⟩ := ha.bare
  obtain ⟨hn', hf', ht'⟩ := hb.bare
  rw [if_neg (by omega), if_neg (by omega)] at hn hn'
  rw [if_neg (by omega)] at hf hf' ht ht'
  unfold bareB
  rw [hn, hn', ht, ht', feq_of hf hf']
  simp
theorem same_list {n n' : Int} {r r' : Nat} {t t' : ByteArray} {ks ks' : List ByteArray} {l l' : List V} {d d' : Int} (ha : Right (.mk 6 n r t ks l) d) (hb : Right (.mk 6 n' r' t' ks' l') d') : sameB (.mk 6 n r t ks l) (.mk 6 n' r' t' ks' l') = samesB l l' := by
  rw [Bool.eq_iff_iff, sameB_iff, samesB_iff]
  have hbs := bare_same ha hb (.inl rfl)
  unfold Right at ha hb
  obtain ⟨_, _, _, _, _, _, h7, _, _, _⟩ := ha
  obtain ⟨_, _, _, _, _, _, h7', _, _, _⟩ := hb
  obtain rfl := List.eq_nil_of_length_eq_zero (h7 (by omega))
  obtain rfl := List.eq_nil_of_length_eq_zero (h7' (by omega))
  unfold SameP
  exact ⟨fun h => h.2.2.2, fun h => ⟨hbs, rfl, h.len, h⟩⟩
theorem same_dict {n n' : Int} {r r' : Nat} {t t' : ByteArray} {ks ks' : List ByteArray} {l l' : List V} {d d' : Int} (ha : Right (.mk 7 n r t ks l) d) (hb : Right (.mk 7 n' r' t' ks' l') d') : sameB (.mk 7 n r t ks l) (.mk 7 n' r' t' ks' l') = dictB ks ks' l l' := by
  rw [Bool.eq_iff_iff, sameB_iff]
  have hbs := bare_same ha hb (.inr rfl)
  have e : dictB ks ks' l l' = true ↔ DictSame ks ks' l l' := @decide_eq_true_iff _ (Classical.propDecidable _)
  rw [e]
  unfold SameP
  exact ⟨fun h => ⟨h.2.1, h.2.2.2⟩, fun h => ⟨hbs, h.1, h.2.len, h.2⟩⟩
theorem dictOk_of {n : Int} {r : Nat} {t : ByteArray} {ks : List ByteArray} {l : List V} {d : Int} (h : Right (.mk 7 n r t ks l) d) : DictOk ks l (d - 1) := by
  unfold Right at h
  obtain ⟨_, _, _, _, _, _, _, h8, h9, h10⟩ := h
  refine ⟨asc_of_steps fun i h0 hi => (h9 rfl i (by have := h8 rfl; omega)).2 h0, h10⟩
end Go.Proofs.YtjaeihbfkmflkaaDoor.Vals
namespace Go.Proofs.YtjaeihbfkmflkaaDoor.Vals
open Go.RowKit Go.Proofs.YtjaeihbfkmflkaaDoorW.PrintWords Go.Proofs.YtjaeihbfkmflkaaDoor.Txt
set_option linter.unusedVariables false
set_option maxRecDepth 20000

theorem bareB_symm (k n : Int) (r : Nat) (t : ByteArray) (k' n' : Int) (r' : Nat) (t' : ByteArray) : bareB k n r t k' n' r' t' = bareB k' n' r' t' k n r t := by
  unfold bareB
  rw [feq_symm r r', Bool.and_comm (!feq r r)]
  have e1 : (t.toList == t'.toList) = (t'.toList == t.toList) := by rw [Bool.eq_iff_iff]; simp only [beq_iff_eq]; exact eq_comm
  have e2 : decide (k = k') = decide (k' = k) := by rw [Bool.eq_iff_iff]; simp only [decide_eq_true_eq]; exact eq_comm
  have e3 : decide (n = n') = decide (n' = n) := by rw [Bool.eq_iff_iff]; simp only [decide_eq_true_eq]; exact eq_comm
  rw [e1, e2, e3]
theorem same_symm_any : ∀ (N : Nat) (a : V), SizeOf.sizeOf a < N → ∀ b, SameP a b → SameP b a := by
  intro N
  induction N with
  | zero => intro a h; omega
  | succ N ih =>
    intro a hN b h
    have hch : ∀ i (h : i < a.l.length) (c : V), SameP a.l[i] c → SameP c a.l[i] := fun i h c => ih _ (by have := a.lt_of_get i h; omega) c
    obtain ⟨k, n, r, t, ks, l⟩ := a
    obtain ⟨k', n', r', t', ks', l'⟩ := b
    unfold SameP at h ⊢
    simp only [V.k, V.n, V.r, V.t, V.ks, V.l] at h hch ⊢
    obtain ⟨h1, h2, h3, h4⟩ := h
    exact ⟨by rw [bareB_symm]; exact h1, h2.symm, h3.symm, SamesP.mk h3.symm fun i hi hi' => hch i hi' _ (h4.at_ i hi' hi)⟩
theorem SameP.symm {a b : V} (h : SameP a b) : SameP b a := same_symm_any _ a (Nat.lt_succ_self _) b h
/-- A value is in a list. -/
def HasP (v : V) (l : List V) : Prop := ∃ i, ∃ h : i < l.length, SameP v l[i]
noncomputable def hasB (v : V) (l : List V) : Bool := @decide (HasP v l) (Classical.propDecidable _)
theorem hasB_no {v : V} {l : List V} (h : ¬ HasP v l) : hasB v l = false := @decide_eq_false _ (Classical.propDecidable _) h
theorem hasB_yes {v : V} {l : List V} (h : HasP v l) : hasB v l = true := @decide_eq_true _ (Classical.propDecidable _) h
theorem sameB_false {a b : V} (h : sameB a b = false) : ¬ SameP a b := fun e => by have := sameB_yes e; rw [h] at this; cases this
/-- A bool, this one, and no error. -/
def TheBoolOk (r : Bool) (Q : World → Prop) (e : Ending) (w' : World) : Prop := ∃ b, e = .returned (.tuple #[.bool b, .nilIface]) ∧ Hid (r = b) ∧ Q w'
def TheBool2 (r : Bool) (Q : World → Prop) (e : Ending) (w' : World) : Prop := ∃ b, e = .returned (.tuple #[.bool b, .bool true]) ∧ Hid (r = b) ∧ Q w'

end Go.Proofs.YtjaeihbfkmflkaaDoor.Vals
namespace Go.Proofs.YtjaeihbfkmflkaaDoor.Vals
open Go.RowKit Go.ChangeMaps Go.Proofs.YtjaeihbfkmflkaaDoorW.PrintWords Go.Proofs.YtjaeihbfkmflkaaDoor.Txt
set_option linter.unusedVariables false
set_option maxRecDepth 20000

/-- A map's block that stands for a dictionary; what its values reach lies elsewhere. -/
def MapX (w : World) (P : Nat → Prop) (ks : List ByteArray) (l : List V) (b : Nat) : Prop :=
  ∃ es clk xs, P b ∧ w.heap[b]? = some (.map es clk) ∧ (∀ e ∈ es, e.born < clk) ∧ (es.toList.map (·.born)).Nodup ∧ es.size ≤ maxLen ∧
    ks.length = l.length ∧ (es.toList.map fun e => (e.key, e.val)).Perm ((ks.map Value.string).zip xs) ∧ GoVs w (fun x => P x ∧ x ≠ b) l xs
theorem MapX.is {w : World} {P : Nat → Prop} {ks : List ByteArray} {l : List V} {b : Nat} (h : MapX w P ks l b) : MapIs w P ks l b := by
  obtain ⟨es, clk, xs, h1, h2, h3, h4, h5, h6, h7, h8⟩ := h
  exact ⟨es, clk, xs, h1, h2, h3, h4, h5, h6, h7, GoVs.keep (Kept.mono fun _ hb _ => hb.1) _ h8⟩
theorem MapX.keep {w w' : World} {P Q : Nat → Prop} {ks : List ByteArray} {l : List V} {b : Nat} (k : Kept w w' P Q) (h : MapX w P ks l b) : MapX w' Q ks l b := by
  obtain ⟨es, clk, xs, h1, h2, h3, h4, h5, h6, h7, h8⟩ := h
  obtain ⟨hq, e⟩ := k b h1 (blk_lt h2)
  exact ⟨es, clk, xs, hq, e.trans h2, h3, h4, h5, h6, h7, GoVs.keep (fun x ⟨hx, hne⟩ hs => ⟨⟨(k x hx hs).1, hne⟩, (k x hx hs).2⟩) _ h8⟩
def GoDictX (ks : List ByteArray) (l : List V) (w : World) (e : Ending) (w' : World) : Prop := ∃ b, e = .returned (.tuple #[.map (some b), .bool true]) ∧
  Hid (MapX w' (fun b => w.heap.size ≤ b) ks l b) ∧ Hid (Below w.heap.size w w')

/-! ### delete -/
section
variable {P : Program} {w : World} {mt kt et : TypeId} {b : Nat} {es : Array MapEntry} {clk : Nat}
theorem run_delete_no (hm : P.underlying mt = some (.map kt et)) (hk : P.underlying kt = some .string) (hb : w.heap[b]? = some (.map es clk)) (ht : TextKeys es) (s : ByteArray) (hn : ∀ e ∈ es.toList, e.key ≠ .string s) (ty : TypeId) :
    (Builtin.delete_ #[mt, kt] ty #[.map (some b), .string s]).run P w = .ok (.tuple #[]) (setBlock w b (.map es clk)) := by
  have hf : Instr.findNow .string (.string s) es.toList 0 = some none := by
    rcases Go.MapKept.findNow_spec (d := .string) (k := .string s) trivial es.toList 0 ht.isKey with ⟨h, _⟩ | ⟨j, e, _, hj, he⟩
    · exact h
    · exact absurd he (hn e (List.mem_of_getElem? hj))
  unfold Builtin.delete_
  simp only [List.getElem?_toArray, List.getElem?_cons_zero, List.getElem?_cons_succ, Sem.run_bind, run_underlying hm, Result.andThen, Go.MapKept.run_getObj_map hb, Go.MapKept.run_checkKey hk (show Go.MapKept.IsKey .string (.string s) from trivial), Go.MapKept.run_findKey hk hf, Go.MapKept.run_setObj_map _ hb, Sem.run_pure]
  rfl
theorem run_delete_yes (hm : P.underlying mt = some (.map kt et)) (hk : P.underlying kt = some .string) (hb : w.heap[b]? = some (.map es clk)) (ht : TextKeys es) (s : ByteArray) {e : MapEntry} (he : e ∈ es.toList) (hs : e.key = .string s) (ty : TypeId) :
    ∃ (j : Nat) (e0 : MapEntry), es.toList[j]? = some e0 ∧ e0.key = .string s ∧ (Builtin.delete_ #[mt, kt] ty #[.map (some b), .string s]).run P w = .ok (.tuple #[]) (setBlock w b (.map (es.eraseIdxIfInBounds j) clk)) := by
  rcases Go.MapKept.findNow_spec (d := .string) (k := .string s) trivial es.toList 0 ht.isKey with ⟨_, h⟩ | ⟨j, e0, hf, hj, he0⟩
  · exact absurd hs (h e he)
  · refine ⟨j, e0, hj, he0, ?_⟩
    rw [Nat.zero_add] at hf
    unfold Builtin.delete_
    simp only [List.getElem?_toArray, List.getElem?_cons_zero, List.getElem?_cons_succ, Sem.run_bind, run_underlying hm, Result.andThen, Go.MapKept.run_getObj_map hb, Go.MapKept.run_checkKey hk (show Go.MapKept.IsKey .string (.string s) from trivial), Go.MapKept.run_findKey hk hf, Go.MapKept.run_setObj_map _ hb, Sem.run_pure]
    rfl
end

/-! ### in place -/
theorem GoVs.set {w : World} {P : Nat → Prop} : ∀ {l : List V} {xs : List Value}, GoVs w P l xs → ∀ (i : Nat) {v : V} {x : Value}, GoV w P v x → GoVs w P (l.set i v) (xs.set i x)
  | [], xs, h, i, v, x, hx => by unfold GoVs at h; subst h; simp; unfold GoVs; rfl
  | u :: r, xs, h, i, v, x, hx => by
    unfold GoVs at h; obtain ⟨y, yr, rfl, h1, h2⟩ := h
    cases i with
    | zero => simp only [List.set_cons_zero]; unfold GoVs; exact ⟨x, yr, rfl, hx, h2⟩
    | succ i => simp only [List.set_cons_succ]; unfold GoVs; exact ⟨y, _, rfl, h1, GoVs.set h2 i hx⟩
theorem GoVs.erase {w : World} {P : Nat → Prop} : ∀ {l : List V} {xs : List Value}, GoVs w P l xs → ∀ (i : Nat), GoVs w P (l.eraseIdx i) (xs.eraseIdx i)
  | [], xs, h, i => by unfold GoVs at h; subst h; simp; unfold GoVs; rfl
  | u :: r, xs, h, i => by
    unfold GoVs at h; obtain ⟨y, yr, rfl, h1, h2⟩ := h
    cases i with
    | zero => simpa using h2
    | succ i => simp only [List.eraseIdx_cons_succ]; unfold GoVs; exact ⟨y, _, rfl, h1, GoVs.erase h2 i⟩
theorem GoVs.put {w : World} {P : Nat → Prop} {l : List V} {xs : List Value} (h : GoVs w P l xs) (a : Nat) {v : V} {x : Value} (hx : GoV w P v x) : GoVs w P (l.take a ++ v :: l.drop a) (xs.take a ++ x :: xs.drop a) :=
  GoVs.append (GoVs.take a h) (by unfold GoVs; exact ⟨x, _, rfl, hx, GoVs.drop a h⟩)
theorem kept_block {w : World} {P : Nat → Prop} {b : Nat} (o : Obj) : Kept w (setBlock w b o) (fun x => P x ∧ x ≠ b) (fun x => P x ∧ x ≠ b) := fun x hx _ => ⟨hx, setBlock_other o hx.2⟩
/-- A map after m[s] = x. -/
theorem MapX.update {w : World} {P : Nat → Prop} {ks : List ByteArray} {l : List V} {b : Nat} (h : MapX w P ks l b) (ha : Asc ks) (h300 : ks.length ≤ 100000) (s : ByteArray) {u : V} {x : Value} (hx : GoV w (fun y => P y ∧ y ≠ b) u x) :
    ∃ o, (Instr.mapUpdate 66 (.map (some b)) (.string s) x).run Tryd.prog w = .ok () (setBlock w b o) ∧ MapX (setBlock w b o) P (putK ks s) (putL ks l s u) b := by
  obtain ⟨es, clk, xs, h1, h2, h3, h4, h5, h6, h7, h8⟩ := h
  have hxl : xs.length = ks.length := by rw [h8.len]; omega
  have hkp := keys_perm h7 (by omega)
  have htk := keys_text hkp
  have hnd := keys_nodup hkp ha
  by_cases hd : isD ks s = true
  · obtain ⟨hi, hs⟩ := isD_mem hd
    obtain ⟨e, he, hek, _⟩ := entry_at h7 (atD ks s) hi (by omega)
    obtain ⟨j, e0, hj, he0, hrun⟩ := run_update_old (P := Tryd.prog) Tryd.underlying66 Tryd.underlying9 h2 htk s x he (by rw [hek, hs])
    refine ⟨_, hrun, _, clk, xs.set (atD ks s) x, h1, setBlock_at h2, ?_, ?_, by simpa using h5, put_len h6, ?_, ?_⟩
    · intro e he
      obtain ⟨i, hi', rfl⟩ := Array.mem_iff_getElem.1 he
      rw [Array.getElem_modify]
      have hi2 : i < es.size := by simpa using hi'
      split
      · exact h3 es[i] (Array.getElem_mem hi2)
      · exact h3 es[i] (Array.getElem_mem hi2)
    · have : ((es.modify j fun e => { e with key := .string s, val := x }).toList.map (·.born)) = es.toList.map (·.born) := by
        apply List.ext_getElem
        · simp
        · intro i h1 h2
          simp only [List.getElem_map, Array.getElem_toList, Array.getElem_modify]
          split <;> rfl
      rw [this]; exact h4
    · rw [modify_pairs hnd hj he0]
      unfold putK
      rw [if_pos hd, ← zip_set ha hxl.symm hi x, hs]
      exact h7.map _
    · unfold putL
      rw [if_pos hd]
      exact GoVs.keep (kept_block _) _ (GoVs.set h8 _ hx)
  · have hd' : isD ks s = false := by simpa using hd
    have hns := isD_no ha hd'
    have hn : ∀ e ∈ es.toList, e.key ≠ .string s := fun e he hek => by
      have : e.key ∈ ks.map Value.string := hkp.mem_iff.1 (List.mem_map.2 ⟨e, he, rfl⟩)
      rw [hek] at this
      obtain ⟨k, hk, hkk⟩ := List.mem_map.1 this
      injection hkk with hkk
      exact hns (by rw [← hkk]; exact hk)
    have hrun := run_update_new (P := Tryd.prog) Tryd.underlying66 Tryd.underlying9 h2 htk s x hn
    have hsz : es.size = ks.length := by have := hkp.length_eq; simpa using this
    refine ⟨_, hrun, _, clk + 1, xs.take (atD ks s) ++ x :: xs.drop (atD ks s), h1, setBlock_at h2, ?_, ?_, ?_, put_len h6, ?_, ?_⟩
    · intro e he
      rcases Array.mem_push.1 he with he | rfl
      · have := h3 e he; omega
      · simp
    · rw [Array.toList_push, List.map_append]
      refine List.nodup_append.2 ⟨h4, by simp, fun a ha b hb => ?_⟩
      have hb' : b = clk := by simpa using hb
      obtain ⟨e, he, rfl⟩ := List.mem_map.1 ha
      have := h3 e (by simpa using he)
      omega
    · rw [Array.size_push]; unfold maxLen; omega
    · rw [Array.toList_push, List.map_append]
      unfold putK
      rw [if_neg hd]
      exact (h7.append_right _).trans (zip_put hxl.symm (atD ks s) s x)
    · unfold putL
      rw [if_neg hd]
      exact GoVs.keep (kept_block _) _ (GoVs.put h8 _ hx)
/-- A map after delete(m, s). -/
theorem MapX.delete {w : World} {P : Nat → Prop} {ks : List ByteArray} {l : List V} {b : Nat} (h : MapX w P ks l b) (ha : Asc ks) (s : ByteArray) (ty : TypeId) :
    ∃ o, (Builtin.delete_ #[66, 9] ty #[.map (some b), .string s]).run Tryd.prog w = .ok (.tuple #[]) (setBlock w b o) ∧ MapX (setBlock w b o) P (takeK ks s) (takeL ks l s) b := by
  obtain ⟨es, clk, xs, h1, h2, h3, h4, h5, h6, h7, h8⟩ := h
  have hxl : xs.length = ks.length := by rw [h8.len]; omega
  have hkp := keys_perm h7 (by omega)
  have htk := keys_text hkp
  have hnd := keys_nodup hkp ha
  by_cases hd : isD ks s = true
  · obtain ⟨hi, hs⟩ := isD_mem hd
    obtain ⟨e, he, hek, _⟩ := entry_at h7 (atD ks s) hi (by omega)
    obtain ⟨j, e0, hj, he0, hrun⟩ := run_delete_yes (P := Tryd.prog) Tryd.underlying66 Tryd.underlying9 h2 htk s he (by rw [hek, hs]) ty
    have hsub : (es.eraseIdxIfInBounds j).toList.Sublist es.toList := by rw [Array.toList_eraseIdxIfInBounds]; exact List.eraseIdx_sublist _ _
    refine ⟨_, hrun, _, clk, xs.eraseIdx (atD ks s), h1, setBlock_at h2, ?_, ?_, ?_, take_len h6, ?_, ?_⟩
    · intro e he
      exact h3 e (by rw [← Array.mem_toList_iff] at he ⊢; exact hsub.subset he)
    · exact h4.sublist (hsub.map _)
    · have := hsub.length_le; rw [Array.length_toList, Array.length_toList] at this; omega
    · rw [erase_pairs hnd hj he0]
      unfold takeK
      rw [if_pos hd, ← zip_erase ha hxl.symm hi, hs]
      exact h7.filter _
    · unfold takeL
      rw [if_pos hd]
      exact GoVs.keep (kept_block _) _ (GoVs.erase h8 _)
  · have hd' : isD ks s = false := by simpa using hd
    have hns := isD_no ha hd'
    have hn : ∀ e ∈ es.toList, e.key ≠ .string s := fun e he hek => by
      have : e.key ∈ ks.map Value.string := hkp.mem_iff.1 (List.mem_map.2 ⟨e, he, rfl⟩)
      rw [hek] at this
      obtain ⟨k, hk, hkk⟩ := List.mem_map.1 this
      injection hkk with hkk
      exact hns (by rw [← hkk]; exact hk)
    have hrun := run_delete_no (P := Tryd.prog) Tryd.underlying66 Tryd.underlying9 h2 htk s hn ty
    refine ⟨_, hrun, es, clk, xs, h1, setBlock_at h2, h3, h4, h5, take_len h6, ?_, ?_⟩
    · unfold takeK
      rw [if_neg hd]; exact h7
    · unfold takeL
      rw [if_neg hd]
      exact GoVs.keep (kept_block _) _ h8
/-- A map that was changed in place. -/
def MapRes (P : Nat → Prop) (ks : List ByteArray) (l : List V) (b : Nat) (w : World) (e : Ending) (w' : World) : Prop := e = .returned (.map (some b)) ∧ ∃ o, w' = setBlock w b o ∧ Hid (MapX w' P ks l b)
end Go.Proofs.YtjaeihbfkmflkaaDoor.Vals
namespace Go.Proofs.YtjaeihbfkmflkaaDoor.Vals
open Go.RowKit Go.ChangeMaps Go.Proofs.YtjaeihbfkmflkaaDoorW.PrintWords Go.Proofs.YtjaeihbfkmflkaaDoor.Txt
set_option linter.unusedVariables false
set_option maxRecDepth 20000

theorem dictOf_of {ks : List ByteArray} {l : List V} (ha : Asc ks) (hs : ∀ x ∈ ks, x.size ≤ maxLen) (hf : Fines l) (h300 : l.length ≤ 100000) : DictOfOk ks l := dictOf_step ks l ha hs (fun i h => valueOf_of (hf.at_ i h)) h300
def DictTwo (ks : List ByteArray) (l : List V) (w : World) (e : Ending) (w' : World) : Prop := ∃ kv lv, e = .returned (.tuple #[.agg #[.int .i64 7, .int .i64 0, .float .f64 0, .string ⟨#[]⟩, kv, lv], .bool true]) ∧
  Hid (IsV w' (fun b => w.heap.size ≤ b) (.mk 7 0 0 ⟨#[]⟩ ks (norms l)) [.int .i64 7, .int .i64 0, .float .f64 0, .string ⟨#[]⟩, kv, lv]) ∧ Hid (Below w.heap.size w w')
abbrev box6 (c0 c1 c2 c3 c4 c5 : Value) : Obj := .cells #[c0, c1, c2, c3, c4, c5] 41
theorem box2 (w : World) (a0 a1 a2 a3 a4 a5 b0 b1 b2 b3 b4 b5 : Value) :
    Box6 ((w.alloc (box6 a0 a1 a2 a3 a4 a5)).alloc (box6 b0 b1 b2 b3 b4 b5)) w.heap.size a0 a1 a2 a3 a4 a5 ∧ Box6 ((w.alloc (box6 a0 a1 a2 a3 a4 a5)).alloc (box6 b0 b1 b2 b3 b4 b5)) (w.heap.size + 1) b0 b1 b2 b3 b4 b5 ∧
      Below w.heap.size w ((w.alloc (box6 a0 a1 a2 a3 a4 a5)).alloc (box6 b0 b1 b2 b3 b4 b5)) := by
  refine ⟨(Box6.new w _ _ _ _ _ _).below ((Below.refl _ _).alloc (Nat.le_refl _) _), ?_, ((Below.refl _ _).alloc (Nat.le_refl _) _).alloc (by simp) _⟩
  have h := Box6.new (w.alloc (box6 a0 a1 a2 a3 a4 a5)) b0 b1 b2 b3 b4 b5
  rw [World.size_alloc] at h
  exact h
theorem box3 (w : World) (a0 a1 a2 a3 a4 a5 b0 b1 b2 b3 b4 b5 c0 c1 c2 c3 c4 c5 : Value) :
    Box6 (((w.alloc (box6 a0 a1 a2 a3 a4 a5)).alloc (box6 b0 b1 b2 b3 b4 b5)).alloc (box6 c0 c1 c2 c3 c4 c5)) w.heap.size a0 a1 a2 a3 a4 a5 ∧
    Box6 (((w.alloc (box6 a0 a1 a2 a3 a4 a5)).alloc (box6 b0 b1 b2 b3 b4 b5)).alloc (box6 c0 c1 c2 c3 c4 c5)) (w.heap.size + 1) b0 b1 b2 b3 b4 b5 ∧
    Box6 (((w.alloc (box6 a0 a1 a2 a3 a4 a5)).alloc (box6 b0 b1 b2 b3 b4 b5)).alloc (box6 c0 c1 c2 c3 c4 c5)) (w.heap.size + 2) c0 c1 c2 c3 c4 c5 ∧
      Below w.heap.size w (((w.alloc (box6 a0 a1 a2 a3 a4 a5)).alloc (box6 b0 b1 b2 b3 b4 b5)).alloc (box6 c0 c1 c2 c3 c4 c5)) := by
  obtain ⟨h1, h2, h3⟩ := box2 w a0 a1 a2 a3 a4 a5 b0 b1 b2 b3 b4 b5
  refine ⟨h1.below ((Below.refl _ _).alloc (Nat.le_refl _) _), h2.below ((Below.refl _ _).alloc (Nat.le_refl _) _), ?_, h3.alloc (by simp; omega) _⟩
  have h := Box6.new ((w.alloc (box6 a0 a1 a2 a3 a4 a5)).alloc (box6 b0 b1 b2 b3 b4 b5)) c0 c1 c2 c3 c4 c5
  rw [World.size_alloc, World.size_alloc] at h
  exact h
theorem keys_size {n : Int} {r : Nat} {t : ByteArray} {ks : List ByteArray} {l : List V} {d : Int} (hR : Right (.mk 7 n r t ks l) d) : ∀ x ∈ ks, x.size ≤ maxLen := by
  unfold Right at hR
  obtain ⟨_, _, _, _, _, _, _, h8, h9, _⟩ := hR
  intro x hx
  obtain ⟨i, hi, rfl⟩ := List.mem_iff_getElem.1 hx
  have := (h9 rfl i (by have := h8 rfl; omega)).1
  simp only [List.getD_eq_getElem?_getD, List.getElem?_eq_getElem hi, Option.getD_some] at this
  unfold maxLen; omega
theorem dict_parts {n : Int} {r : Nat} {t : ByteArray} {ks : List ByteArray} {l : List V} {d : Int} (hR : Right (.mk 7 n r t ks l) d) : Asc ks ∧ Rights l (d - 1) ∧ ks.length = l.length ∧ l.length ≤ 300 := by
  have h := dictOk_of hR
  unfold Right at hR
  exact ⟨h.asc, h.r, hR.2.2.2.2.2.2.2.1 rfl, hR.2.2.2.2.1⟩
theorem put_le {α : Type} {ks : List ByteArray} {l : List α} {s : ByteArray} {u : α} : (putL ks l s u).length ≤ l.length + 1 := by
  unfold putL
  split
  · rw [List.length_set]; omega
  · simp only [List.length_append, List.length_cons, List.length_take, List.length_drop]; omega
theorem take_le {α : Type} {ks : List ByteArray} {l : List α} {s : ByteArray} : (takeL ks l s).length ≤ l.length := by
  unfold takeL
  split
  · rw [List.length_eraseIdx]; split <;> omega
  · omega

/-! ### spec.At -/
end Go.Proofs.YtjaeihbfkmflkaaDoor.Vals
namespace Go.Proofs.YtjaeihbfkmflkaaDoor.Vals
open Go.RowKit Go.Proofs.YtjaeihbfkmflkaaDoorW.PrintWords Go.Proofs.YtjaeihbfkmflkaaDoor.Txt
set_option linter.unusedVariables false
set_option maxRecDepth 20000

/-- One value more, if it isn't there. -/
noncomputable def uniqStep (m : List V) (v : V) : List V := if hasB v m = true then m else m ++ [v]
/-- Each value once, where it stands first. -/
noncomputable def uniqV (l : List V) : List V := l.foldl uniqStep []
theorem uniqV_snoc (l : List V) (v : V) : uniqV (l ++ [v]) = uniqStep (uniqV l) v := by unfold uniqV; rw [List.foldl_append]; rfl
theorem uniqV_mem : ∀ (N : Nat) (l : List V), l.length < N → ∀ v ∈ uniqV l, v ∈ l := by
  intro N
  induction N with
  | zero => intro l h; omega
  | succ N ih =>
    intro l hN v hv
    rcases List.eq_nil_or_concat l with rfl | ⟨r, u, rfl⟩
    · exact hv
    · rw [List.concat_eq_append] at hv hN ⊢
      rw [uniqV_snoc] at hv
      have hr := ih r (by rw [List.length_append, List.length_singleton] at hN; omega)
      unfold uniqStep at hv
      split at hv
      · exact List.mem_append_left _ (hr v hv)
      · rcases List.mem_append.1 hv with hv | hv
        · exact List.mem_append_left _ (hr v hv)
        · exact List.mem_append_right _ hv
theorem Rights.uniq {l : List V} {d : Int} (h : Rights l d) : Rights (uniqV l) d := Rights.mk fun i hi => by
  obtain ⟨j, hj, e⟩ := List.mem_iff_getElem.1 (uniqV_mem _ l (Nat.lt_succ_self _) _ (List.getElem_mem hi))
  rw [← e]; exact h.at_ j hj
theorem uniqV_len (l : List V) (i : Nat) : (uniqV (l.take i)).length ≤ i := by
  induction i with
  | zero => simp [uniqV]
  | succ i ih =>
    rw [List.take_add_one]
    cases h : l[i]? with
    | none => simp only [Option.toList_none, List.append_nil]; omega
    | some v =>
      simp only [Option.toList_some]
      rw [uniqV_snoc]
      unfold uniqStep
      split
      · omega
      · rw [List.length_append, List.length_singleton]; omega

/-- A list that a function of lists hands back, and no error. -/
def GoLRes (m : List V) (w : World) (e : Ending) (w' : World) : Prop := ∃ A c ys, e = .returned (.tuple #[.slice A m.length c, .nilIface]) ∧
  Hid (RowIs w' (fun _ => True) 1 (.slice A m.length c) m.length ys ∧ GoVs w' (fun _ => True) m ys) ∧ Hid (Below w.heap.size w w')

theorem Rights.fines {l : List V} {d : Int} {w : World} {P : Nat → Prop} (hr : Rights l d) (hv : Fines l) : Fines (uniqV l) := Fines.mk fun i hi => by
  obtain ⟨j, hj, e⟩ := List.mem_iff_getElem.1 (uniqV_mem _ l (Nat.lt_succ_self _) _ (List.getElem_mem hi))
  rw [← e]; exact hv.at_ j hj
theorem uniqV_le (l : List V) : (uniqV l).length ≤ l.length := by have := uniqV_len l l.length; rw [List.take_length] at this; exact this
/-- A list of values that a function of the reference hands back. -/
def SpecLRes (m : List V) (w : World) (e : Ending) (w' : World) : Prop := ∃ A c ys, e = .returned (.slice A m.length c) ∧
  Hid (RowIs w' (fun _ => True) 6 (.slice A m.length c) m.length ys ∧ IsVs w' (fun _ => True) m ys) ∧ Hid (Below w.heap.size w w')
end Go.Proofs.YtjaeihbfkmflkaaDoor.Vals
namespace Go.Proofs.YtjaeihbfkmflkaaDoor.Vals
open Go.RowKit Go.ChangeShapes Go.WideShapes Go.Deep
set_option linter.unusedVariables false
set_option maxRecDepth 20000
section
variable {H : Type} {enc : TypeId × Value → H} {w : World} {base : Nat} {sp : Nat → Bool} {hd : Bool}
theorem trod_float {P : Program} {fuel : Nat} {t : TypeId} {k : FloatKind} {cs : List Value} {x : DataW H × List MemPlace} (ht : P.underlying t = some (.float k)) (h : DataW.trod enc P w base sp hd fuel t cs = some x) : ∃ n, cs = [.float k n] := by
  cases fuel with
  | zero => simp [DataW.trod] at h
  | succ n =>
    unfold DataW.trod at h
    rw [ht] at h
    split at h <;> simp_all
theorem valueCells : Tryd.prog.cellsOf 41 = 6 := by kernel_rfl
theorem textCells : Tryd.prog.cellsOf 9 = 1 := by kernel_rfl
theorem cellsInt : Tryd.prog.cellsOf 3 = 1 := by kernel_rfl
theorem cellsInt64 : Tryd.prog.cellsOf 2 = 1 := by kernel_rfl
theorem cellsReal : Tryd.prog.cellsOf 38 = 1 := by kernel_rfl
theorem cellsKeys : Tryd.prog.cellsOf 35 = 1 := by kernel_rfl
theorem cellsList : Tryd.prog.cellsOf 39 = 1 := by kernel_rfl
theorem i64_of {n : Int} (h : (Lit.int .i64 n).wf = true) : I64 n := by
  simp only [Lit.wf, IntKind.min, IntKind.max, IntKind.signed, IntKind.bits, Bool.and_eq_true, decide_eq_true_eq, if_true] at h
  unfold I64; omega
/-- An address that holds a cell is a plain one. -/
theorem plain_of {a : Addr} {u : Value} (h : w.cell? a = some u) : a = ⟨a.block, a.off, none⟩ := by
  have := World.cell?_spot h
  cases a; simp_all
theorem add_eq {a : Addr} (h : a = ⟨a.block, a.off, none⟩) (j : Nat) : (⟨a.block, a.off + j, none⟩ : Addr) = a.add j := by
  obtain ⟨b, o, s⟩ := a
  obtain rfl : s = none := by injection h
  unfold Addr.add
  split
  · rename_i h0; subst h0; rfl
  · rfl
/-- A row of elements, each read by itself. -/
theorem row_of {α : Type} (R : α → List Value → Prop) (s : Nat) (a : Addr) (n : Nat) (h : ∀ i, i < n → ∃ v c, R v c ∧ c.length = s ∧ ∀ j, j < s → w.cell? ((a.add (i * s)).add j) = c[j]?) :
    ∃ (l : List α) (cs : List (List Value)), l.length = n ∧ cs.length = n ∧ (∀ i (h : i < l.length) (h' : i < cs.length), R l[i] cs[i] ∧ cs[i].length = s) ∧ ∀ i (h : i < cs.length) j, j < s → w.cell? (a.add (i * s + j)) = cs[i][j]? := by
  induction n with
  | zero => exact ⟨[], [], rfl, rfl, fun i h => absurd h (by simp), fun i h => absurd h (by simp)⟩
  | succ n ih =>
    obtain ⟨l, cs, h1, h2, h3, h4⟩ := ih (fun i hi => h i (by omega))
    obtain ⟨v, c, hv, hc, hj⟩ := h n (by omega)
    refine ⟨l ++ [v], cs ++ [c], by simp [h1], by simp [h2], fun i hi hi' => ?_, fun i hi j hjs => ?_⟩
    · by_cases hin : i < n
      · rw [List.getElem_append_left (by omega), List.getElem_append_left (by omega)]; exact h3 i (by omega) (by omega)
      · have : i = n := by simp at hi; omega
        subst this
        rw [List.getElem_append_right (by omega), List.getElem_append_right (by omega)]
        simp [h1, h2, hv, hc]
    · by_cases hin : i < n
      · rw [List.getElem_append_left (by omega)]; exact h4 i (by omega) j hjs
      · have : i = n := by simp at hi; omega
        subst this
        rw [List.getElem_append_right (by omega)]
        have := hj j hjs
        rw [add_add] at this
        simpa [h2] using this
theorem flatten_get (s : Nat) : ∀ (cs : List (List Value)), (∀ i (h : i < cs.length), cs[i].length = s) → cs.flatten.length = cs.length * s ∧ ∀ i (h : i < cs.length) j, j < s → cs.flatten[i * s + j]? = cs[i][j]?
  | [], _ => ⟨by simp, fun i h => absurd h (by simp)⟩
  | c :: r, h => by
    obtain ⟨h1, h2⟩ := flatten_get s r (fun i hi => h (i + 1) (by simpa using hi))
    have hc : c.length = s := h 0 (by simp)
    refine ⟨by rw [List.flatten_cons, List.length_append, h1, hc, List.length_cons, Nat.add_mul]; omega, fun i hi j hj => ?_⟩
    rw [List.flatten_cons]
    cases i with
    | zero => rw [Nat.zero_mul, Nat.zero_add, List.getElem?_append_left (by omega)]; rfl
    | succ i =>
      rw [List.getElem?_append_right (by rw [hc, Nat.add_mul]; omega), hc, show (i + 1) * s + j - s = i * s + j by rw [Nat.add_mul]; omega]
      simpa using h2 i (by simpa using hi) j hj

theorem isV_of_trod : ∀ (fuel : Nat) (cs : List Value) (x : DataW H × List MemPlace), DataW.trod enc Tryd.prog w base sp hd fuel 41 cs = some x → ∃ v, IsV w (fun b => b < w.heap.size) v cs := by
  intro fuel
  induction fuel using Nat.strongRecOn with
  | _ fuel ih =>
    intro cs x h
    obtain ⟨ys, n, hn, hx, hlen, hyl, hf⟩ := DataW.trod_struct Tryd.underlying41 h
    rw [valueCells] at hlen
    match cs, hlen with
    | [c0, c1, c2, c3, c4, c5], _ =>
    match ys, hyl with
    | [y0, y1, y2, y3, y4, y5], _ =>
    have q0 : DataW.trod enc Tryd.prog w base sp hd n 3 [c0] = some y0 := by
      have h : DataW.trod enc Tryd.prog w base sp hd n 3 ((([c0, c1, c2, c3, c4, c5] : List Value).drop 0).take (Tryd.prog.cellsOf 3)) = some y0 := hf 0 _ rfl
      rw [cellsInt] at h; exact h
    have q1 : DataW.trod enc Tryd.prog w base sp hd n 2 [c1] = some y1 := by
      have h : DataW.trod enc Tryd.prog w base sp hd n 2 ((([c0, c1, c2, c3, c4, c5] : List Value).drop 1).take (Tryd.prog.cellsOf 2)) = some y1 := hf 1 _ rfl
      rw [cellsInt64] at h; exact h
    have q2 : DataW.trod enc Tryd.prog w base sp hd n 38 [c2] = some y2 := by
      have h : DataW.trod enc Tryd.prog w base sp hd n 38 ((([c0, c1, c2, c3, c4, c5] : List Value).drop 2).take (Tryd.prog.cellsOf 38)) = some y2 := hf 2 _ rfl
      rw [cellsReal] at h; exact h
    have q3 : DataW.trod enc Tryd.prog w base sp hd n 9 [c3] = some y3 := by
      have h : DataW.trod enc Tryd.prog w base sp hd n 9 ((([c0, c1, c2, c3, c4, c5] : List Value).drop 3).take (Tryd.prog.cellsOf 9)) = some y3 := hf 3 _ rfl
      rw [textCells] at h; exact h
    have q4 : DataW.trod enc Tryd.prog w base sp hd n 35 [c4] = some y4 := by
      have h : DataW.trod enc Tryd.prog w base sp hd n 35 ((([c0, c1, c2, c3, c4, c5] : List Value).drop 4).take (Tryd.prog.cellsOf 35)) = some y4 := hf 4 _ rfl
      rw [cellsKeys] at h; exact h
    have q5 : DataW.trod enc Tryd.prog w base sp hd n 39 [c5] = some y5 := by
      have h : DataW.trod enc Tryd.prog w base sp hd n 39 ((([c0, c1, c2, c3, c4, c5] : List Value).drop 5).take (Tryd.prog.cellsOf 39)) = some y5 := hf 5 _ rfl
      rw [cellsList] at h; exact h
    obtain ⟨k, hk, _, wk⟩ := DataW.trod_int Tryd.underlying3 q0
    obtain ⟨m, hm, _, wm⟩ := DataW.trod_int Tryd.underlying2 q1
    obtain ⟨r, hr⟩ := trod_float Tryd.underlying38 q2
    obtain ⟨t, ht, _, wt⟩ := DataW.trod_string Tryd.underlying9 q3
    obtain rfl : c0 = .int .i64 k := by simpa using hk
    obtain rfl : c1 = .int .i64 m := by simpa using hm
    obtain rfl : c2 = .float .f64 r := by simpa using hr
    obtain rfl : c3 = .string t := by simpa using ht
    have hkeys : ∃ ks : List ByteArray, (∀ x ∈ ks, x.size ≤ maxLen) ∧ RowIs w (fun b => b < w.heap.size) 1 c4 ks.length (ks.map .string) := by
      rcases open_strings Tryd.underlying35 Tryd.underlying9 textCells q4 with ⟨hcs, _⟩ | ⟨a, len, cap, ss, hcs, _, hl, hm, hz, _, hcell, hw⟩
      · obtain rfl : c4 = .slice none 0 0 := by simpa using hcs
        exact ⟨[], by simp, none, 0, rfl, by simp, by unfold maxLen; omega, by simp, fun h => absurd h (by simp)⟩
      · obtain rfl : c4 = .slice (some a) len cap := by simpa using hcs
        have hss : len ≤ ss.length := by rw [hz]; split <;> omega
        have hlen : (ss.take len).length = len := by rw [List.length_take]; omega
        refine ⟨ss.take len, fun x hx => hw x (List.mem_of_mem_take hx), some a, cap, by rw [hlen], by rw [hlen]; exact hl, hm, by simp, fun h0 => ?_⟩
        have h00 := hcell 0 (by omega)
        rw [show a.add 0 = a by unfold Addr.add; rfl] at h00
        have hp := plain_of h00
        refine ⟨a.block, a.off, by rw [← hp], World.block_lt_of_cell? w _ h00, fun j u hu => ?_⟩
        rw [List.getElem?_map] at hu
        cases hj : (ss.take len)[j]? with
        | none => rw [hj] at hu; cases hu
        | some s =>
          rw [hj] at hu
          have hjl : j < ss.length := by have := (List.getElem?_eq_some_iff.1 hj).1; omega
          have := hcell j hjl
          rw [add_eq hp j]
          rw [this]
          have e : ss[j]? = some s := by
            rw [List.getElem?_take] at hj
            split at hj
            · exact hj
            · cases hj
          simp only [Option.map_some, Option.some.injEq] at hu
          rw [← hu, List.getD_eq_getElem?_getD, e]; rfl
    have hlist : ∃ (l : List V) (xs : List Value), RowIs w (fun b => b < w.heap.size) 6 c5 l.length xs ∧ IsVs w (fun b => b < w.heap.size) l xs := by
      rcases DataW.trod_slice Tryd.underlying39 q5 with ⟨hcs, _⟩ | ⟨a, len, cap, elems, rest, n', hn', hcs, _, hb, hl, hm, hel, hat, _⟩
      · obtain rfl : c5 = .slice none 0 0 := by simpa using hcs
        exact ⟨[], [], ⟨none, 0, rfl, by simp, by unfold maxLen; omega, by simp, fun h => absurd h (by simp)⟩, by unfold IsVs; rfl⟩
      · obtain rfl : c5 = .slice (some a) len cap := by simpa using hcs
        obtain ⟨l, css, h1, h2, h3, h4⟩ := row_of (w := w) (fun v c => IsV w (fun b => b < w.heap.size) v c) 6 a len (fun i hi => by
          have := hat i hi
          rw [List.getElem?_eq_getElem (by omega), valueCells] at this
          cases hc : w.cells? base (a.add (i * 6)) 6 with
          | none => rw [hc] at this; cases this
          | some c =>
            rw [hc] at this
            obtain ⟨v, hv⟩ := ih n' (by omega) c _ this
            obtain ⟨_, hcl, hcj⟩ := World.cells?_some hc
            exact ⟨v, c, hv, hcl, fun j hj => hcj j hj⟩)
        obtain ⟨f1, f2⟩ := flatten_get 6 css (fun i hi => (h3 i (by omega) hi).2)
        refine ⟨l, css.flatten, ⟨some a, cap, by rw [h1], by omega, hm, by rw [f1, h2, h1], fun h0 => ?_⟩, IsVs.mk (by rw [f1, h2, h1]) fun i hi => ?_⟩
        · have h00 := h4 0 (by omega) 0 (by omega)
          rw [show a.add (0 * 6 + 0) = a by unfold Addr.add; rfl, List.getElem?_eq_getElem (by have := (h3 0 (by omega) (by omega)).2; omega)] at h00
          have hp := plain_of h00
          refine ⟨a.block, a.off, by rw [← hp], World.block_lt_of_cell? w _ h00, fun j u hu => ?_⟩
          have hjl : j < css.flatten.length := (List.getElem?_eq_some_iff.1 hu).1
          have hj6 : j / 6 < css.length := by rw [f1] at hjl; omega
          have e := f2 (j / 6) hj6 (j % 6) (Nat.mod_lt _ (by omega))
          rw [show j / 6 * 6 + j % 6 = j by omega, hu] at e
          rw [add_eq hp j]
          have := h4 (j / 6) hj6 (j % 6) (Nat.mod_lt _ (by omega))
          rw [show j / 6 * 6 + j % 6 = j by omega] at this
          rw [this, ← e]
        · exact ⟨css[i]'(by omega), (h3 i hi (by omega)).1, fun j hj => f2 i (by omega) j hj⟩
    obtain ⟨ks, hw, hks⟩ := hkeys
    obtain ⟨l, xs, hl1, hl2⟩ := hlist
    exact ⟨.mk k m r t ks l, by unfold IsV; exact ⟨c4, c5, xs, rfl, i64_of wk, i64_of wm, wt, hw, hks, hl1, hl2⟩⟩
/-- A slice of values that reads. -/
theorem isVs_of_trod (fuel : Nat) (c5 : Value) (x : DataW H × List MemPlace) (q5 : DataW.trod enc Tryd.prog w base sp hd fuel 39 [c5] = some x) : ∃ (l : List V) (xs : List Value), RowIs w (fun b => b < w.heap.size) 6 c5 l.length xs ∧ IsVs w (fun b => b < w.heap.size) l xs := by
  rcases DataW.trod_slice Tryd.underlying39 q5 with ⟨hcs, _⟩ | ⟨a, len, cap, elems, rest, n', hn', hcs, _, hb, hl, hm, hel, hat, _⟩
  · obtain rfl : c5 = .slice none 0 0 := by simpa using hcs
    exact ⟨[], [], ⟨none, 0, rfl, by simp, by unfold maxLen; omega, by simp, fun h => absurd h (by simp)⟩, by unfold IsVs; rfl⟩
  · obtain rfl : c5 = .slice (some a) len cap := by simpa using hcs
    obtain ⟨l, css, h1, h2, h3, h4⟩ := row_of (w := w) (fun v c => IsV w (fun b => b < w.heap.size) v c) 6 a len (fun i hi => by
      have := hat i hi
      rw [List.getElem?_eq_getElem (by omega), valueCells] at this
      cases hc : w.cells? base (a.add (i * 6)) 6 with
      | none => rw [hc] at this; cases this
      | some c =>
        rw [hc] at this
        obtain ⟨v, hv⟩ := isV_of_trod n' c _ this
        obtain ⟨_, hcl, hcj⟩ := World.cells?_some hc
        exact ⟨v, c, hv, hcl, fun j hj => hcj j hj⟩)
    obtain ⟨f1, f2⟩ := flatten_get 6 css (fun i hi => (h3 i (by omega) hi).2)
    refine ⟨l, css.flatten, ⟨some a, cap, by rw [h1], by omega, hm, by rw [f1, h2, h1], fun h0 => ?_⟩, IsVs.mk (by rw [f1, h2, h1]) fun i hi => ?_⟩
    · have h00 := h4 0 (by omega) 0 (by omega)
      rw [show a.add (0 * 6 + 0) = a by unfold Addr.add; rfl, List.getElem?_eq_getElem (by have := (h3 0 (by omega) (by omega)).2; omega)] at h00
      have hp := plain_of h00
      refine ⟨a.block, a.off, by rw [← hp], World.block_lt_of_cell? w _ h00, fun j u hu => ?_⟩
      have hjl : j < css.flatten.length := (List.getElem?_eq_some_iff.1 hu).1
      have hj6 : j / 6 < css.length := by rw [f1] at hjl; omega
      have e := f2 (j / 6) hj6 (j % 6) (Nat.mod_lt _ (by omega))
      rw [show j / 6 * 6 + j % 6 = j by omega, hu] at e
      rw [add_eq hp j]
      have := h4 (j / 6) hj6 (j % 6) (Nat.mod_lt _ (by omega))
      rw [show j / 6 * 6 + j % 6 = j by omega] at this
      rw [this, ← e]
    · exact ⟨css[i]'(by omega), (h3 i hi (by omega)).1, fun j hj => f2 i (by omega) j hj⟩
/-- A parameter that is a value. -/
theorem open_value {r : Reach} {b0 : Nat} {v : Value} {d : DataW H} {p : List MemPlace} (hv : Value.okWide Tryd.prog w r b0 41 v) (h : DataW.Trod enc Tryd.prog w base sp hd 41 v d p) :
    ∃ (V : V) (kv lv : Value), v = .agg #[.int .i64 V.k, .int .i64 V.n, .float .f64 V.r, .string V.t, kv, lv] ∧ IsV w (fun b => b < w.heap.size) V [.int .i64 V.k, .int .i64 V.n, .float .f64 V.r, .string V.t, kv, lv] := by
  obtain ⟨cs, rfl, hsz⟩ := okWide_struct Tryd.underlying41 hv
  obtain ⟨fuel, hf⟩ := h
  obtain ⟨V, hV⟩ := isV_of_trod fuel _ _ hf
  obtain ⟨kv, lv, hc⟩ := hV.open_
  rw [hc] at hV
  refine ⟨V, kv, lv, ?_, hV⟩
  obtain ⟨l⟩ := cs
  have : l = [.int .i64 V.k, .int .i64 V.n, .float .f64 V.r, .string V.t, kv, lv] := hc
  rw [this]
/-- A parameter that is a slice of values. -/
theorem open_values {r : Reach} {b0 : Nat} {v : Value} {d : DataW H} {p : List MemPlace} (hv : Value.okWide Tryd.prog w r b0 39 v) (h : DataW.Trod enc Tryd.prog w base sp hd 39 v d p) :
    ∃ (A : Option Addr) (c : Nat) (l : List V) (xs : List Value), v = .slice A l.length c ∧ RowIs w (fun b => b < w.heap.size) 6 (.slice A l.length c) l.length xs ∧ IsVs w (fun b => b < w.heap.size) l xs := by
  obtain ⟨A, n, c, rfl⟩ := okWide_slice Tryd.underlying39 hv
  obtain ⟨fuel, hf⟩ := h
  obtain ⟨l, xs, h1, h2⟩ := isVs_of_trod fuel _ _ hf
  obtain ⟨A', c', hc, _⟩ := h1.form
  injection hc with e1 e2 e3
  subst e2
  exact ⟨A, c, l, xs, rfl, h1, h2⟩
end
end Go.Proofs.YtjaeihbfkmflkaaDoor.Vals
namespace Go.Proofs.YtjaeihbfkmflkaaDoor.Vals
open Go.RowKit Go.ChangeShapes Go.WideShapes Go.Deep Go.Proofs.YtjaeihbfkmflkaaDoorW.PrintWords Go.Proofs.YtjaeihbfkmflkaaDoor.Txt
set_option linter.unusedVariables false
set_option maxRecDepth 20000

section
variable {P : Program} (w : World)
/-- append of nothing: a nil source. -/
theorem run_append_nothing (base : Nat) (t ty e : TypeId) (i : TypeInfo) (size : Nat) (ht : P.underlying t = some (.slice e)) (hi : P.info? e = some i)
    (v : Value) (n : Nat) (xs : List Value) (hown : w.ownsRow base e size v n xs) (c : Nat) : (Builtin.append_ #[t, t] ty #[v, .slice none 0 c]).run P w = .ok v w := by
  rcases hown.2 with ⟨rfl, rfl⟩ | ⟨g, cap, cur, rfl, _, _, hnc, _⟩
  · simp [Builtin.append_, run_underlying ht, sizeOf, typeInfo, hi, Builtin.lenOf, Builtin.firstCells]
  · simp [Builtin.append_, run_underlying ht, sizeOf, typeInfo, hi, Builtin.lenOf, Builtin.firstCells, hnc, storeCells]
/-- append of a row that stands somewhere, nil or not. -/
theorem run_append_row (base : Nat) (t ty e : TypeId) (i : TypeInfo) (z : Value) (size bytes : Nat) (ht : P.underlying t = some (.slice e)) (hi : P.info? e = some i) (hz : i.zero = some z)
    (hsize : i.size = size) (hby : i.bytes = bytes) (hzs : z.cells.size = size) (hsz : 0 < size)
    (v : Value) (n : Nat) (xs : List Value) (hown : w.ownsRow base e size v n xs)
    (R : Nat → Prop) (A : Option Addr) (m c : Nat) (news : List Value) (hr : RowIs w R size (.slice A m c) m news) (h1 : ∀ u ∈ news, u.oneCell' = true)
    (h63 : n + m ≤ maxLen) (hbytes : (n + m) * bytes ≤ 140737488355328) (hbase : base ≤ w.heap.size) :
    ∃ G cap w', (Builtin.append_ #[t, t] ty #[v, .slice A m c]).run P w = .ok (.slice G (n + m) cap) w' ∧ w'.ownsRow base e size (.slice G (n + m) cap) (n + m) (xs ++ news) ∧ w.grownBy w' v.ownBlock ∧
      (G.map (·.block) = v.ownBlock ∨ G.map (·.block) = some w.heap.size) := by
  have hlen : news.length = m * size := by obtain ⟨_, _, _, _, _, h⟩ := hr.form; exact h
  have key : ∃ v' w', (Builtin.append_ #[t, t] ty #[v, .slice A m c]).run P w = .ok v' w' ∧ w'.ownsRow base e size v' (n + m) (xs ++ news) ∧ w.grownBy w' v.ownBlock ∧ (v'.ownBlock = v.ownBlock ∨ v'.ownBlock = some w.heap.size) := by
    rcases A with _ | ad
    · have hm : m = 0 := by
        rcases Nat.eq_zero_or_pos m with h0 | h0
        · exact h0
        · obtain ⟨_, _, h, _⟩ := hr.elem h0
          cases h
      subst hm
      have hn : news = [] := List.eq_nil_of_length_eq_zero (by simpa using hlen)
      subst hn
      exact ⟨v, w, run_append_nothing w base t ty e i size ht hi v n xs hown c, by simpa using hown, ⟨rfl, rfl, rfl, Nat.le_refl _, fun _ _ _ => rfl⟩, .inl rfl⟩
    · have hcells : ∀ j u, news[j]? = some u → w.cell? (ad.add j) = some u := fun j u hu => by
        have hjl := (List.getElem?_eq_some_iff.1 hu).1
        have h0 : 0 < m := by
          rcases Nat.eq_zero_or_pos m with h0 | h0
          · rw [hlen, h0, Nat.zero_mul] at hjl; omega
          · exact h0
        obtain ⟨b, o, h, _, hc⟩ := hr.elem h0
        injection h with h
        subst h
        rw [← Go.Proofs.YtjaeihbfkmflkaaDoor.Vals.add_eq rfl]
        exact hc j u hu
      obtain ⟨v', w', hrun, h2, h3, _, h5⟩ := run_append_own_at (P := P) w base t ty e i z size bytes ht hi hz hsize hby hzs hsz v n xs hown ad m c news hlen hcells h1 h63 hbytes hbase
      exact ⟨v', w', hrun, h2, h3, h5⟩
  obtain ⟨v', w', hrun, h2, h3, h5⟩ := key
  rcases h2.2 with ⟨rfl, h0⟩ | ⟨g, cap, cur, rfl, _⟩
  · rw [h0] at *
    exact ⟨none, 0, w', hrun, h2, h3, h5⟩
  · exact ⟨some ⟨g, 0, none⟩, cap, w', hrun, h2, h3, h5⟩
theorem wp_append_row {o : Oper} {a : Act} {K : Act → World → Prop} {Q : Exit → Act → World → Prop} (s x : Operand) (t : TypeId)
    (ho : o.op = .call { callee := .builtin .append, args := #[s, x], argTypes := #[t, t] })
    (base : Nat) (e : TypeId) (i : TypeInfo) (z : Value) (size bytes : Nat) (ht : P.underlying t = some (.slice e)) (hi : P.info? e = some i) (hz : i.zero = some z)
    (hsize : i.size = size) (hby : i.bytes = bytes) (hzs : z.cells.size = size) (hsz : 0 < size)
    (v : Value) (n : Nat) (xs : List Value) (hs : a.eval s = v) (hown : w.ownsRow base e size v n xs)
    (R : Nat → Prop) (A : Option Addr) (m c : Nat) (news : List Value) (hx : a.eval x = .slice A m c) (hr : RowIs w R size (.slice A m c) m news) (h1 : ∀ u ∈ news, u.oneCell' = true)
    (h63 : n + m ≤ maxLen) (hbytes : (n + m) * bytes ≤ 140737488355328) (hbase : base ≤ w.heap.size)
    (h : ∀ G cap w', w'.ownsRow base e size (.slice G (n + m) cap) (n + m) (xs ++ news) → w.grownBy w' v.ownBlock → (G.map (·.block) = v.ownBlock ∨ G.map (·.block) = some w.heap.size) → K (a.put o.dst (.slice G (n + m) cap)) w') : o.wp P a w K Q := by
  obtain ⟨G, cap, w', hrun, h2, h3, h4⟩ := run_append_row (P := P) w base t o.type e i z size bytes ht hi hz hsize hby hzs hsz v n xs hown R A m c news hr h1 h63 hbytes hbase
  unfold Oper.wp execOp
  simp only [ho, resolve, invoke, builtin, Sem.run_bind, Sem.run_pure, Result.andThen_ok, List.map_toArray, List.map_cons, List.map_nil, hs, hx, hrun]
  exact h G cap w' h2 h3 h4
theorem wpList_append_row {ops : Array Oper} {rest : List Oper} {o : Oper} {a : Act} {Q : Exit → Act → World → Prop} (hgd : o.guard = none) (s x : Operand) (t : TypeId)
    (ho : o.op = .call { callee := .builtin .append, args := #[s, x], argTypes := #[t, t] })
    (base : Nat) (e : TypeId) (i : TypeInfo) (z : Value) (size bytes : Nat) (ht : P.underlying t = some (.slice e)) (hi : P.info? e = some i) (hz : i.zero = some z)
    (hsize : i.size = size) (hby : i.bytes = bytes) (hzs : z.cells.size = size) (hsz : 0 < size)
    (v : Value) (n : Nat) (xs : List Value) (hs : a.eval s = v) (hown : w.ownsRow base e size v n xs)
    (R : Nat → Prop) (A : Option Addr) (m c : Nat) (news : List Value) (hx : a.eval x = .slice A m c) (hr : RowIs w R size (.slice A m c) m news) (h1 : ∀ u ∈ news, u.oneCell' = true)
    (h63 : n + m ≤ maxLen) (hbytes : (n + m) * bytes ≤ 140737488355328) (hbase : base ≤ w.heap.size)
    (h : ∀ G cap w', w'.ownsRow base e size (.slice G (n + m) cap) (n + m) (xs ++ news) → w.grownBy w' v.ownBlock → (G.map (·.block) = v.ownBlock ∨ G.map (·.block) = some w.heap.size) → wpList P ops Q rest (a.put o.dst (.slice G (n + m) cap)) w') : wpList P ops Q (o :: rest) a w :=
  wpList_plain hgd fun _ hK => wp_append_row w s x t ho base e i z size bytes ht hi hz hsize hby hzs hsz v n xs hs hown R A m c news hx hr h1 h63 hbytes hbase fun G cap w' h2 h3 h4 => hK _ _ (h G cap w' h2 h3 h4)
theorem step_append_row {ops : Array Oper} {o : Oper} {a : Act} {K : Act → World → Prop} {Q : Exit → Act → World → Prop} {E : Prop} (hgd : o.guard = none) (s x : Operand) (t : TypeId)
    (ho : o.op = .call { callee := .builtin .append, args := #[s, x], argTypes := #[t, t] })
    (base : Nat) (e : TypeId) (i : TypeInfo) (z : Value) (size bytes : Nat) (ht : P.underlying t = some (.slice e)) (hi : P.info? e = some i) (hz : i.zero = some z)
    (hsize : i.size = size) (hby : i.bytes = bytes) (hzs : z.cells.size = size) (hsz : 0 < size)
    (v : Value) (n : Nat) (xs : List Value) (hs : a.eval s = v) (hown : w.ownsRow base e size v n xs)
    (R : Nat → Prop) (A : Option Addr) (m c : Nat) (news : List Value) (hx : a.eval x = .slice A m c) (hr : RowIs w R size (.slice A m c) m news) (h1 : ∀ u ∈ news, u.oneCell' = true)
    (h63 : n + m ≤ maxLen) (hbytes : (n + m) * bytes ≤ 140737488355328) (hbase : base ≤ w.heap.size)
    (h : ∀ G cap w', w'.ownsRow base e size (.slice G (n + m) cap) (n + m) (xs ++ news) → w.grownBy w' v.ownBlock → (G.map (·.block) = v.ownBlock ∨ G.map (·.block) = some w.heap.size) → K (a.put o.dst (.slice G (n + m) cap)) w') :
    if Region.wanted o (yielded ops a.tmps) = true then Oper.wp P o a w K Q else E := by
  have hw : Region.wanted o (yielded ops a.tmps) = true := by simp [Region.wanted, hgd]
  rw [if_pos hw]
  exact wp_append_row w s x t ho base e i z size bytes ht hi hz hsize hby hzs hsz v n xs hs hown R A m c news hx hr h1 h63 hbytes hbase h
end

/-! ### lists of lists -/
/-- This slice header stands for a list of values. -/
def IsL (w : World) (P : Nat → Prop) (l : List V) (v : Value) : Prop := ∃ A c xs, v = .slice A l.length c ∧ RowIs w P 6 (.slice A l.length c) l.length xs ∧ IsVs w P l xs
def IsLs (w : World) (P : Nat → Prop) (L : List (List V)) (hs : List Value) : Prop := hs.length = L.length ∧ ∀ i (h : i < L.length) (h' : i < hs.length), IsL w P L[i] hs[i]
theorem IsL.keep {w w' : World} {P Q : Nat → Prop} {l : List V} {v : Value} (k : Kept w w' P Q) (h : IsL w P l v) : IsL w' Q l v := by
  obtain ⟨A, c, xs, h1, h2, h3⟩ := h
  exact ⟨A, c, xs, h1, h2.keep (by omega) k, IsVs.keep k l h3⟩
theorem IsLs.keep {w w' : World} {P Q : Nat → Prop} {L : List (List V)} {hs : List Value} (k : Kept w w' P Q) (h : IsLs w P L hs) : IsLs w' Q L hs := ⟨h.1, fun i hi hi' => (h.2 i hi hi').keep k⟩
theorem IsVs.append {w : World} {P : Nat → Prop} : ∀ {l : List V} {xs : List Value}, IsVs w P l xs → ∀ {m : List V} {ys : List Value}, IsVs w P m ys → IsVs w P (l ++ m) (xs ++ ys)
  | [], xs, h, m, ys, hm => by unfold IsVs at h; subst h; simpa using hm
  | u :: r, xs, h, m, ys, hm => by
    unfold IsVs at h; obtain ⟨d, d', rfl, h2, h3⟩ := h
    rw [List.cons_append]; unfold IsVs
    exact ⟨d, d' ++ ys, by simp, h2, IsVs.append h3 hm⟩
theorem IsVs.one {w : World} {P : Nat → Prop} : ∀ {l : List V} {xs : List Value}, IsVs w P l xs → ∀ u ∈ xs, u.oneCell' = true
  | [], xs, h => by unfold IsVs at h; subst h; simp
  | v :: r, xs, h => by
    unfold IsVs at h; obtain ⟨d, d', rfl, h2, h3⟩ := h
    intro u hu
    rcases List.mem_append.1 hu with hu | hu
    · exact h2.one u hu
    · exact IsVs.one h3 u hu
section
variable {H : Type} {enc : TypeId × Value → H} {w : World} {base : Nat} {sp : Nat → Bool} {hd : Bool}
end

/-! ### walks -/
def listV (l : List V) : V := .mk 6 0 0 ⟨#[]⟩ [] l
theorem GoV.list {w : World} {P : Nat → Prop} {l : List V} {x : Value} (h : GoV w P (listV l) x) : ∃ a c xs, x = .iface 112 (.slice (some a) l.length c) ∧ RowIs w P 1 (.slice (some a) l.length c) l.length xs ∧ GoVs w P l xs := by
  unfold listV GoV at h
  rcases h with ⟨h, _⟩ | ⟨h, _⟩ | ⟨h, _⟩ | ⟨h, _⟩ | ⟨h, _⟩ | ⟨h, _⟩ | ⟨_, a, c, xs, h1, h2, h3⟩ | ⟨h, _⟩
  iterate 6 omega
  · exact ⟨a, c, xs, h1, h2, h3⟩
  · omega
theorem GoV.mkList {w : World} {P : Nat → Prop} {l : List V} {a : Addr} {c : Nat} {xs : List Value} (h1 : RowIs w P 1 (.slice (some a) l.length c) l.length xs) (h2 : GoVs w P l xs) : GoV w P (listV l) (.iface 112 (.slice (some a) l.length c)) := by
  unfold listV GoV
  exact .inr (.inr (.inr (.inr (.inr (.inr (.inl ⟨rfl, a, c, xs, rfl, h1, h2⟩))))))
theorem flat_take_succ {L : List (List V)} {i : Nat} (h : i < L.length) : (L.take (i + 1)).flatten = (L.take i).flatten ++ L[i] := by
  rw [List.take_add_one, List.getElem?_eq_getElem h]
  simp only [Option.toList_some, List.flatten_append, List.flatten_cons, List.flatten_nil, List.append_nil]
theorem flat_take_le (L : List (List V)) (i : Nat) : (L.take i).flatten.length ≤ L.flatten.length := by
  have h : L.flatten = (L.take i).flatten ++ (L.drop i).flatten := by rw [← List.flatten_append, List.take_append_drop]
  rw [h, List.length_append]; omega
def CatRes (m : List V) (w : World) (e : Ending) (w' : World) : Prop := ∃ G c ys, e = .returned (.iface 112 (.slice G m.length c)) ∧
  Hid (RowIs w' (fun _ => True) 1 (.slice G m.length c) m.length ys ∧ GoVs w' (fun _ => True) m ys) ∧ Hid (Below w.heap.size w w')
end Go.Proofs.YtjaeihbfkmflkaaDoor.Vals
namespace Go.Proofs.YtjaeihbfkmflkaaDoor.Vals
open Go.RowKit Go.ChangeMaps Go.Proofs.YtjaeihbfkmflkaaDoorW.PrintWords Go.Proofs.YtjaeihbfkmflkaaDoor.Txt
set_option linter.unusedVariables false
set_option maxRecDepth 20000

theorem own_empty {w : World} {B g : Nat} {e : TypeId} {size : Nat} (hb : B ≤ g) (h : w.heap[g]? = some (.cells #[] e (0, 0))) : w.ownsRow B e size (.slice (some ⟨g, 0, none⟩) 0 0) 0 [] :=
  ⟨by simp, .inr ⟨g, 0, #[], rfl, hb, h, Nat.le_refl _, by unfold maxLen; omega, by simp, by simp⟩⟩
theorem bdrew (w : World) : Below w.heap.size w w.drew := ⟨rfl, rfl, rfl, Nat.le_refl _, fun _ _ => rfl⟩
theorem alloc2_new (w : World) (o o' : Obj) : ((w.alloc o).alloc o').heap[w.heap.size + 1]? = some o' := by have h := heap_alloc_new (w.alloc o) o'; rw [World.size_alloc] at h; exact h
theorem row_box {w : World} {b : Nat} {cs : Array Value} {t : TypeId} {s : Nat} (h : w.heap[b]? = some (.cells cs t (0, 0))) (hs : cs.toList.length = 1 * s) : RowIs w (fun _ => True) s (.slice (some ⟨b, 0, none⟩) 1 1) 1 cs.toList :=
  ⟨some ⟨b, 0, none⟩, 1, rfl, Nat.le_refl _, by unfold maxLen; omega, hs, fun _ => ⟨b, 0, rfl, trivial, fun j u hu => by rw [Nat.zero_add, blk_cell h]; simpa using hu⟩⟩
theorem RowIs.pre {w : World} {P : Nat → Prop} {s b n c a : Nat} {xs : List Value} (h : RowIs w P s (.slice (some ⟨b, 0, none⟩) n c) n xs) (ha : a ≤ n) : RowIs w P s (.slice (some ⟨b, 0, none⟩) a c) a (xs.take (a * s)) := by
  obtain ⟨h1, h2⟩ := h.sizes
  obtain ⟨_, _, _, _, _, hx⟩ := h.form
  have hl : a * s ≤ n * s := Nat.mul_le_mul_right s ha
  refine ⟨_, _, rfl, by omega, by omega, by rw [List.length_take]; omega, fun h0 => ?_⟩
  obtain ⟨b', o', hA, hP, hc⟩ := h.elem (by omega)
  refine ⟨b', o', hA, hP, fun j u hu => ?_⟩
  rw [List.getElem?_take] at hu
  split at hu
  · exact hc _ _ hu
  · cases hu
theorem RowIs.post {w : World} {P : Nat → Prop} {s b n c a : Nat} {xs : List Value} (h : RowIs w P s (.slice (some ⟨b, 0, none⟩) n c) n xs) (ha : a ≤ n) : RowIs w P s (.slice (if c = a then some ⟨b, 0, none⟩ else some ⟨b, a * s, none⟩) (n - a) (c - a)) (n - a) (xs.drop (a * s)) := by
  obtain ⟨h1, h2⟩ := h.sizes
  obtain ⟨_, _, _, _, _, hx⟩ := h.form
  refine ⟨_, _, rfl, by omega, by omega, by rw [List.length_drop, hx, Nat.sub_mul], fun h0 => ?_⟩
  obtain ⟨b', o', hA, hP, hc⟩ := h.elem (by omega)
  injection hA with hA
  injection hA with hb ho
  subst hb; subst ho
  refine ⟨b, a * s, by rw [if_neg (by omega)], hP, fun j u hu => ?_⟩
  rw [List.getElem?_drop] at hu
  have := hc _ _ hu
  rw [Nat.zero_add] at this
  exact this
def set6L (xs : List Value) (a : Nat) (v0 v1 v2 v3 v4 v5 : Value) : List Value := (((((xs.set (a * 6) v0).set (a * 6 + 1) v1).set (a * 6 + 2) v2).set (a * 6 + 3) v3).set (a * 6 + 4) v4).set (a * 6 + 5) v5
theorem set6L_at {xs : List Value} {a n : Nat} (hl : xs.length = n * 6) (ha : a < n) (v0 v1 v2 v3 v4 v5 : Value) : (∀ i j, j < 6 → i ≠ a → (set6L xs a v0 v1 v2 v3 v4 v5)[i * 6 + j]? = xs[i * 6 + j]?) ∧ (∀ j, j < 6 → (set6L xs a v0 v1 v2 v3 v4 v5)[a * 6 + j]? = [v0, v1, v2, v3, v4, v5][j]?) := by
  have hb : a * 6 + 5 < xs.length := by omega
  refine ⟨fun i j hj hi => ?_, fun j hj => ?_⟩
  · unfold set6L
    simp only [List.getElem?_set, List.length_set]
    rw [if_neg (by omega), if_neg (by omega), if_neg (by omega), if_neg (by omega), if_neg (by omega), if_neg (by omega)]
  · unfold set6L
    simp only [List.getElem?_set, List.length_set]
    have h6 : j = 0 ∨ j = 1 ∨ j = 2 ∨ j = 3 ∨ j = 4 ∨ j = 5 := by omega
    rcases h6 with rfl | rfl | rfl | rfl | rfl | rfl
    · rw [if_neg (by omega), if_neg (by omega), if_neg (by omega), if_neg (by omega), if_neg (by omega), if_pos (by omega), if_pos (by omega)]; rfl
    · rw [if_neg (by omega), if_neg (by omega), if_neg (by omega), if_neg (by omega), if_pos (by omega), if_pos (by omega)]; rfl
    · rw [if_neg (by omega), if_neg (by omega), if_neg (by omega), if_pos (by omega), if_pos (by omega)]; rfl
    · rw [if_neg (by omega), if_neg (by omega), if_pos (by omega), if_pos (by omega)]; rfl
    · rw [if_neg (by omega), if_pos (by omega), if_pos (by omega)]; rfl
    · rw [if_pos (by omega), if_pos (by omega)]; rfl
theorem IsVs.set6 {w : World} {P : Nat → Prop} {l : List V} {xs : List Value} (h : IsVs w P l xs) {a : Nat} (ha : a < l.length) {u : V} {v0 v1 v2 v3 v4 v5 : Value} (hu : IsV w P u [v0, v1, v2, v3, v4, v5]) : IsVs w P (l.set a u) (set6L xs a v0 v1 v2 v3 v4 v5) := by
  have hl := h.len
  obtain ⟨h1, h2⟩ := set6L_at hl ha v0 v1 v2 v3 v4 v5
  refine IsVs.mk (by unfold set6L; simp [hl]) fun i hi => ?_
  rw [List.length_set] at hi
  by_cases hia : i = a
  · subst hia
    rw [List.getElem_set_self]
    exact ⟨_, hu, fun j hj => h2 j hj⟩
  · rw [List.getElem_set_ne (Ne.symm hia)]
    obtain ⟨c, hc, _, hx⟩ := h.at_ i hi
    exact ⟨c, hc, fun j hj => (h1 i j hj hia).trans (hx j hj)⟩
/-- A row of values of the call's own: one is overwritten. -/
theorem own_set6 {w : World} {B : Nat} {g n cap a : Nat} {xs : List Value} (h : w.ownsRow B 41 6 (.slice (some ⟨g, 0, none⟩) n cap) n xs) (ha : a < n) (v0 v1 v2 v3 v4 v5 : Value) {w' : World}
    (hw : w' = (((((w.setCell ⟨g, a * 6, none⟩ v0).setCell ⟨g, a * 6 + 1, none⟩ v1).setCell ⟨g, a * 6 + 2, none⟩ v2).setCell ⟨g, a * 6 + 3, none⟩ v3).setCell ⟨g, a * 6 + 4, none⟩ v4).setCell ⟨g, a * 6 + 5, none⟩ v5) :
    w'.ownsRow B 41 6 (.slice (some ⟨g, 0, none⟩) n cap) n (set6L xs a v0 v1 v2 v3 v4 v5) ∧ (∀ k, k ≠ g → w'.heap[k]? = w.heap[k]?) ∧ Below g w w' := by
  obtain ⟨hl, hc⟩ := h
  rcases hc with ⟨h0, _⟩ | ⟨g', cap', cur, hv, hb, hh, h1, h2, h3, h4⟩
  · cases h0
  injection hv with hv1 _ hv3
  injection hv1 with hv1
  injection hv1 with hv1
  subst hv1
  subst hv3
  have h5 := blk_set (blk_set (blk_set (blk_set (blk_set (blk_set hh (a * 6) v0) (a * 6 + 1) v1) (a * 6 + 2) v2) (a * 6 + 3) v3) (a * 6 + 4) v4) (a * 6 + 5) v5
  rw [← hw] at h5
  refine ⟨⟨by unfold set6L; simp [hl], .inr ⟨g, cap, _, rfl, hb, h5, h1, h2, by simp [h3], ?_⟩⟩, fun k hk => ?_, ?_⟩
  · simp only [Array.toList_setIfInBounds]
    rw [← h4]
    unfold set6L
    simp only [List.take_set]
  · rw [hw, Below.heap_setCell _ _ _ _ hk, Below.heap_setCell _ _ _ _ hk, Below.heap_setCell _ _ _ _ hk, Below.heap_setCell _ _ _ _ hk, Below.heap_setCell _ _ _ _ hk, Below.heap_setCell _ _ _ _ hk]
  · rw [hw]
    have s : ∀ (W : World) (j : Nat) (v : Value), Below g w W → Below g w (W.setCell ⟨g, j, none⟩ v) := fun W j v h => h.setCell (p := ⟨g, j, none⟩) (Nat.le_refl _) v
    exact s _ _ _ (s _ _ _ (s _ _ _ (s _ _ _ (s _ _ _ (s _ _ _ (Below.refl _ _))))))
/-- Its cells may be written. -/
theorem own_cell {w : World} {B : Nat} {g n cap : Nat} {e : TypeId} {s : Nat} {xs : List Value} (h : w.ownsRow B e s (.slice (some ⟨g, 0, none⟩) n cap) n xs) {j : Nat} (hj : j < n * s) : (∃ u, w.cell? ⟨g, j, none⟩ = some u) ∧ w.frozen? ⟨g, j, none⟩ = false := by
  obtain ⟨hl, hc⟩ := h
  rcases hc with ⟨h0, _⟩ | ⟨g', cap', cur, hv, hb, hh, h1, h2, h3, h4⟩
  · cases h0
  injection hv with hv1 _ hv3
  injection hv1 with hv1
  injection hv1 with hv1
  subst hv1
  subst hv3
  have hsz : j < cur.size := by rw [h3]; exact Nat.lt_of_lt_of_le hj (Nat.mul_le_mul_right s h1)
  exact ⟨⟨cur[j], by rw [blk_cell hh]; exact Array.getElem?_eq_getElem hsz⟩, by simp [World.frozen?, hh]⟩
theorem below_drewn {B : Nat} {w W : World} (h : Below B w W) : Below B w W.drew := h.trans ⟨rfl, rfl, rfl, Nat.le_refl _, fun _ _ => rfl⟩
theorem dsize (w : World) : w.drew.heap.size = w.heap.size := rfl
theorem textsOne (ks : List ByteArray) : ∀ u ∈ ks.map Value.string, u.oneCell' = true := by
  intro u hu
  obtain ⟨k, _, rfl⟩ := List.mem_map.1 hu
  rfl
section
variable {P : Program} (w : World)
/-- append onto a slice that isn't nil. -/
theorem run_append_some (base : Nat) (t ty e : TypeId) (i : TypeInfo) (z : Value) (size bytes : Nat) (ht : P.underlying t = some (.slice e)) (hi : P.info? e = some i) (hz : i.zero = some z)
    (hsize : i.size = size) (hby : i.bytes = bytes) (hzs : z.cells.size = size) (hsz : 0 < size)
    (g n kc : Nat) (xs : List Value) (hown : w.ownsRow base e size (.slice (some ⟨g, 0, none⟩) n kc) n xs)
    (R : Nat → Prop) (A : Option Addr) (m c : Nat) (news : List Value) (hr : RowIs w R size (.slice A m c) m news) (h1 : ∀ u ∈ news, u.oneCell' = true)
    (h63 : n + m ≤ maxLen) (hbytes : (n + m) * bytes ≤ 140737488355328) (hbase : base ≤ w.heap.size) :
    ∃ g' cap w', (Builtin.append_ #[t, t] ty #[.slice (some ⟨g, 0, none⟩) n kc, .slice A m c]).run P w = .ok (.slice (some ⟨g', 0, none⟩) (n + m) cap) w' ∧ w'.ownsRow base e size (.slice (some ⟨g', 0, none⟩) (n + m) cap) (n + m) (xs ++ news) ∧ w.grownBy w' (some g) ∧
      (g' = g ∨ g' = w.heap.size) := by
  have hlen : news.length = m * size := by obtain ⟨_, _, _, _, _, h⟩ := hr.form; exact h
  rcases A with _ | ad
  · have hm : m = 0 := by
      rcases Nat.eq_zero_or_pos m with h0 | h0
      · exact h0
      · obtain ⟨_, _, h, _⟩ := hr.elem h0
        cases h
    subst hm
    have hn : news = [] := List.eq_nil_of_length_eq_zero (by simpa using hlen)
    subst hn
    exact ⟨g, kc, w, run_append_nothing w base t ty e i size ht hi _ n xs hown c, by simpa using hown, ⟨rfl, rfl, rfl, Nat.le_refl _, fun _ _ _ => rfl⟩, .inl rfl⟩
  · have hcells : ∀ j u, news[j]? = some u → w.cell? (ad.add j) = some u := fun j u hu => by
      have hjl := (List.getElem?_eq_some_iff.1 hu).1
      have h0 : 0 < m := by
        rcases Nat.eq_zero_or_pos m with h0 | h0
        · rw [hlen, h0, Nat.zero_mul] at hjl; omega
        · exact h0
      obtain ⟨b, o, h, _, hc⟩ := hr.elem h0
      injection h with h
      subst h
      rw [← Go.Proofs.YtjaeihbfkmflkaaDoor.Vals.add_eq rfl]
      exact hc j u hu
    obtain ⟨v', w', hrun, h2, h3, h4, h5⟩ := run_append_own_at (P := P) w base t ty e i z size bytes ht hi hz hsize hby hzs hsz _ n xs hown ad m c news hlen hcells h1 h63 hbytes hbase
    rcases h2.2 with ⟨rfl, h0⟩ | ⟨g', cap, cur, rfl, _⟩
    · exact absurd (h4.1 rfl).1 (by simp)
    · refine ⟨g', cap, w', hrun, h2, h3, ?_⟩
      rcases h5 with h | h
      · exact .inl (by simpa [Value.ownBlock] using h)
      · exact .inr (by simpa [Value.ownBlock] using h)
theorem step_append_some {ops : Array Oper} {o : Oper} {a : Act} {K : Act → World → Prop} {Q : Exit → Act → World → Prop} {E : Prop} (hgd : o.guard = none) (s x : Operand) (t : TypeId)
    (ho : o.op = .call { callee := .builtin .append, args := #[s, x], argTypes := #[t, t] })
    (base : Nat) (e : TypeId) (i : TypeInfo) (z : Value) (size bytes : Nat) (ht : P.underlying t = some (.slice e)) (hi : P.info? e = some i) (hz : i.zero = some z)
    (hsize : i.size = size) (hby : i.bytes = bytes) (hzs : z.cells.size = size) (hsz : 0 < size)
    (g n kc : Nat) (xs : List Value) (hs : a.eval s = .slice (some ⟨g, 0, none⟩) n kc) (hown : w.ownsRow base e size (.slice (some ⟨g, 0, none⟩) n kc) n xs)
    (R : Nat → Prop) (A : Option Addr) (m c : Nat) (news : List Value) (hx : a.eval x = .slice A m c) (hr : RowIs w R size (.slice A m c) m news) (h1 : ∀ u ∈ news, u.oneCell' = true)
    (h63 : n + m ≤ maxLen) (hbytes : (n + m) * bytes ≤ 140737488355328) (hbase : base ≤ w.heap.size)
    (h : ∀ g' cap w', w'.ownsRow base e size (.slice (some ⟨g', 0, none⟩) (n + m) cap) (n + m) (xs ++ news) → w.grownBy w' (some g) → (g' = g ∨ g' = w.heap.size) → K (a.put o.dst (.slice (some ⟨g', 0, none⟩) (n + m) cap)) w') :
    if Region.wanted o (yielded ops a.tmps) = true then Oper.wp P o a w K Q else E := by
  have hw : Region.wanted o (yielded ops a.tmps) = true := by simp [Region.wanted, hgd]
  rw [if_pos hw]
  obtain ⟨g', cap, w', hrun, h2, h3, h4⟩ := run_append_some (P := P) w base t o.type e i z size bytes ht hi hz hsize hby hzs hsz g n kc xs hown R A m c news hr h1 h63 hbytes hbase
  unfold Oper.wp execOp
  simp only [ho, resolve, invoke, builtin, Sem.run_bind, Sem.run_pure, Result.andThen_ok, List.map_toArray, List.map_cons, List.map_nil, hs, hx, hrun]
  exact h g' cap w' h2 h3 h4
end
/-- What spec.Put, spec.Taken and their like answer: a dictionary as data. -/
def DictSpec (ks : List ByteArray) (l : List V) (w : World) (e : Ending) (w' : World) : Prop := ∃ kv lv, e = .returned (.agg #[.int .i64 7, .int .i64 0, .float .f64 0, .string ⟨#[]⟩, kv, lv]) ∧
  Hid (IsV w' (fun _ => True) (.mk 7 0 0 ⟨#[]⟩ ks l) [.int .i64 7, .int .i64 0, .float .f64 0, .string ⟨#[]⟩, kv, lv]) ∧ Hid (Below w.heap.size w w')

end Go.Proofs.YtjaeihbfkmflkaaDoor.Vals
