/- Maps with keys that are texts, by their entries: what storing, looking up, deleting do to the block. And the order of texts. -/
import Derived.Test.YtmoilbhkjmhoaaaDoorProg
import Derived.Test.YtmoilbhkjmhoaaaDoorTxt
import Derived.WalkKit
import Derived.MapKept
import Derived.ChangeMaps4
import Derived.Below
namespace Go.Proofs.YtmoilbhkjmhoaaaDoor.Vals
open Go.RowKit Go.MapKept Go.ChangeMaps Go.Proofs.YtmoilbhkjmhoaaaDoor.Txt
set_option linter.unusedVariables false

/-! ### the order of texts -/
theorem less_irrefl : ∀ a : List UInt8, Op.bytesLess a a = false
  | [] => rfl
  | x :: a => by
    simp only [Op.bytesLess, less_irrefl a, Bool.and_false, Bool.or_false]
    exact decide_eq_false (by rw [UInt8.lt_iff_toNat_lt]; omega)
theorem less_trans : ∀ a b c : List UInt8, Op.bytesLess a b = true → Op.bytesLess b c = true → Op.bytesLess a c = true
  | _, [], _, h, _ => by cases ‹List UInt8› <;> simp [Op.bytesLess] at h
  | _, _ :: _, [], _, h => by simp [Op.bytesLess] at h
  | [], _ :: _, _ :: _, _, _ => rfl
  | x :: a, y :: b, z :: c, h, k => by
    simp only [Op.bytesLess, Bool.or_eq_true, Bool.and_eq_true, decide_eq_true_eq, beq_iff_eq] at *
    rcases h with h | ⟨rfl, h⟩
    · rcases k with k | ⟨rfl, k⟩
      · left; rw [UInt8.lt_iff_toNat_lt] at *; omega
      · exact .inl h
    · rcases k with k | ⟨rfl, k⟩
      · exact .inl k
      · exact .inr ⟨rfl, less_trans a b c h k⟩
theorem less_total : ∀ a b : List UInt8, Op.bytesLess a b = false → Op.bytesLess b a = false → a = b
  | [], [], _, _ => rfl
  | [], _ :: _, h, _ => by simp [Op.bytesLess] at h
  | _ :: _, [], _, h => by simp [Op.bytesLess] at h
  | x :: a, y :: b, h, k => by
    simp only [Op.bytesLess, Bool.or_eq_false_iff, Bool.and_eq_false_iff, decide_eq_false_iff_not, beq_eq_false_iff_ne] at *
    obtain ⟨h1, h2⟩ := h
    obtain ⟨k1, k2⟩ := k
    have e : x = y := by
      rw [UInt8.lt_iff_toNat_lt] at h1 k1
      exact UInt8.toNat_inj.1 (by omega)
    subst e
    have h3 : Op.bytesLess a b = false := by rcases h2 with h2 | h2; exact absurd rfl h2; exact h2
    have k3 : Op.bytesLess b a = false := by rcases k2 with k2 | k2; exact absurd rfl k2; exact k2
    rw [less_total a b h3 k3]
/-- Not at most: more. -/
theorem not_leq {a b : List UInt8} (h : (Op.bytesLess a b || a == b) = false) : Op.bytesLess b a = true := by
  simp only [Bool.or_eq_false_iff, beq_eq_false_iff_ne] at h
  cases hb : Op.bytesLess b a with
  | true => rfl
  | false => exact absurd (less_total a b h.1 hb) h.2
theorem less_ne {a b : List UInt8} (h : Op.bytesLess a b = true) : a ≠ b := by
  rintro rfl; rw [less_irrefl] at h; cases h
theorem less_asymm {a b : List UInt8} (h : Op.bytesLess a b = true) : Op.bytesLess b a = false := by
  cases hb : Op.bytesLess b a with
  | false => rfl
  | true => have := less_trans _ _ _ h hb; rw [less_irrefl] at this; cases this
/-- Texts, each more than the one ahead of it. -/
def Asc (ks : List ByteArray) : Prop := ks.Pairwise fun a b => Op.bytesLess a.toList b.toList = true
theorem Asc.nodup {ks : List ByteArray} (h : Asc ks) : ks.Nodup := h.imp fun hh => fun e => less_ne hh (by rw [e])
theorem asc_of_steps : ∀ {ks : List ByteArray}, (∀ i, 0 < i → i < ks.length → (Op.bytesLess (ks.getD i ⟨#[]⟩).toList (ks.getD (i - 1) ⟨#[]⟩).toList || (ks.getD i ⟨#[]⟩).toList == (ks.getD (i - 1) ⟨#[]⟩).toList) = false) → Asc ks
  | [], _ => List.Pairwise.nil
  | [_], _ => List.pairwise_singleton _ _
  | a :: b :: r, h => by
    have ih : Asc (b :: r) := asc_of_steps fun i h0 hl => by
      have := h (i + 1) (by omega) (by simpa using hl)
      obtain ⟨j, rfl⟩ : ∃ j, i = j + 1 := ⟨i - 1, by omega⟩
      simpa using this
    have hab : Op.bytesLess a.toList b.toList = true := not_leq (by simpa using h 1 (by omega) (by simp))
    refine List.Pairwise.cons ?_ ih
    intro x hx
    rcases List.mem_cons.1 hx with rfl | hx
    · exact hab
    · exact less_trans _ _ _ hab ((List.pairwise_cons.1 ih).1 x hx)

/-! ### entries -/
theorem beq_bytes (a b : ByteArray) : (a == b) = decide (a = b) := by
  rw [Bool.eq_iff_iff, decide_eq_true_iff]; exact bytes_beq a b
section
variable {P : Program} {w : World} {mt kt et : TypeId} {b : Nat} {es : Array MapEntry} {clk : Nat}
/-- Keys that are texts. -/
def TextKeys (es : Array MapEntry) : Prop := ∀ e ∈ es.toList, ∃ s, e.key = .string s
theorem TextKeys.isKey (h : TextKeys es) : ∀ e ∈ es.toList, IsKey .string e.key := fun e he => by obtain ⟨s, hs⟩ := h e he; rw [hs]; trivial
theorem run_update_new (hm : P.underlying mt = some (.map kt et)) (hk : P.underlying kt = some .string) (hb : w.heap[b]? = some (.map es clk)) (ht : TextKeys es) (s : ByteArray) (x : Value) (hn : ∀ e ∈ es.toList, e.key ≠ .string s) :
    (Instr.mapUpdate mt (.map (some b)) (.string s) x).run P w = .ok () (setBlock w b (.map (es.push { key := .string s, val := x, born := clk }) (clk + 1))) := by
  have hf : Instr.findNow .string (.string s) es.toList 0 = some none := by
    rcases findNow_spec (d := .string) (k := .string s) trivial es.toList 0 ht.isKey with ⟨h, _⟩ | ⟨j, e, _, hj, he⟩
    · exact h
    · exact absurd he (hn e (List.mem_of_getElem? hj))
  unfold Instr.mapUpdate
  simp only [Sem.run_bind, run_underlying hm, Result.andThen, Go.MapKept.run_getObj_map hb, Go.MapKept.run_checkKey hk (show IsKey .string (.string s) from trivial), Go.MapKept.run_findKey hk hf, Go.MapKept.run_setObj_map _ hb]
  rfl
theorem sameBits_text (n : Nat) (s : ByteArray) : Instr.sameBits n (.string s) (.string s) = true := by
  cases n <;> (unfold Instr.sameBits; rw [beq_bytes]; simp)
theorem run_update_old (hm : P.underlying mt = some (.map kt et)) (hk : P.underlying kt = some .string) (hb : w.heap[b]? = some (.map es clk)) (ht : TextKeys es) (s : ByteArray) (x : Value) {e : MapEntry} (he : e ∈ es.toList) (hs : e.key = .string s) :
    ∃ (j : Nat) (e0 : MapEntry), es.toList[j]? = some e0 ∧ e0.key = .string s ∧ (Instr.mapUpdate mt (.map (some b)) (.string s) x).run P w = .ok () (setBlock w b (.map (es.modify j fun e => { e with key := .string s, val := x }) clk)) := by
  rcases findNow_spec (d := .string) (k := .string s) trivial es.toList 0 ht.isKey with ⟨_, h⟩ | ⟨j, e0, hf, hj, he0⟩
  · exact absurd hs (h e he)
  · refine ⟨j, e0, hj, he0, ?_⟩
    rw [Nat.zero_add] at hf
    have hj' : es[j]? = some e0 := by simpa using hj
    unfold Instr.mapUpdate
    simp only [Sem.run_bind, run_underlying hm, Result.andThen, Go.MapKept.run_getObj_map hb, Go.MapKept.run_checkKey hk (show IsKey .string (.string s) from trivial), Go.MapKept.run_findKey hk hf, hj', Option.map_some, Option.getD_some, he0, Instr.keyThatStays, sameBits_text, if_true, Sem.run_pure, Go.MapKept.run_setObj_map _ hb]
    rfl
theorem run_lookup_no (hm : P.underlying mt = some (.map kt et)) (hk : P.underlying kt = some .string) (hb : w.heap[b]? = some (.map es clk)) (ht : TextKeys es) (s : ByteArray) (hn : ∀ e ∈ es.toList, e.key ≠ .string s) {z : Value} (hz : (zeroValue et).run P w = .ok z w) (ok : Bool) :
    (Instr.lookup mt (.map (some b)) (.string s) ok).run P w = .ok (if ok then .tuple #[z, .bool false] else z) w := by
  have hf : Instr.findNow .string (.string s) es.toList 0 = some none := by
    rcases findNow_spec (d := .string) (k := .string s) trivial es.toList 0 ht.isKey with ⟨h, _⟩ | ⟨j, e, _, hj, he⟩
    · exact h
    · exact absurd he (hn e (List.mem_of_getElem? hj))
  unfold Instr.lookup
  simp only [Sem.run_bind, run_underlying hm, Result.andThen, Go.MapKept.run_getObj_map hb, Sem.run_pure, Go.MapKept.run_checkKey hk (show IsKey .string (.string s) from trivial), Go.MapKept.run_findKey hk hf, hz]
theorem run_lookup_yes (hm : P.underlying mt = some (.map kt et)) (hk : P.underlying kt = some .string) (hb : w.heap[b]? = some (.map es clk)) (ht : TextKeys es) (s : ByteArray) {e : MapEntry} (he : e ∈ es.toList) (hs : e.key = .string s) (hu : (es.toList.map (·.key)).Nodup) (ok : Bool) :
    (Instr.lookup mt (.map (some b)) (.string s) ok).run P w = .ok (if ok then .tuple #[e.val, .bool true] else e.val) w := by
  rcases findNow_spec (d := .string) (k := .string s) trivial es.toList 0 ht.isKey with ⟨_, h⟩ | ⟨j, e0, hf, hj, he0⟩
  · exact absurd hs (h e he)
  · have e1 : e0 = e := by
      obtain ⟨i, hi, rfl⟩ := List.mem_iff_getElem.1 he
      obtain ⟨hj1, hj2⟩ := List.getElem?_eq_some_iff.1 hj
      have hp := List.pairwise_iff_getElem.1 (List.pairwise_map.1 hu)
      have this : j = i := by
        rcases Nat.lt_trichotomy j i with h | h | h
        · exact absurd (by rw [hj2, he0, hs]) (hp j i hj1 hi h)
        · exact h
        · exact absurd (by rw [hj2, he0, hs]) (hp i j hi hj1 h)
      subst this
      exact hj2.symm
    subst e1
    unfold Instr.lookup
    simp only [Sem.run_bind, run_underlying hm, Result.andThen, Go.MapKept.run_getObj_map hb, Sem.run_pure, Go.MapKept.run_checkKey hk (show IsKey .string (.string s) from trivial), Go.MapKept.run_findKey hk hf]
end
theorem setBlock_at {w : World} {b : Nat} {o o' : Obj} (h : w.heap[b]? = some o) : (setBlock w b o').heap[b]? = some o' := (heap_set (o' := o') h).1
theorem setBlock_other {w : World} {b k : Nat} (o' : Obj) (h : k ≠ b) : (setBlock w b o').heap[k]? = w.heap[k]? := by
  unfold setBlock; simp [Ne.symm h]
theorem setBlock_size (w : World) (b : Nat) (o' : Obj) : (setBlock w b o').heap.size = w.heap.size := by unfold setBlock; simp
theorem below_setBlock {B b : Nat} {w w1 : World} (h : Below B w w1) (hb : B ≤ b) (o' : Obj) : Below B w (setBlock w1 b o') :=
  h.trans ⟨rfl, rfl, rfl, by rw [setBlock_size]; exact Nat.le_refl _, fun k hk => setBlock_other o' (by omega)⟩
end Go.Proofs.YtmoilbhkjmhoaaaDoor.Vals
