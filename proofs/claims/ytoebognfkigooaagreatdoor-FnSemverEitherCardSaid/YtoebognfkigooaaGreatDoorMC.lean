/- Maps with keys that are texts, by their entries: what storing, looking up, deleting do to the block. And the order of texts. -/
import Derived.Test.YtoebognfkigooaaGreatDoorProg
import Derived.Test.YtoebognfkigooaaGreatDoorTxt
import Derived.WalkKit
import Derived.MapKept
import Derived.ChangeMaps4
import Derived.Below
import Derived.Lib.ParseIntB
import Derived.Test.YtoebognfkigooaaGreatDoorMB
import Derived.Test.YtoebognfkigooaaGreatDoorMA
namespace Go.Proofs.YtoebognfkigooaaGreatDoor.Vals
open Go.RowKit Go.MapKept Go.ChangeMaps Go.Proofs.YtoebognfkigooaaGreatDoor.Txt
set_option linter.unusedVariables false

/-! ### the order of texts -/
theorem less_irrefl : ∀ a : List UInt8, Op.bytesLess a a = false
  | [] => rfl
  | x :: a => by
    simp only [Op.bytesLess, less_irrefl a, Bool.and_false, Bool.or_false]
    exact decide_eq_false (by rw [UInt8.lt_iff_toNat_lt]; omega)
theorem less_trans : ∀ a b c : List UInt8, Op.bytesLess a b = true → Op.bytesLess b c = true → Op.bytesLess a c = true
  | _, [], _, h, _ => by cases ‹List UInt8› <;> simp [Op.bytesLess] at h
  | _, _ :: _, [], _, h => by simp [Op.bytesLess] at h
  | [], _ :: _, _ :: _, _, _ => rfl
  | x :: a, y :: b, z :: c, h, k => by
    simp only [Op.bytesLess, Bool.or_eq_true, Bool.and_eq_true, decide_eq_true_eq, beq_iff_eq] at *
    rcases h with h | ⟨rfl, h⟩
    · rcases k with k | ⟨rfl, k⟩
      · left; rw [UInt8.lt_iff_toNat_lt] at *; omega
      · exact .inl h
    · rcases k with k | ⟨rfl, k⟩
      · exact .inl k
      · exact .inr ⟨rfl, less_trans a b c h k⟩
theorem less_total : ∀ a b : List UInt8, Op.bytesLess a b = false → Op.bytesLess b a = false → a = b
  | [], [], _, _ => rfl
  | [], _ :: _, h, _ => by simp [Op.bytesLess] at h
  | _ :: _, [], _, h => by simp [Op.bytesLess] at h
  | x :: a, y :: b, h, k => by
    simp only [Op.bytesLess, Bool.or_eq_false_iff, Bool.and_eq_false_iff, decide_eq_false_iff_not, beq_eq_false_iff_ne] at *
    obtain ⟨h1, h2⟩ := h
    obtain ⟨k1, k2⟩ := k
    have e : x = y := by
      rw [UInt8.lt_iff_toNat_lt] at h1 k1
      exact UInt8.toNat_inj.1 (by omega)
    subst e
    have h3 : Op.bytesLess a b = false := by rcases h2 with h2 | h2; exact absurd rfl h2; exact h2
    have k3 : Op.bytesLess b a = false := by rcases k2 with k2 | k2; exact absurd rfl k2; exact k2
    rw [less_total a b h3 k3]
/-- Not at most: more. -/
theorem not_leq {a b : List UInt8} (h : (Op.bytesLess a b || a == b) = false) : Op.bytesLess b a = true := by
  simp only [Bool.or_eq_false_iff, beq_eq_false_iff_ne] at h
  cases hb : Op.bytesLess b a with
  | true => rfl
  | false => exact absurd (less_total a b h.1 hb) h.2
theorem less_ne {a b : List UInt8} (h : Op.bytesLess a b = true) : a ≠ b := by
  rintro rfl; rw [less_irrefl] at h; cases h
theorem less_asymm {a b : List UInt8} (h : Op.bytesLess a b = true) : Op.bytesLess b a = false := by
  cases hb : Op.bytesLess b a with
  | false => rfl
  | true => have := less_trans _ _ _ h hb; rw [less_irrefl] at this; cases this
/-- Texts, each more than the one ahead of it. -/
def Asc (ks : List ByteArray) : Prop := ks.Pairwise fun a b => Op.bytesLess a.toList b.toList = true
theorem Asc.nodup {ks : List ByteArray} (h : Asc ks) : ks.Nodup := h.imp fun hh => fun e => less_ne hh (by rw [e])
theorem asc_of_steps : ∀ {ks : List ByteArray}, (∀ i, 0 < i → i < ks.length → (Op.bytesLess (ks.getD i ⟨#[]⟩).toList (ks.getD (i - 1) ⟨#[]⟩).toList || (ks.getD i ⟨#[]⟩).toList == (ks.getD (i - 1) ⟨#[]⟩).toList) = false) → Asc ks
  | [], _ => List.Pairwise.nil
  | [_], _ => List.pairwise_singleton _ _
  | a :: b :: r, h => by
    have ih : Asc (b :: r) := asc_of_steps fun i h0 hl => by
      have := h (i + 1) (by omega) (by simpa using hl)
      obtain ⟨j, rfl⟩ : ∃ j, i = j + 1 := ⟨i - 1, by omega⟩
      simpa using this
    have hab : Op.bytesLess a.toList b.toList = true := not_leq (by simpa using h 1 (by omega) (by simp))
    refine List.Pairwise.cons ?_ ih
    intro x hx
    rcases List.mem_cons.1 hx with rfl | hx
    · exact hab
    · exact less_trans _ _ _ hab ((List.pairwise_cons.1 ih).1 x hx)

/-! ### entries -/
theorem beq_bytes (a b : ByteArray) : (a == b) = decide (a = b) := by
  rw [Bool.eq_iff_iff, decide_eq_true_iff]; exact bytes_beq a b
section
variable {P : Program} {w : World} {mt kt et : TypeId} {b : Nat} {es : Array MapEntry} {clk : Nat}
/-- Keys that are texts. -/
def TextKeys (es : Array MapEntry) : Prop := ∀ e ∈ es.toList, ∃ s, e.key = .string s
theorem TextKeys.isKey (h : TextKeys es) : ∀ e ∈ es.toList, IsKey .string e.key := fun e he => by obtain ⟨s, hs⟩ := h e he; rw [hs]; trivial
theorem run_update_new (hm : P.underlying mt = some (.map kt et)) (hk : P.underlying kt = some .string) (hb : w.heap[b]? = some (.map es clk)) (ht : TextKeys es) (s : ByteArray) (x : Value) (hn : ∀ e ∈ es.toList, e.key ≠ .string s) :
    (Instr.mapUpdate mt (.map (some b)) (.string s) x).run P w = .ok () (setBlock w b (.map (es.push { key := .string s, val := x, born := clk }) (clk + 1))) := by
  have hf : Instr.findNow .string (.string s) es.toList 0 = some none := by
    rcases findNow_spec (d := .string) (k := .string s) trivial es.toList 0 ht.isKey with ⟨h, _⟩ | ⟨j, e, _, hj, he⟩
    · exact h
    · exact absurd he (hn e (List.mem_of_getElem? hj))
  unfold Instr.mapUpdate
  simp only [Sem.run_bind, run_underlying hm, Result.andThen, Go.MapKept.run_getObj_map hb, Go.MapKept.run_checkKey hk (show IsKey .string (.string s) from trivial), Go.MapKept.run_findKey hk hf, Go.MapKept.run_setObj_map _ hb]
  rfl
theorem sameBits_text (n : Nat) (s : ByteArray) : Instr.sameBits n (.string s) (.string s) = true := by
  cases n <;> (unfold Instr.sameBits; rw [beq_bytes]; simp)
theorem run_update_old (hm : P.underlying mt = some (.map kt et)) (hk : P.underlying kt = some .string) (hb : w.heap[b]? = some (.map es clk)) (ht : TextKeys es) (s : ByteArray) (x : Value) {e : MapEntry} (he : e ∈ es.toList) (hs : e.key = .string s) :
    ∃ (j : Nat) (e0 : MapEntry), es.toList[j]? = some e0 ∧ e0.key = .string s ∧ (Instr.mapUpdate mt (.map (some b)) (.string s) x).run P w = .ok () (setBlock w b (.map (es.modify j fun e => { e with key := .string s, val := x }) clk)) := by
  rcases findNow_spec (d := .string) (k := .string s) trivial es.toList 0 ht.isKey with ⟨_, h⟩ | ⟨j, e0, hf, hj, he0⟩
  · exact absurd hs (h e he)
  · refine ⟨j, e0, hj, he0, ?_⟩
    rw [Nat.zero_add] at hf
    have hj' : es[j]? = some e0 := by simpa using hj
    unfold Instr.mapUpdate
    simp only [Sem.run_bind, run_underlying hm, Result.andThen, Go.MapKept.run_getObj_map hb, Go.MapKept.run_checkKey hk (show IsKey .string (.string s) from trivial), Go.MapKept.run_findKey hk hf, hj', Option.map_some, Option.getD_some, he0, Instr.keyThatStays, sameBits_text, if_true, Sem.run_pure, Go.MapKept.run_setObj_map _ hb]
    rfl
theorem run_lookup_no (hm : P.underlying mt = some (.map kt et)) (hk : P.underlying kt = some .string) (hb : w.heap[b]? = some (.map es clk)) (ht : TextKeys es) (s : ByteArray) (hn : ∀ e ∈ es.toList, e.key ≠ .string s) {z : Value} (hz : (zeroValue et).run P w = .ok z w) (ok : Bool) :
    (Instr.lookup mt (.map (some b)) (.string s) ok).run P w = .ok (if ok then .tuple #[z, .bool false] else z) w := by
  have hf : Instr.findNow .string (.string s) es.toList 0 = some none := by
    rcases findNow_spec (d := .string) (k := .string s) trivial es.toList 0 ht.isKey with ⟨h, _⟩ | ⟨j, e, _, hj, he⟩
    · exact h
    · exact absurd he (hn e (List.mem_of_getElem? hj))
  unfold Instr.lookup
  simp only [Sem.run_bind, run_underlying hm, Result.andThen, Go.MapKept.run_getObj_map hb, Sem.run_pure, Go.MapKept.run_checkKey hk (show IsKey .string (.string s) from trivial), Go.MapKept.run_findKey hk hf, hz]
theorem run_lookup_yes (hm : P.underlying mt = some (.map kt et)) (hk : P.underlying kt = some .string) (hb : w.heap[b]? = some (.map es clk)) (ht : TextKeys es) (s : ByteArray) {e : MapEntry} (he : e ∈ es.toList) (hs : e.key = .string s) (hu : (es.toList.map (·.key)).Nodup) (ok : Bool) :
    (Instr.lookup mt (.map (some b)) (.string s) ok).run P w = .ok (if ok then .tuple #[e.val, .bool true] else e.val) w := by
  rcases findNow_spec (d := .string) (k := .string s) trivial es.toList 0 ht.isKey with ⟨_, h⟩ | ⟨j, e0, hf, hj, he0⟩
  · exact absurd hs (h e he)
  · have e1 : e0 = e := by
      obtain ⟨i, hi, rfl⟩ := List.mem_iff_getElem.1 he
      obtain ⟨hj1, hj2⟩ := List.getElem?_eq_some_iff.1 hj
      have hp := List.pairwise_iff_getElem.1 (List.pairwise_map.1 hu)
      have this : j = i := by
        rcases Nat.lt_trichotomy j i with h | h | h
        · exact absurd (by rw [hj2, he0, hs]) (hp j i hj1 hi h)
        · exact h
        · exact absurd (by rw [hj2, he0, hs]) (hp i j hi hj1 h)
      subst this
      exact hj2.symm
    subst e1
    unfold Instr.lookup
    simp only [Sem.run_bind, run_underlying hm, Result.andThen, Go.MapKept.run_getObj_map hb, Sem.run_pure, Go.MapKept.run_checkKey hk (show IsKey .string (.string s) from trivial), Go.MapKept.run_findKey hk hf]
end
theorem setBlock_at {w : World} {b : Nat} {o o' : Obj} (h : w.heap[b]? = some o) : (setBlock w b o').heap[b]? = some o' := (heap_set (o' := o') h).1
theorem setBlock_other {w : World} {b k : Nat} (o' : Obj) (h : k ≠ b) : (setBlock w b o').heap[k]? = w.heap[k]? := by
  unfold setBlock; simp [Ne.symm h]
theorem setBlock_size (w : World) (b : Nat) (o' : Obj) : (setBlock w b o').heap.size = w.heap.size := by unfold setBlock; simp
theorem below_setBlock {B b : Nat} {w w1 : World} (h : Below B w w1) (hb : B ≤ b) (o' : Obj) : Below B w (setBlock w1 b o') :=
  h.trans ⟨rfl, rfl, rfl, by rw [setBlock_size]; exact Nat.le_refl _, fun k hk => setBlock_other o' (by omega)⟩
end Go.Proofs.YtoebognfkigooaaGreatDoor.Vals
namespace Go.Proofs.YtoebognfkigooaaGreatDoor.Sv
open Go.Proofs.YtoebognfkigooaaGreatDoor.Txt
set_option linter.unusedVariables false

/-- What strconv.ParseUint says of a text, if it is a number. -/
def num (a : List UInt8) : Option Nat := match Lib.parseUintB 64 a with | .ok u => some u | _ => none
/-- comparePrePart. -/
def cid (a b : List UInt8) : Int :=
  if a = b then 0 else if a = [] then -1 else if b = [] then 1 else
  match num a, num b with
  | none, none => if Op.bytesLess b a then 1 else -1
  | some _, none => -1
  | none, some _ => 1
  | some x, some y => if y < x then 1 else -1
/-- Numbers that are alike are written alike. -/
def Plain (p : List UInt8 → Prop) : Prop := ∀ a b x, p a → p b → num a = some x → num b = some x → a = b
theorem num_nil : num [] = none := by unfold num Lib.parseUintB; rfl
/-- A rank: nothing, numbers, others. -/
def rank (a : List UInt8) : Nat := if a = [] then 0 else match num a with | some _ => 1 | none => 2
/-- Less: by rank, then by number, then by bytes. -/
def Lt (a b : List UInt8) : Prop := rank a < rank b ∨ rank a = rank b ∧ ((∃ x y, num a = some x ∧ num b = some y ∧ x < y) ∨ (num a = none ∧ num b = none ∧ Op.bytesLess a b = true))
theorem Lt.irrefl (a : List UInt8) : ¬ Lt a a := by
  rintro (h | ⟨_, ⟨x, y, h1, h2, h3⟩ | ⟨_, _, h⟩⟩)
  · omega
  · rw [h1] at h2; injection h2; omega
  · rw [Vals.less_irrefl] at h; cases h
theorem Lt.trans {a b c : List UInt8} (h : Lt a b) (k : Lt b c) : Lt a c := by
  rcases h with h | ⟨h0, h⟩
  · rcases k with k | ⟨k0, _⟩
    · exact .inl (by omega)
    · exact .inl (by omega)
  · rcases k with k | ⟨k0, k⟩
    · exact .inl (by omega)
    · refine .inr ⟨by omega, ?_⟩
      rcases h with ⟨x, y, h1, h2, h3⟩ | ⟨h1, h2, h3⟩
      · rcases k with ⟨x', y', k1, k2, k3⟩ | ⟨k1, _, _⟩
        · rw [h2] at k1; injection k1 with k1
          exact .inl ⟨x, y', h1, k2, by omega⟩
        · rw [h2] at k1; cases k1
      · rcases k with ⟨x', y', k1, k2, k3⟩ | ⟨k1, k2, k3⟩
        · rw [h2] at k1; cases k1
        · exact .inr ⟨h1, k2, Vals.less_trans _ _ _ h3 k3⟩
theorem rank_nil : rank [] = 0 := rfl
theorem rank_num {a : List UInt8} {x : Nat} (h : num a = some x) : rank a = 1 := by
  have h0 : a ≠ [] := fun e => by rw [e, num_nil] at h; cases h
  unfold rank; rw [if_neg h0, h]
theorem rank_other {a : List UInt8} (h0 : a ≠ []) (h : num a = none) : rank a = 2 := by unfold rank; rw [if_neg h0, h]
theorem rank_pos {a : List UInt8} (h0 : a ≠ []) : 0 < rank a := by
  cases h : num a with
  | none => rw [rank_other h0 h]; omega
  | some x => rw [rank_num h]; omega
/-- What comparePrePart says, by the order. -/
theorem cid_of {p : List UInt8 → Prop} (hp : Plain p) {a b : List UInt8} (ha : p a) (hb : p b) : (a = b ∧ cid a b = 0) ∨ (Lt a b ∧ cid a b = -1) ∨ (Lt b a ∧ cid a b = 1) := by
  unfold cid
  by_cases e : a = b
  · exact .inl ⟨e, if_pos e⟩
  rw [if_neg e]
  by_cases ea : a = []
  · subst ea
    exact .inr (.inl ⟨.inl (by rw [rank_nil]; exact rank_pos (fun h => e h.symm)), if_pos rfl⟩)
  rw [if_neg ea]
  by_cases eb : b = []
  · subst eb
    exact .inr (.inr ⟨.inl (by rw [rank_nil]; exact rank_pos ea), if_pos rfl⟩)
  rw [if_neg eb]
  cases h1 : num a with
  | none => cases h2 : num b with
    | none =>
      simp only
      cases h3 : Op.bytesLess b a with
      | true => exact .inr (.inr ⟨.inr ⟨by rw [rank_other ea h1, rank_other eb h2], .inr ⟨h2, h1, h3⟩⟩, by simp⟩)
      | false =>
        have h4 : Op.bytesLess a b = true := by
          cases h5 : Op.bytesLess a b with
          | true => rfl
          | false => exact absurd (Vals.less_total _ _ h5 h3) e
        exact .inr (.inl ⟨.inr ⟨by rw [rank_other ea h1, rank_other eb h2], .inr ⟨h1, h2, h4⟩⟩, by simp⟩)
    | some y => exact .inr (.inr ⟨.inl (by rw [rank_other ea h1, rank_num h2]; omega), rfl⟩)
  | some x => cases h2 : num b with
    | none => exact .inr (.inl ⟨.inl (by rw [rank_num h1, rank_other eb h2]; omega), rfl⟩)
    | some y =>
      simp only
      have hxy : x ≠ y := fun h => by subst h; exact e (hp a b x ha hb h1 h2)
      by_cases h3 : y < x
      · exact .inr (.inr ⟨.inr ⟨by rw [rank_num h1, rank_num h2], .inl ⟨y, x, h2, h1, h3⟩⟩, if_pos h3⟩)
      · exact .inr (.inl ⟨.inr ⟨by rw [rank_num h1, rank_num h2], .inl ⟨x, y, h1, h2, by omega⟩⟩, if_neg h3⟩)

/-! ### lists of identifiers -/
/-- comparePrerelease, over the parts: what lacks is empty. -/
def cls : List (List UInt8) → List (List UInt8) → Int
  | [], [] => 0
  | a :: r, [] => if cid a [] ≠ 0 then cid a [] else cls r []
  | [], b :: q => if cid [] b ≠ 0 then cid [] b else cls [] q
  | a :: r, b :: q => if cid a b ≠ 0 then cid a b else cls r q
/-- Lists, one less than the other. -/
def Ls : List (List UInt8) → List (List UInt8) → Prop
  | _, [] => False
  | [], _ :: _ => True
  | a :: r, b :: q => Lt a b ∨ a = b ∧ Ls r q
theorem Ls.irrefl : ∀ l, ¬ Ls l l
  | [], h => h
  | a :: r, h => by
    rcases h with h | ⟨_, h⟩
    · exact Lt.irrefl a h
    · exact Ls.irrefl r h
theorem Ls.trans : ∀ {l m n}, Ls l m → Ls m n → Ls l n
  | _, [], _, h, _ => by cases ‹List (List UInt8)› <;> exact absurd h (by simp [Ls])
  | _, _ :: _, [], _, k => absurd k (by simp [Ls])
  | [], _ :: _, _ :: _, _, _ => trivial
  | a :: r, b :: q, c :: s, h, k => by
    rcases h with h | ⟨rfl, h⟩
    · rcases k with k | ⟨rfl, k⟩
      · exact .inl (h.trans k)
      · exact .inl h
    · rcases k with k | ⟨rfl, k⟩
      · exact .inl k
      · exact .inr ⟨rfl, Ls.trans h k⟩
theorem cls_of {p : List UInt8 → Prop} (hp : Plain p) (h0 : ∀ a, p a → a ≠ []) : ∀ {l m : List (List UInt8)}, (∀ a ∈ l, p a) → (∀ b ∈ m, p b) → (l = m ∧ cls l m = 0) ∨ (Ls l m ∧ cls l m = -1) ∨ (Ls m l ∧ cls l m = 1)
  | [], [], _, _ => .inl ⟨rfl, by simp [cls]⟩
  | a :: r, [], hl, _ => by
    have ha := h0 a (hl a (by simp))
    have e : cid a [] = 1 := by unfold cid; rw [if_neg ha, if_neg ha, if_pos rfl]
    exact .inr (.inr ⟨trivial, by simp only [cls]; rw [e]; rfl⟩)
  | [], b :: q, _, hm => by
    have hb := h0 b (hm b (by simp))
    have e : cid [] b = -1 := by unfold cid; rw [if_neg (fun h => hb h.symm), if_pos rfl]
    exact .inr (.inl ⟨trivial, by simp only [cls]; rw [e]; rfl⟩)
  | a :: r, b :: q, hl, hm => by
    simp only [cls]
    rcases cid_of hp (hl a (by simp)) (hm b (by simp)) with ⟨e, h⟩ | ⟨k, h⟩ | ⟨k, h⟩
    · rw [h]
      subst e
      rw [if_neg (fun h => h rfl)]
      rcases cls_of hp h0 (l := r) (m := q) (fun x hx => hl x (by simp [hx])) (fun x hx => hm x (by simp [hx])) with ⟨e, h⟩ | ⟨k, h⟩ | ⟨k, h⟩
      · exact .inl ⟨by rw [e], h⟩
      · exact .inr (.inl ⟨.inr ⟨rfl, k⟩, h⟩)
      · exact .inr (.inr ⟨.inr ⟨rfl, k⟩, h⟩)
    · rw [h]; exact .inr (.inl ⟨.inl k, rfl⟩)
    · rw [h]; exact .inr (.inr ⟨.inl k, rfl⟩)

/-! ### versions -/
/-- compareSegment. -/
def cseg (a b : Nat) : Int := if a < b then -1 else if b < a then 1 else 0
/-- A version's numbers and the identifiers behind its hyphen. -/
structure Ver where
  major : Nat
  minor : Nat
  patch : Nat
  pre : List (List UInt8)
/-- Compare. -/
def cver (v o : Ver) : Int :=
  if cseg v.major o.major ≠ 0 then cseg v.major o.major else if cseg v.minor o.minor ≠ 0 then cseg v.minor o.minor else if cseg v.patch o.patch ≠ 0 then cseg v.patch o.patch else
  if v.pre = [] ∧ o.pre = [] then 0 else if v.pre = [] then 1 else if o.pre = [] then -1 else cls v.pre o.pre
/-- One version less than another one. -/
def VLt (v o : Ver) : Prop := v.major < o.major ∨ v.major = o.major ∧ (v.minor < o.minor ∨ v.minor = o.minor ∧ (v.patch < o.patch ∨ v.patch = o.patch ∧ ((v.pre ≠ [] ∧ o.pre = []) ∨ (v.pre ≠ [] ∧ o.pre ≠ [] ∧ Ls v.pre o.pre))))
theorem VLt.trans {a b c : Ver} (h : VLt a b) (k : VLt b c) : VLt a c := by
  unfold VLt at *
  rcases h with h | ⟨h1, h | ⟨h2, h | ⟨h3, h⟩⟩⟩ <;> rcases k with k | ⟨k1, k | ⟨k2, k | ⟨k3, k⟩⟩⟩
  all_goals first
    | (left; omega)
    | (right; refine ⟨by omega, ?_⟩; left; omega)
    | (right; refine ⟨by omega, ?_⟩; right; refine ⟨by omega, ?_⟩; left; omega)
    | skip
  refine .inr ⟨by omega, .inr ⟨by omega, .inr ⟨by omega, ?_⟩⟩⟩
  rcases h with ⟨h, h'⟩ | ⟨h, h', h''⟩
  · rcases k with ⟨k, k'⟩ | ⟨k, _⟩
    · exact absurd h' k
    · exact absurd h' k
  · rcases k with ⟨k, k'⟩ | ⟨k, k', k''⟩
    · exact .inl ⟨h, k'⟩
    · exact .inr ⟨h, k', h''.trans k''⟩
theorem VLt.irrefl (a : Ver) : ¬ VLt a a := by
  unfold VLt
  rintro (h | ⟨_, h | ⟨_, h | ⟨_, ⟨h, h'⟩ | ⟨_, _, h⟩⟩⟩⟩)
  · omega
  · omega
  · omega
  · exact h h'
  · exact Ls.irrefl _ h
theorem cver_of {p : List UInt8 → Prop} (hp : Plain p) (h0 : ∀ a, p a → a ≠ []) {v o : Ver} (hv : ∀ a ∈ v.pre, p a) (ho : ∀ a ∈ o.pre, p a) : (v = o ∧ cver v o = 0) ∨ (VLt v o ∧ cver v o = -1) ∨ (VLt o v ∧ cver v o = 1) := by
  have seg : ∀ a b : Nat, (a = b ∧ cseg a b = 0) ∨ (a < b ∧ cseg a b = -1) ∨ (b < a ∧ cseg a b = 1) := fun a b => by
    unfold cseg
    rcases Nat.lt_trichotomy a b with h | h | h
    · exact .inr (.inl ⟨h, if_pos h⟩)
    · exact .inl ⟨h, by rw [if_neg (by omega), if_neg (by omega)]⟩
    · exact .inr (.inr ⟨h, by rw [if_neg (by omega), if_pos h]⟩)
  obtain ⟨a, b, c, l⟩ := v
  obtain ⟨a', b', c', l'⟩ := o
  unfold cver VLt
  simp only at hv ho ⊢
  rcases seg a a' with ⟨e1, h1⟩ | ⟨k, h1⟩ | ⟨k, h1⟩
  · rw [h1]
    rw [if_neg (fun h => h rfl)]
    rcases seg b b' with ⟨e2, h2⟩ | ⟨k, h2⟩ | ⟨k, h2⟩
    · rw [h2]
      rw [if_neg (fun h => h rfl)]
      rcases seg c c' with ⟨e3, h3⟩ | ⟨k, h3⟩ | ⟨k, h3⟩
      · rw [h3]
        rw [if_neg (fun h => h rfl)]
        subst e1 e2 e3
        by_cases hl : l = []
        · by_cases hl' : l' = []
          · exact .inl ⟨by rw [hl, hl'], by rw [if_pos ⟨hl, hl'⟩]⟩
          · exact .inr (.inr ⟨.inr ⟨rfl, .inr ⟨rfl, .inr ⟨rfl, .inl ⟨hl', hl⟩⟩⟩⟩, by rw [if_neg (fun h => hl' h.2), if_pos hl]⟩)
        · by_cases hl' : l' = []
          · exact .inr (.inl ⟨.inr ⟨rfl, .inr ⟨rfl, .inr ⟨rfl, .inl ⟨hl, hl'⟩⟩⟩⟩, by rw [if_neg (fun h => hl h.1), if_neg hl, if_pos hl']⟩)
          · rw [if_neg (fun h => hl h.1), if_neg hl, if_neg hl']
            rcases cls_of hp h0 hv ho with ⟨e, h⟩ | ⟨k, h⟩ | ⟨k, h⟩
            · exact .inl ⟨by rw [e], h⟩
            · exact .inr (.inl ⟨.inr ⟨rfl, .inr ⟨rfl, .inr ⟨rfl, .inr ⟨hl, hl', k⟩⟩⟩⟩, h⟩)
            · exact .inr (.inr ⟨.inr ⟨rfl, .inr ⟨rfl, .inr ⟨rfl, .inr ⟨hl', hl, k⟩⟩⟩⟩, h⟩)
      · rw [h3]; exact .inr (.inl ⟨.inr ⟨e1, .inr ⟨e2, .inl k⟩⟩, rfl⟩)
      · rw [h3]; exact .inr (.inr ⟨.inr ⟨e1.symm, .inr ⟨e2.symm, .inl k⟩⟩, rfl⟩)
    · rw [h2]; exact .inr (.inl ⟨.inr ⟨e1, .inl k⟩, rfl⟩)
    · rw [h2]; exact .inr (.inr ⟨.inr ⟨e1.symm, .inl k⟩, rfl⟩)
  · rw [h1]; exact .inr (.inl ⟨.inl k, rfl⟩)
  · rw [h1]; exact .inr (.inr ⟨.inl k, rfl⟩)
/-- What the law of three versions asks. -/
theorem three {p : List UInt8 → Prop} (hp : Plain p) (h0 : ∀ a, p a → a ≠ []) {a b c : Ver} (ha : ∀ x ∈ a.pre, p x) (hb : ∀ x ∈ b.pre, p x) (hc : ∀ x ∈ c.pre, p x) :
    cver a a = 0 ∧ (0 ≤ cver a b ∨ 0 ≤ cver b c ∨ cver a c < 0) ∧ (cver a b ≤ 0 ∨ cver b c ≤ 0 ∨ 0 < cver a c) ∧ (cver a b ≠ 0 ∨ (decide (cver b c < 0) = decide (cver a c < 0))) := by
  refine ⟨?_, ?_, ?_, ?_⟩
  · rcases cver_of hp h0 ha ha with ⟨_, h⟩ | ⟨k, _⟩ | ⟨k, _⟩
    · exact h
    · exact absurd k (VLt.irrefl _)
    · exact absurd k (VLt.irrefl _)
  · rcases cver_of hp h0 ha hb with ⟨_, h⟩ | ⟨k, h⟩ | ⟨_, h⟩
    · exact .inl (by omega)
    · rcases cver_of hp h0 hb hc with ⟨_, h'⟩ | ⟨k', h'⟩ | ⟨_, h'⟩
      · exact .inr (.inl (by omega))
      · rcases cver_of hp h0 ha hc with ⟨e, _⟩ | ⟨_, h''⟩ | ⟨k'', _⟩
        · rw [e] at k; exact absurd (k.trans k') (VLt.irrefl _)
        · exact .inr (.inr (by omega))
        · exact absurd ((k.trans k').trans k'') (VLt.irrefl _)
      · exact .inr (.inl (by omega))
    · exact .inl (by omega)
  · rcases cver_of hp h0 ha hb with ⟨_, h⟩ | ⟨_, h⟩ | ⟨k, h⟩
    · exact .inl (by omega)
    · exact .inl (by omega)
    · rcases cver_of hp h0 hb hc with ⟨_, h'⟩ | ⟨_, h'⟩ | ⟨k', h'⟩
      · exact .inr (.inl (by omega))
      · exact .inr (.inl (by omega))
      · rcases cver_of hp h0 ha hc with ⟨e, _⟩ | ⟨k'', _⟩ | ⟨_, h''⟩
        · rw [e] at k; exact absurd (k'.trans k) (VLt.irrefl _)
        · exact absurd ((k'.trans k).trans k'') (VLt.irrefl _)
        · exact .inr (.inr (by omega))
  · rcases cver_of hp h0 ha hb with ⟨e, h⟩ | ⟨_, h⟩ | ⟨_, h⟩
    · exact .inr (by rw [e])
    · exact .inl (by omega)
    · exact .inl (by omega)
end Go.Proofs.YtoebognfkigooaaGreatDoor.Sv
namespace Go.Proofs.YtoebognfkigooaaGreatDoor.Sv
open Go.RowKit Go.Proofs.YtoebognfkigooaaGreatDoor.PFnSemverEither Go.Proofs.YtoebognfkigooaaGreatDoorW.PrintWords Go.Proofs.YtoebognfkigooaaGreatDoor.Txt Go.Proofs.YtoebognfkigooaaGreatDoor Go.Proofs.YtoebognfkigooaaGreatDoor.Vals
set_option linter.unusedVariables false
set_option linter.unusedSimpArgs false
set_option maxRecDepth 20000

theorem seg_calls (a b : Nat) (W : World) : Calls Tryz.prog 91 #[.int .u64 (a : Int), .int .u64 (b : Int)] W fun e w' => e = .returned (.int .i64 (cseg a b)) ∧ Below W.heap.size W w' :=
  (semver_compareSegment.calls _ _ (cseg a b) W (by
    unfold semver_compareSegment.f cseg
    by_cases h1 : a < b
    · rw [if_pos (by omega), if_pos h1]
    · rw [if_neg (by omega), if_neg h1]
      by_cases h2 : b < a
      · rw [if_pos (by omega), if_pos h2]
      · rw [if_neg (by omega), if_neg h2])).mono fun e w' ⟨he, hB⟩ => ⟨he, hB.below⟩
/-- What Compare says: numbers first, then the names. -/
def cmpV (a m p a' m' p' : Nat) (pre pre' : ByteArray) (r : Int) : Int :=
  if cseg a a' ≠ 0 then cseg a a' else if cseg m m' ≠ 0 then cseg m m' else if cseg p p' ≠ 0 then cseg p p' else
  if pre.toList.isEmpty = true ∧ pre'.toList.isEmpty = true then 0 else if pre.toList.isEmpty = true then 1 else if pre'.toList.isEmpty = true then -1 else r

set_option maxHeartbeats 8000000 in
theorem compare_walk (b c : Nat) (a m p a' m' p' : Nat) (pre me og pre' me' og' : ByteArray) (w : World) (hv : VerIs w b a m p pre me og) (hw : VerIs w c a' m' p' pre' me' og') (r : Int)
    (U : pre.toList.isEmpty = false → pre'.toList.isEmpty = false → ∀ W, Below w.heap.size w W → Calls Tryz.prog 85 #[.string pre, .string pre'] W fun e w' => e = .returned (.int .i64 r) ∧ Below W.heap.size W w') :
    Calls Tryz.prog 86 #[.pointer (some ⟨b, 0, none⟩), .pointer (some ⟨c, 0, none⟩)] w fun e w' => e = .returned (.int .i64 (cmpV a m p a' m' p' pre pre' r)) ∧ Below w.heap.size w w' := by
  obtain ⟨R, hR⟩ : ∃ R, R = cmpV a m p a' m' p' pre pre' r := ⟨_, rfl⟩
  rw [← hR]
  unfold cmpV at hR
  have HR0 := Lib.hid hR
  have HU := Lib.hid U
  have HB0 := Lib.hid (Below.refl w.heap.size w)
  clear hR U
  go_enter Tryz.func86, Tryz.ntmps86
  have hb_ := blk_lt hv
  have hc_ := blk_lt hw
  have e0 : ∀ x : Near w.heap.size w, x.W.cell? ⟨b, 0, none⟩ = some (.int .u64 (a : Int)) := fun x => x.cell hb_ (by rw [blk_cell hv]; rfl)
  have f0 : ∀ x : Near w.heap.size w, x.W.cell? ⟨c, 0, none⟩ = some (.int .u64 (a' : Int)) := fun x => x.cell hc_ (by rw [blk_cell hw]; rfl)
  have e1 : ∀ x : Near w.heap.size w, x.W.cell? ⟨b, 1, none⟩ = some (.int .u64 (m : Int)) := fun x => x.cell hb_ (by rw [blk_cell hv]; rfl)
  have f1 : ∀ x : Near w.heap.size w, x.W.cell? ⟨c, 1, none⟩ = some (.int .u64 (m' : Int)) := fun x => x.cell hc_ (by rw [blk_cell hw]; rfl)
  have e2 : ∀ x : Near w.heap.size w, x.W.cell? ⟨b, 2, none⟩ = some (.int .u64 (p : Int)) := fun x => x.cell hb_ (by rw [blk_cell hv]; rfl)
  have f2 : ∀ x : Near w.heap.size w, x.W.cell? ⟨c, 2, none⟩ = some (.int .u64 (p' : Int)) := fun x => x.cell hc_ (by rw [blk_cell hw]; rfl)
  have e3 : ∀ x : Near w.heap.size w, x.W.cell? ⟨b, 3, none⟩ = some (.string pre) := fun x => x.cell hb_ (by rw [blk_cell hv]; rfl)
  have f3 : ∀ x : Near w.heap.size w, x.W.cell? ⟨c, 3, none⟩ = some (.string pre') := fun x => x.cell hc_ (by rw [blk_cell hw]; rfl)
  have e4 : ∀ x : Near w.heap.size w, x.W.cell? ⟨b, 4, none⟩ = some (.string me) := fun x => x.cell hb_ (by rw [blk_cell hv]; rfl)
  have f4 : ∀ x : Near w.heap.size w, x.W.cell? ⟨c, 4, none⟩ = some (.string me') := fun x => x.cell hc_ (by rw [blk_cell hw]; rfl)
  have e5 : ∀ x : Near w.heap.size w, x.W.cell? ⟨b, 5, none⟩ = some (.string og) := fun x => x.cell hb_ (by rw [blk_cell hv]; rfl)
  have f5 : ∀ x : Near w.heap.size w, x.W.cell? ⟨c, 5, none⟩ = some (.string og') := fun x => x.cell hc_ (by rw [blk_cell hw]; rfl)
  have HA : Hid (∀ x : Near w.heap.size w, Calls Tryz.prog 82 #[.agg #[.int .u64 (a : Int), .int .u64 (m : Int), .int .u64 (p : Int), .string pre, .string me, .string og]] x.W fun e w' => e = .returned (.int .u64 (a : Int)) ∧ ∃ y : Near w.heap.size w, w' = y.W) := Lib.hid fun x =>
    (semver_Version_Major.calls _ _ _ _ _ _ _ x.W rfl).mono fun e w' ⟨he, hB⟩ => ⟨he, x.of hB (Nat.le_refl _)⟩
  have HA' : Hid (∀ x : Near w.heap.size w, Calls Tryz.prog 82 #[.agg #[.int .u64 (a' : Int), .int .u64 (m' : Int), .int .u64 (p' : Int), .string pre', .string me', .string og']] x.W fun e w' => e = .returned (.int .u64 (a' : Int)) ∧ ∃ y : Near w.heap.size w, w' = y.W) := Lib.hid fun x =>
    (semver_Version_Major.calls _ _ _ _ _ _ _ x.W rfl).mono fun e w' ⟨he, hB⟩ => ⟨he, x.of hB (Nat.le_refl _)⟩
  have HSG : Hid (∀ x : Near w.heap.size w, Calls Tryz.prog 91 #[.int .u64 (a : Int), .int .u64 (a' : Int)] x.W fun e w' => e = .returned (.int .i64 (cseg a a')) ∧ ∃ y : Near w.heap.size w, w' = y.W) := Lib.hid fun x =>
    (seg_calls a a' x.W).mono fun e w' ⟨he, hB⟩ => ⟨he, x.of hB (Nat.le_refl _)⟩
  obtain ⟨d0, hd_⟩ : ∃ d, d = cseg a a' := ⟨_, rfl⟩
  rw [← hd_] at HSG
  have hr_ := HR0.out
  rw [← hd_] at hr_
  have HQ0 := Lib.hid hr_
  clear hr_ hd_ hb_ hc_
  have HV0 := Lib.hid hv
  have HW0 := Lib.hid hw
  clear hv hw
  go_upto_region 1 with fail
  refine wp_region_near w.heap.size w (by kernel_rfl) (by kernel_rfl) (Below.refl _ _) ?_
  iterate 4 (go_big_quiet_step ((exact HA.out _)))
  iterate 4 (go_big_quiet_step ((exact HA'.out _)))
  repeat (go_big_quiet_step ((exact HSG.out _)))
  refine wpQuiet_nil ?_
  intro w1 hw'
  obtain ⟨x_, hx_⟩ := hw'
  have hW_ : Below w.heap.size w w1 := by rw [hx_]; exact x_.h
  clear hx_ e0 e1 e2 e3 e4 e5 f0 f1 f2 f3 f4 f5 HA HA' HSG
  have HB1 := Lib.hid (HB0.out.trans (hW_.mono HB0.out.size))
  have hv : VerIs w1 b a m p pre me og := (hW_.block _ (blk_lt HV0.out)).trans HV0.out
  have hw : VerIs w1 c a' m' p' pre' me' og' := (hW_.block _ (blk_lt HW0.out)).trans HW0.out
  clear hW_
  by_cases hd_ : d0 = 0
  rotate_left
  · have hr_ := HQ0.out
    rw [if_pos hd_] at hr_
    subst hr_
    clear hv hw
    go_wp2_with fail
    go_ret
    exact ⟨rfl, HB1.out⟩
  have HR1 := Lib.hid (HQ0.out.trans (if_neg (by rw [hd_]; simp)))
  subst hd_
  have hb_ := blk_lt hv
  have hc_ := blk_lt hw
  have e0 : ∀ x : Near w1.heap.size w1, x.W.cell? ⟨b, 0, none⟩ = some (.int .u64 (a : Int)) := fun x => x.cell hb_ (by rw [blk_cell hv]; rfl)
  have f0 : ∀ x : Near w1.heap.size w1, x.W.cell? ⟨c, 0, none⟩ = some (.int .u64 (a' : Int)) := fun x => x.cell hc_ (by rw [blk_cell hw]; rfl)
  have e1 : ∀ x : Near w1.heap.size w1, x.W.cell? ⟨b, 1, none⟩ = some (.int .u64 (m : Int)) := fun x => x.cell hb_ (by rw [blk_cell hv]; rfl)
  have f1 : ∀ x : Near w1.heap.size w1, x.W.cell? ⟨c, 1, none⟩ = some (.int .u64 (m' : Int)) := fun x => x.cell hc_ (by rw [blk_cell hw]; rfl)
  have e2 : ∀ x : Near w1.heap.size w1, x.W.cell? ⟨b, 2, none⟩ = some (.int .u64 (p : Int)) := fun x => x.cell hb_ (by rw [blk_cell hv]; rfl)
  have f2 : ∀ x : Near w1.heap.size w1, x.W.cell? ⟨c, 2, none⟩ = some (.int .u64 (p' : Int)) := fun x => x.cell hc_ (by rw [blk_cell hw]; rfl)
  have e3 : ∀ x : Near w1.heap.size w1, x.W.cell? ⟨b, 3, none⟩ = some (.string pre) := fun x => x.cell hb_ (by rw [blk_cell hv]; rfl)
  have f3 : ∀ x : Near w1.heap.size w1, x.W.cell? ⟨c, 3, none⟩ = some (.string pre') := fun x => x.cell hc_ (by rw [blk_cell hw]; rfl)
  have e4 : ∀ x : Near w1.heap.size w1, x.W.cell? ⟨b, 4, none⟩ = some (.string me) := fun x => x.cell hb_ (by rw [blk_cell hv]; rfl)
  have f4 : ∀ x : Near w1.heap.size w1, x.W.cell? ⟨c, 4, none⟩ = some (.string me') := fun x => x.cell hc_ (by rw [blk_cell hw]; rfl)
  have e5 : ∀ x : Near w1.heap.size w1, x.W.cell? ⟨b, 5, none⟩ = some (.string og) := fun x => x.cell hb_ (by rw [blk_cell hv]; rfl)
  have f5 : ∀ x : Near w1.heap.size w1, x.W.cell? ⟨c, 5, none⟩ = some (.string og') := fun x => x.cell hc_ (by rw [blk_cell hw]; rfl)
  have HA : Hid (∀ x : Near w1.heap.size w1, Calls Tryz.prog 83 #[.agg #[.int .u64 (a : Int), .int .u64 (m : Int), .int .u64 (p : Int), .string pre, .string me, .string og]] x.W fun e w' => e = .returned (.int .u64 (m : Int)) ∧ ∃ y : Near w1.heap.size w1, w' = y.W) := Lib.hid fun x =>
    (semver_Version_Minor.calls _ _ _ _ _ _ _ x.W rfl).mono fun e w' ⟨he, hB⟩ => ⟨he, x.of hB (Nat.le_refl _)⟩
  have HA' : Hid (∀ x : Near w1.heap.size w1, Calls Tryz.prog 83 #[.agg #[.int .u64 (a' : Int), .int .u64 (m' : Int), .int .u64 (p' : Int), .string pre', .string me', .string og']] x.W fun e w' => e = .returned (.int .u64 (m' : Int)) ∧ ∃ y : Near w1.heap.size w1, w' = y.W) := Lib.hid fun x =>
    (semver_Version_Minor.calls _ _ _ _ _ _ _ x.W rfl).mono fun e w' ⟨he, hB⟩ => ⟨he, x.of hB (Nat.le_refl _)⟩
  have HSG : Hid (∀ x : Near w1.heap.size w1, Calls Tryz.prog 91 #[.int .u64 (m : Int), .int .u64 (m' : Int)] x.W fun e w' => e = .returned (.int .i64 (cseg m m')) ∧ ∃ y : Near w1.heap.size w1, w' = y.W) := Lib.hid fun x =>
    (seg_calls m m' x.W).mono fun e w' ⟨he, hB⟩ => ⟨he, x.of hB (Nat.le_refl _)⟩
  obtain ⟨d1, hd_⟩ : ∃ d, d = cseg m m' := ⟨_, rfl⟩
  rw [← hd_] at HSG
  have hr_ := HR1.out
  rw [← hd_] at hr_
  have HQ1 := Lib.hid hr_
  clear hr_ hd_ hb_ hc_
  have HV1 := Lib.hid hv
  have HW1 := Lib.hid hw
  clear hv hw
  go_upto_region 4 with fail
  refine wp_region_near w1.heap.size w1 (by kernel_rfl) (by kernel_rfl) (Below.refl _ _) ?_
  iterate 4 (go_big_quiet_step ((exact HA.out _)))
  iterate 4 (go_big_quiet_step ((exact HA'.out _)))
  repeat (go_big_quiet_step ((exact HSG.out _)))
  refine wpQuiet_nil ?_
  intro w2 hw'
  obtain ⟨x_, hx_⟩ := hw'
  have hW_ : Below w1.heap.size w1 w2 := by rw [hx_]; exact x_.h
  clear hx_ e0 e1 e2 e3 e4 e5 f0 f1 f2 f3 f4 f5 HA HA' HSG
  have HB2 := Lib.hid (HB1.out.trans (hW_.mono HB1.out.size))
  have hv : VerIs w2 b a m p pre me og := (hW_.block _ (blk_lt HV1.out)).trans HV1.out
  have hw : VerIs w2 c a' m' p' pre' me' og' := (hW_.block _ (blk_lt HW1.out)).trans HW1.out
  clear hW_
  by_cases hd_ : d1 = 0
  rotate_left
  · have hr_ := HQ1.out
    rw [if_pos hd_] at hr_
    subst hr_
    clear hv hw
    go_wp2_with fail
    go_ret
    exact ⟨rfl, HB2.out⟩
  have HR2 := Lib.hid (HQ1.out.trans (if_neg (by rw [hd_]; simp)))
  subst hd_
  have hb_ := blk_lt hv
  have hc_ := blk_lt hw
  have e0 : ∀ x : Near w2.heap.size w2, x.W.cell? ⟨b, 0, none⟩ = some (.int .u64 (a : Int)) := fun x => x.cell hb_ (by rw [blk_cell hv]; rfl)
  have f0 : ∀ x : Near w2.heap.size w2, x.W.cell? ⟨c, 0, none⟩ = some (.int .u64 (a' : Int)) := fun x => x.cell hc_ (by rw [blk_cell hw]; rfl)
  have e1 : ∀ x : Near w2.heap.size w2, x.W.cell? ⟨b, 1, none⟩ = some (.int .u64 (m : Int)) := fun x => x.cell hb_ (by rw [blk_cell hv]; rfl)
  have f1 : ∀ x : Near w2.heap.size w2, x.W.cell? ⟨c, 1, none⟩ = some (.int .u64 (m' : Int)) := fun x => x.cell hc_ (by rw [blk_cell hw]; rfl)
  have e2 : ∀ x : Near w2.heap.size w2, x.W.cell? ⟨b, 2, none⟩ = some (.int .u64 (p : Int)) := fun x => x.cell hb_ (by rw [blk_cell hv]; rfl)
  have f2 : ∀ x : Near w2.heap.size w2, x.W.cell? ⟨c, 2, none⟩ = some (.int .u64 (p' : Int)) := fun x => x.cell hc_ (by rw [blk_cell hw]; rfl)
  have e3 : ∀ x : Near w2.heap.size w2, x.W.cell? ⟨b, 3, none⟩ = some (.string pre) := fun x => x.cell hb_ (by rw [blk_cell hv]; rfl)
  have f3 : ∀ x : Near w2.heap.size w2, x.W.cell? ⟨c, 3, none⟩ = some (.string pre') := fun x => x.cell hc_ (by rw [blk_cell hw]; rfl)
  have e4 : ∀ x : Near w2.heap.size w2, x.W.cell? ⟨b, 4, none⟩ = some (.string me) := fun x => x.cell hb_ (by rw [blk_cell hv]; rfl)
  have f4 : ∀ x : Near w2.heap.size w2, x.W.cell? ⟨c, 4, none⟩ = some (.string me') := fun x => x.cell hc_ (by rw [blk_cell hw]; rfl)
  have e5 : ∀ x : Near w2.heap.size w2, x.W.cell? ⟨b, 5, none⟩ = some (.string og) := fun x => x.cell hb_ (by rw [blk_cell hv]; rfl)
  have f5 : ∀ x : Near w2.heap.size w2, x.W.cell? ⟨c, 5, none⟩ = some (.string og') := fun x => x.cell hc_ (by rw [blk_cell hw]; rfl)
  have HA : Hid (∀ x : Near w2.heap.size w2, Calls Tryz.prog 84 #[.agg #[.int .u64 (a : Int), .int .u64 (m : Int), .int .u64 (p : Int), .string pre, .string me, .string og]] x.W fun e w' => e = .returned (.int .u64 (p : Int)) ∧ ∃ y : Near w2.heap.size w2, w' = y.W) := Lib.hid fun x =>
    (semver_Version_Patch.calls _ _ _ _ _ _ _ x.W rfl).mono fun e w' ⟨he, hB⟩ => ⟨he, x.of hB (Nat.le_refl _)⟩
  have HA' : Hid (∀ x : Near w2.heap.size w2, Calls Tryz.prog 84 #[.agg #[.int .u64 (a' : Int), .int .u64 (m' : Int), .int .u64 (p' : Int), .string pre', .string me', .string og']] x.W fun e w' => e = .returned (.int .u64 (p' : Int)) ∧ ∃ y : Near w2.heap.size w2, w' = y.W) := Lib.hid fun x =>
    (semver_Version_Patch.calls _ _ _ _ _ _ _ x.W rfl).mono fun e w' ⟨he, hB⟩ => ⟨he, x.of hB (Nat.le_refl _)⟩
  have HSG : Hid (∀ x : Near w2.heap.size w2, Calls Tryz.prog 91 #[.int .u64 (p : Int), .int .u64 (p' : Int)] x.W fun e w' => e = .returned (.int .i64 (cseg p p')) ∧ ∃ y : Near w2.heap.size w2, w' = y.W) := Lib.hid fun x =>
    (seg_calls p p' x.W).mono fun e w' ⟨he, hB⟩ => ⟨he, x.of hB (Nat.le_refl _)⟩
  obtain ⟨d2, hd_⟩ : ∃ d, d = cseg p p' := ⟨_, rfl⟩
  rw [← hd_] at HSG
  have hr_ := HR2.out
  rw [← hd_] at hr_
  have HQ2 := Lib.hid hr_
  clear hr_ hd_ hb_ hc_
  have HV2 := Lib.hid hv
  have HW2 := Lib.hid hw
  clear hv hw
  go_upto_region 7 with fail
  refine wp_region_near w2.heap.size w2 (by kernel_rfl) (by kernel_rfl) (Below.refl _ _) ?_
  iterate 4 (go_big_quiet_step ((exact HA.out _)))
  iterate 4 (go_big_quiet_step ((exact HA'.out _)))
  repeat (go_big_quiet_step ((exact HSG.out _)))
  refine wpQuiet_nil ?_
  intro w3 hw'
  obtain ⟨x_, hx_⟩ := hw'
  have hW_ : Below w2.heap.size w2 w3 := by rw [hx_]; exact x_.h
  clear hx_ e0 e1 e2 e3 e4 e5 f0 f1 f2 f3 f4 f5 HA HA' HSG
  have HB3 := Lib.hid (HB2.out.trans (hW_.mono HB2.out.size))
  have hv : VerIs w3 b a m p pre me og := (hW_.block _ (blk_lt HV2.out)).trans HV2.out
  have hw : VerIs w3 c a' m' p' pre' me' og' := (hW_.block _ (blk_lt HW2.out)).trans HW2.out
  clear hW_
  by_cases hd_ : d2 = 0
  rotate_left
  · have hr_ := HQ2.out
    rw [if_pos hd_] at hr_
    subst hr_
    clear hv hw
    go_wp2_with fail
    go_ret
    exact ⟨rfl, HB3.out⟩
  have HR3 := Lib.hid (HQ2.out.trans (if_neg (by rw [hd_]; simp)))
  subst hd_
  have g3 : w3.cell? ⟨b, 3, none⟩ = some (.string pre) := by rw [blk_cell hv]; rfl
  have f0 : w3.cell? ⟨c, 0, none⟩ = some (.int .u64 (a' : Int)) := by rw [blk_cell hw]; rfl
  have f1 : w3.cell? ⟨c, 1, none⟩ = some (.int .u64 (m' : Int)) := by rw [blk_cell hw]; rfl
  have f2 : w3.cell? ⟨c, 2, none⟩ = some (.int .u64 (p' : Int)) := by rw [blk_cell hw]; rfl
  have f3 : w3.cell? ⟨c, 3, none⟩ = some (.string pre') := by rw [blk_cell hw]; rfl
  have f4 : w3.cell? ⟨c, 4, none⟩ = some (.string me') := by rw [blk_cell hw]; rfl
  have f5 : w3.cell? ⟨c, 5, none⟩ = some (.string og') := by rw [blk_cell hw]; rfl
  have HP := Lib.hid (semver_Version_Prerelease.calls (a' : Int) (m' : Int) (p' : Int) pre' me' og' pre' w3 rfl)
  clear hv hw
  go_wp2_with fail
  refine HP.out.mono ?_
  rintro e w4 ⟨rfl, hb4⟩
  have HB4 := Lib.hid (HB3.out.trans (hb4.mono HB3.out.size))
  clear hb4 g3 f0 f1 f2 f3 f4 f5
  have hr_ := HR3.out
  cases h1 : pre.toList.isEmpty with
  | true =>
    cases h2 : pre'.toList.isEmpty with
    | true =>
      rw [h1, h2, if_pos ⟨rfl, rfl⟩] at hr_
      subst hr_
      go_wp2_with fail
      go_ret
      exact ⟨rfl, HB4.out⟩
    | false =>
      rw [h1, h2, if_neg (by simp), if_pos rfl] at hr_
      subst hr_
      go_wp2_with fail
      go_ret
      exact ⟨rfl, HB4.out⟩
  | false =>
    cases h2 : pre'.toList.isEmpty with
    | true =>
      rw [h1, h2, if_neg (by simp), if_neg (by simp), if_pos rfl] at hr_
      subst hr_
      go_wp2_with fail
      go_ret
      exact ⟨rfl, HB4.out⟩
    | false =>
      rw [h1, h2, if_neg (by simp), if_neg (by simp), if_neg (by simp)] at hr_
      subst hr_
      have HC := Lib.hid (HU.out h1 h2 w4 HB4.out)
      go_wp2_with fail
      refine HC.out.mono ?_
      rintro e w5 ⟨rfl, hb5⟩
      have HB5 := Lib.hid (HB4.out.trans (hb5.mono HB4.out.size))
      go_wp2_with fail
      go_ret
      exact ⟨rfl, HB5.out⟩
end Go.Proofs.YtoebognfkigooaaGreatDoor.Sv
