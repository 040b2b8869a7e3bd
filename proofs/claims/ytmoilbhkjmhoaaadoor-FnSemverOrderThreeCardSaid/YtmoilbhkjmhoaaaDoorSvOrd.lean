/- Semantic versions, plain: the order of identifiers, one by one, and of lists of them. -/
import Derived.Test.YtmoilbhkjmhoaaaDoorTxt
import Derived.Test.YtmoilbhkjmhoaaaDoorMapM
import Derived.Lib.ParseIntB
namespace Go.Proofs.YtmoilbhkjmhoaaaDoor.Sv
open Go.Proofs.YtmoilbhkjmhoaaaDoor.Txt
set_option linter.unusedVariables false

/-- What strconv.ParseUint says of a text, if it is a number. -/
def num (a : List UInt8) : Option Nat := match Lib.parseUintB 64 a with | .ok u => some u | _ => none
/-- comparePrePart. -/
def cid (a b : List UInt8) : Int :=
  if a = b then 0 else if a = [] then -1 else if b = [] then 1 else
  match num a, num b with
  | none, none => if Op.bytesLess b a then 1 else -1
  | some _, none => -1
  | none, some _ => 1
  | some x, some y => if y < x then 1 else -1
/-- Numbers that are alike are written alike. -/
def Plain (p : List UInt8 → Prop) : Prop := ∀ a b x, p a → p b → num a = some x → num b = some x → a = b
theorem num_nil : num [] = none := by unfold num Lib.parseUintB; rfl
/-- A rank: nothing, numbers, others. -/
def rank (a : List UInt8) : Nat := if a = [] then 0 else match num a with | some _ => 1 | none => 2
/-- Less: by rank, then by number, then by bytes. -/
def Lt (a b : List UInt8) : Prop := rank a < rank b ∨ rank a = rank b ∧ ((∃ x y, num a = some x ∧ num b = some y ∧ x < y) ∨ (num a = none ∧ num b = none ∧ Op.bytesLess a b = true))
theorem Lt.irrefl (a : List UInt8) : ¬ Lt a a := by
  rintro (h | ⟨_, ⟨x, y, h1, h2, h3⟩ | ⟨_, _, h⟩⟩)
  · omega
  · rw [h1] at h2; injection h2; omega
  · rw [Vals.less_irrefl] at h; cases h
theorem Lt.trans {a b c : List UInt8} (h : Lt a b) (k : Lt b c) : Lt a c := by
  rcases h with h | ⟨h0, h⟩
  · rcases k with k | ⟨k0, _⟩
    · exact .inl (by omega)
    · exact .inl (by omega)
  · rcases k with k | ⟨k0, k⟩
    · exact .inl (by omega)
    · refine .inr ⟨by omega, ?_⟩
      rcases h with ⟨x, y, h1, h2, h3⟩ | ⟨h1, h2, h3⟩
      · rcases k with ⟨x', y', k1, k2, k3⟩ | ⟨k1, _, _⟩
        · rw [h2] at k1; injection k1 with k1
          exact .inl ⟨x, y', h1, k2, by omega⟩
        · rw [h2] at k1; cases k1
      · rcases k with ⟨x', y', k1, k2, k3⟩ | ⟨k1, k2, k3⟩
        · rw [h2] at k1; cases k1
        · exact .inr ⟨h1, k2, Vals.less_trans _ _ _ h3 k3⟩
theorem rank_nil : rank [] = 0 := rfl
theorem rank_num {a : List UInt8} {x : Nat} (h : num a = some x) : rank a = 1 := by
  have h0 : a ≠ [] := fun e => by rw [e, num_nil] at h; cases h
  unfold rank; rw [if_neg h0, h]
theorem rank_other {a : List UInt8} (h0 : a ≠ []) (h : num a = none) : rank a = 2 := by unfold rank; rw [if_neg h0, h]
theorem rank_pos {a : List UInt8} (h0 : a ≠ []) : 0 < rank a := by
  cases h : num a with
  | none => rw [rank_other h0 h]; omega
  | some x => rw [rank_num h]; omega
/-- What comparePrePart says, by the order. -/
theorem cid_of {p : List UInt8 → Prop} (hp : Plain p) {a b : List UInt8} (ha : p a) (hb : p b) : (a = b ∧ cid a b = 0) ∨ (Lt a b ∧ cid a b = -1) ∨ (Lt b a ∧ cid a b = 1) := by
  unfold cid
  by_cases e : a = b
  · exact .inl ⟨e, if_pos e⟩
  rw [if_neg e]
  by_cases ea : a = []
  · subst ea
    exact .inr (.inl ⟨.inl (by rw [rank_nil]; exact rank_pos (fun h => e h.symm)), if_pos rfl⟩)
  rw [if_neg ea]
  by_cases eb : b = []
  · subst eb
    exact .inr (.inr ⟨.inl (by rw [rank_nil]; exact rank_pos ea), if_pos rfl⟩)
  rw [if_neg eb]
  cases h1 : num a with
  | none => cases h2 : num b with
    | none =>
      simp only
      cases h3 : Op.bytesLess b a with
      | true => exact .inr (.inr ⟨.inr ⟨by rw [rank_other ea h1, rank_other eb h2], .inr ⟨h2, h1, h3⟩⟩, by simp⟩)
      | false =>
        have h4 : Op.bytesLess a b = true := by
          cases h5 : Op.bytesLess a b with
          | true => rfl
          | false => exact absurd (Vals.less_total _ _ h5 h3) e
        exact .inr (.inl ⟨.inr ⟨by rw [rank_other ea h1, rank_other eb h2], .inr ⟨h1, h2, h4⟩⟩, by simp⟩)
    | some y => exact .inr (.inr ⟨.inl (by rw [rank_other ea h1, rank_num h2]; omega), rfl⟩)
  | some x => cases h2 : num b with
    | none => exact .inr (.inl ⟨.inl (by rw [rank_num h1, rank_other eb h2]; omega), rfl⟩)
    | some y =>
      simp only
      have hxy : x ≠ y := fun h => by subst h; exact e (hp a b x ha hb h1 h2)
      by_cases h3 : y < x
      · exact .inr (.inr ⟨.inr ⟨by rw [rank_num h1, rank_num h2], .inl ⟨y, x, h2, h1, h3⟩⟩, if_pos h3⟩)
      · exact .inr (.inl ⟨.inr ⟨by rw [rank_num h1, rank_num h2], .inl ⟨x, y, h1, h2, by omega⟩⟩, if_neg h3⟩)

/-! ### lists of identifiers -/
/-- comparePrerelease, over the parts: what lacks is empty. -/
def cls : List (List UInt8) → List (List UInt8) → Int
  | [], [] => 0
  | a :: r, [] => if cid a [] ≠ 0 then cid a [] else cls r []
  | [], b :: q => if cid [] b ≠ 0 then cid [] b else cls [] q
  | a :: r, b :: q => if cid a b ≠ 0 then cid a b else cls r q
/-- Lists, one less than the other. -/
def Ls : List (List UInt8) → List (List UInt8) → Prop
  | _, [] => False
  | [], _ :: _ => True
  | a :: r, b :: q => Lt a b ∨ a = b ∧ Ls r q
theorem Ls.irrefl : ∀ l, ¬ Ls l l
  | [], h => h
  | a :: r, h => by
    rcases h with h | ⟨_, h⟩
    · exact Lt.irrefl a h
    · exact Ls.irrefl r h
theorem Ls.trans : ∀ {l m n}, Ls l m → Ls m n → Ls l n
  | _, [], _, h, _ => by cases ‹List (List UInt8)› <;> exact absurd h (by simp [Ls])
  | _, _ :: _, [], _, k => absurd k (by simp [Ls])
  | [], _ :: _, _ :: _, _, _ => trivial
  | a :: r, b :: q, c :: s, h, k => by
    rcases h with h | ⟨rfl, h⟩
    · rcases k with k | ⟨rfl, k⟩
      · exact .inl (h.trans k)
      · exact .inl h
    · rcases k with k | ⟨rfl, k⟩
      · exact .inl k
      · exact .inr ⟨rfl, Ls.trans h k⟩
theorem cls_of {p : List UInt8 → Prop} (hp : Plain p) (h0 : ∀ a, p a → a ≠ []) : ∀ {l m : List (List UInt8)}, (∀ a ∈ l, p a) → (∀ b ∈ m, p b) → (l = m ∧ cls l m = 0) ∨ (Ls l m ∧ cls l m = -1) ∨ (Ls m l ∧ cls l m = 1)
  | [], [], _, _ => .inl ⟨rfl, by simp [cls]⟩
  | a :: r, [], hl, _ => by
    have ha := h0 a (hl a (by simp))
    have e : cid a [] = 1 := by unfold cid; rw [if_neg ha, if_neg ha, if_pos rfl]
    exact .inr (.inr ⟨trivial, by simp only [cls]; rw [e]; rfl⟩)
  | [], b :: q, _, hm => by
    have hb := h0 b (hm b (by simp))
    have e : cid [] b = -1 := by unfold cid; rw [if_neg (fun h => hb h.symm), if_pos rfl]
    exact .inr (.inl ⟨trivial, by simp only [cls]; rw [e]; rfl⟩)
  | a :: r, b :: q, hl, hm => by
    simp only [cls]
    rcases cid_of hp (hl a (by simp)) (hm b (by simp)) with ⟨e, h⟩ | ⟨k, h⟩ | ⟨k, h⟩
    · rw [h]
      subst e
      rw [if_neg (fun h => h rfl)]
      rcases cls_of hp h0 (l := r) (m := q) (fun x hx => hl x (by simp [hx])) (fun x hx => hm x (by simp [hx])) with ⟨e, h⟩ | ⟨k, h⟩ | ⟨k, h⟩
      · exact .inl ⟨by rw [e], h⟩
      · exact .inr (.inl ⟨.inr ⟨rfl, k⟩, h⟩)
      · exact .inr (.inr ⟨.inr ⟨rfl, k⟩, h⟩)
    · rw [h]; exact .inr (.inl ⟨.inl k, rfl⟩)
    · rw [h]; exact .inr (.inr ⟨.inl k, rfl⟩)

/-! ### versions -/
/-- compareSegment. -/
def cseg (a b : Nat) : Int := if a < b then -1 else if b < a then 1 else 0
/-- A version's numbers and the identifiers behind its hyphen. -/
structure Ver where
  major : Nat
  minor : Nat
  patch : Nat
  pre : List (List UInt8)
/-- Compare. -/
def cver (v o : Ver) : Int :=
  if cseg v.major o.major ≠ 0 then cseg v.major o.major else if cseg v.minor o.minor ≠ 0 then cseg v.minor o.minor else if cseg v.patch o.patch ≠ 0 then cseg v.patch o.patch else
  if v.pre = [] ∧ o.pre = [] then 0 else if v.pre = [] then 1 else if o.pre = [] then -1 else cls v.pre o.pre
/-- One version less than another one. -/
def VLt (v o : Ver) : Prop := v.major < o.major ∨ v.major = o.major ∧ (v.minor < o.minor ∨ v.minor = o.minor ∧ (v.patch < o.patch ∨ v.patch = o.patch ∧ ((v.pre ≠ [] ∧ o.pre = []) ∨ (v.pre ≠ [] ∧ o.pre ≠ [] ∧ Ls v.pre o.pre))))
theorem VLt.trans {a b c : Ver} (h : VLt a b) (k : VLt b c) : VLt a c := by
  unfold VLt at *
  rcases h with h | ⟨h1, h | ⟨h2, h | ⟨h3, h⟩⟩⟩ <;> rcases k with k | ⟨k1, k | ⟨k2, k | ⟨k3, k⟩⟩⟩
  all_goals first
    | (left; omega)
    | (right; refine ⟨by omega, ?_⟩; left; omega)
    | (right; refine ⟨by omega, ?_⟩; right; refine ⟨by omega, ?_⟩; left; omega)
    | skip
  refine .inr ⟨by omega, .inr ⟨by omega, .inr ⟨by omega, ?_⟩⟩⟩
  rcases h with ⟨h, h'⟩ | ⟨h, h', h''⟩
  · rcases k with ⟨k, k'⟩ | ⟨k, _⟩
    · exact absurd h' k
    · exact absurd h' k
  · rcases k with ⟨k, k'⟩ | ⟨k, k', k''⟩
    · exact .inl ⟨h, k'⟩
    · exact .inr ⟨h, k', h''.trans k''⟩
theorem VLt.irrefl (a : Ver) : ¬ VLt a a := by
  unfold VLt
  rintro (h | ⟨_, h | ⟨_, h | ⟨_, ⟨h, h'⟩ | ⟨_, _, h⟩⟩⟩⟩)
  · omega
  · omega
  · omega
  · exact h h'
  · exact Ls.irrefl _ h
theorem cver_of {p : List UInt8 → Prop} (hp : Plain p) (h0 : ∀ a, p a → a ≠ []) {v o : Ver} (hv : ∀ a ∈ v.pre, p a) (ho : ∀ a ∈ o.pre, p a) : (v = o ∧ cver v o = 0) ∨ (VLt v o ∧ cver v o = -1) ∨ (VLt o v ∧ cver v o = 1) := by
  have seg : ∀ a b : Nat, (a = b ∧ cseg a b = 0) ∨ (a < b ∧ cseg a b = -1) ∨ (b < a ∧ cseg a b = 1) := fun a b => by
    unfold cseg
    rcases Nat.lt_trichotomy a b with h | h | h
    · exact .inr (.inl ⟨h, if_pos h⟩)
    · exact .inl ⟨h, by rw [if_neg (by omega), if_neg (by omega)]⟩
    · exact .inr (.inr ⟨h, by rw [if_neg (by omega), if_pos h]⟩)
  obtain ⟨a, b, c, l⟩ := v
  obtain ⟨a', b', c', l'⟩ := o
  unfold cver VLt
  simp only at hv ho ⊢
  rcases seg a a' with ⟨e1, h1⟩ | ⟨k, h1⟩ | ⟨k, h1⟩
  · rw [h1]
    rw [if_neg (fun h => h rfl)]
    rcases seg b b' with ⟨e2, h2⟩ | ⟨k, h2⟩ | ⟨k, h2⟩
    · rw [h2]
      rw [if_neg (fun h => h rfl)]
      rcases seg c c' with ⟨e3, h3⟩ | ⟨k, h3⟩ | ⟨k, h3⟩
      · rw [h3]
        rw [if_neg (fun h => h rfl)]
        subst e1 e2 e3
        by_cases hl : l = []
        · by_cases hl' : l' = []
          · exact .inl ⟨by rw [hl, hl'], by rw [if_pos ⟨hl, hl'⟩]⟩
          · exact .inr (.inr ⟨.inr ⟨rfl, .inr ⟨rfl, .inr ⟨rfl, .inl ⟨hl', hl⟩⟩⟩⟩, by rw [if_neg (fun h => hl' h.2), if_pos hl]⟩)
        · by_cases hl' : l' = []
          · exact .inr (.inl ⟨.inr ⟨rfl, .inr ⟨rfl, .inr ⟨rfl, .inl ⟨hl, hl'⟩⟩⟩⟩, by rw [if_neg (fun h => hl h.1), if_neg hl, if_pos hl']⟩)
          · rw [if_neg (fun h => hl h.1), if_neg hl, if_neg hl']
            rcases cls_of hp h0 hv ho with ⟨e, h⟩ | ⟨k, h⟩ | ⟨k, h⟩
            · exact .inl ⟨by rw [e], h⟩
            · exact .inr (.inl ⟨.inr ⟨rfl, .inr ⟨rfl, .inr ⟨rfl, .inr ⟨hl, hl', k⟩⟩⟩⟩, h⟩)
            · exact .inr (.inr ⟨.inr ⟨rfl, .inr ⟨rfl, .inr ⟨rfl, .inr ⟨hl', hl, k⟩⟩⟩⟩, h⟩)
      · rw [h3]; exact .inr (.inl ⟨.inr ⟨e1, .inr ⟨e2, .inl k⟩⟩, rfl⟩)
      · rw [h3]; exact .inr (.inr ⟨.inr ⟨e1.symm, .inr ⟨e2.symm, .inl k⟩⟩, rfl⟩)
    · rw [h2]; exact .inr (.inl ⟨.inr ⟨e1, .inl k⟩, rfl⟩)
    · rw [h2]; exact .inr (.inr ⟨.inr ⟨e1.symm, .inl k⟩, rfl⟩)
  · rw [h1]; exact .inr (.inl ⟨.inl k, rfl⟩)
  · rw [h1]; exact .inr (.inr ⟨.inl k, rfl⟩)
/-- What the law of three versions asks. -/
theorem three {p : List UInt8 → Prop} (hp : Plain p) (h0 : ∀ a, p a → a ≠ []) {a b c : Ver} (ha : ∀ x ∈ a.pre, p x) (hb : ∀ x ∈ b.pre, p x) (hc : ∀ x ∈ c.pre, p x) :
    cver a a = 0 ∧ (0 ≤ cver a b ∨ 0 ≤ cver b c ∨ cver a c < 0) ∧ (cver a b ≤ 0 ∨ cver b c ≤ 0 ∨ 0 < cver a c) ∧ (cver a b ≠ 0 ∨ (decide (cver b c < 0) = decide (cver a c < 0))) := by
  refine ⟨?_, ?_, ?_, ?_⟩
  · rcases cver_of hp h0 ha ha with ⟨_, h⟩ | ⟨k, _⟩ | ⟨k, _⟩
    · exact h
    · exact absurd k (VLt.irrefl _)
    · exact absurd k (VLt.irrefl _)
  · rcases cver_of hp h0 ha hb with ⟨_, h⟩ | ⟨k, h⟩ | ⟨_, h⟩
    · exact .inl (by omega)
    · rcases cver_of hp h0 hb hc with ⟨_, h'⟩ | ⟨k', h'⟩ | ⟨_, h'⟩
      · exact .inr (.inl (by omega))
      · rcases cver_of hp h0 ha hc with ⟨e, _⟩ | ⟨_, h''⟩ | ⟨k'', _⟩
        · rw [e] at k; exact absurd (k.trans k') (VLt.irrefl _)
        · exact .inr (.inr (by omega))
        · exact absurd ((k.trans k').trans k'') (VLt.irrefl _)
      · exact .inr (.inl (by omega))
    · exact .inl (by omega)
  · rcases cver_of hp h0 ha hb with ⟨_, h⟩ | ⟨_, h⟩ | ⟨k, h⟩
    · exact .inl (by omega)
    · exact .inl (by omega)
    · rcases cver_of hp h0 hb hc with ⟨_, h'⟩ | ⟨_, h'⟩ | ⟨k', h'⟩
      · exact .inr (.inl (by omega))
      · exact .inr (.inl (by omega))
      · rcases cver_of hp h0 ha hc with ⟨e, _⟩ | ⟨k'', _⟩ | ⟨_, h''⟩
        · rw [e] at k; exact absurd (k'.trans k) (VLt.irrefl _)
        · exact absurd ((k'.trans k).trans k'') (VLt.irrefl _)
        · exact .inr (.inr (by omega))
  · rcases cver_of hp h0 ha hb with ⟨e, h⟩ | ⟨_, h⟩ | ⟨_, h⟩
    · exact .inr (by rw [e])
    · exact .inl (by omega)
    · exact .inl (by omega)
end Go.Proofs.YtmoilbhkjmhoaaaDoor.Sv
