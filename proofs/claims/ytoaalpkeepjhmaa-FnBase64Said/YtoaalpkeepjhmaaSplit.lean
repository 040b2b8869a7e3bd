/- A region that draws its order and whose last operations come last, one behind the other: the head in whatever order, then the rest as it stands. -/
import Derived.StillTail
import Derived.Deep.RegionHeld3
import Derived.Test.YtoaalpkeepjhmaaProg
namespace Go.Proofs.Ytoaalpkeepjhmaa.Split
open Go
set_option linter.unusedVariables false

/-- Q, but where the head has come to its end the rest goes on. -/
def TailQ (P : Program) (ops : Array Oper) (tl : List Oper) (Q : Exit → Act → World → Prop) : Exit → Act → World → Prop
  | .normal, a, w => wpList P ops Q tl a w
  | e, a, w => Q e a w
section
variable {P : Program} {md : Region.Mode} {Q : Exit → Act → World → Prop} {l : List Oper} {n : Nat}
theorem letsOut {ops : Array Oper} {tl : List Oper} (h : LetsOut (TailQ P ops tl Q)) : LetsOut Q := h
theorem upon_tail {ops : Array Oper} {tl : List Oper} {o : Oper} {a : Act} {w : World} {K K' : Act → World → Prop} (hk : ∀ a w, K a w → K' a w) (h : o.wp P a w K (TailQ P ops tl Q)) : o.wp P a w K' Q := by
  unfold Oper.wp at *
  generalize (execOp a.eval o).run P w = r at *
  cases r with
  | ok m w' =>
    cases m <;> simp only [Oper.upon] at h ⊢ <;>
      first
        | exact hk _ _ h
        | exact Calls.mono h (fun e w'' he => by cases e <;> first | exact hk _ _ he | exact he)
        | exact Rows.mono h (fun _ _ he => hk _ _ he)
  | halt x w' => cases x <;> simp only [Oper.upon] at h ⊢ <;> exact h
theorem head_at {i : Nat} (hi : i < n) : (l.take n).toArray[i]? = l.toArray[i]? := by
  simp [hi]
theorem wpOp_head {tl : List Oper} {i : Nat} {a : Act} {w : World} {K K' : Act → World → Prop} (hi : i < n) (hg : ∀ (o : Oper), l.toArray[i]? = some o → o.guard = none) (hk : ∀ a w, K a w → K' a w)
    (h : wpOp P (l.take n).toArray (TailQ P l.toArray tl Q) i K a w) : wpOp P l.toArray Q i K' a w := by
  unfold wpOp at *
  rw [head_at hi] at h
  cases ho : l.toArray[i]? with
  | none => rw [ho] at h; exact hk _ _ h
  | some o =>
    rw [ho] at h
    have hgo := hg o ho
    have e : ∀ y, Region.wanted o y = true := fun y => by simp [Region.wanted, hgo]
    simp only [e, if_true] at h ⊢
    rcases h with h | ⟨h1, h2⟩
    · exact .inl (upon_tail hk h)
    · exact .inr ⟨h1, letsOut h2⟩
theorem wpAny_more {ops : Array Oper} : ∀ (f k : Nat) (listed : Array Bool) (a : Act) (w : World), wpAny P md ops Q f listed a w → wpAny P md ops Q (f + k) listed a w
  | 0, 0, _, _, _, h => h
  | 0, k + 1, listed, a, w, h => by
    rw [Nat.zero_add]
    exact ⟨fun _ => h.2, fun i hi => by rw [h.1] at hi; cases hi⟩
  | f + 1, k, listed, a, w, h => by
    rw [show f + 1 + k = (f + k) + 1 by omega]
    exact ⟨h.1, fun i hi => wpOp_mono (fun a' w' h' => wpAny_more f k _ a' w' h') (h.2 i hi)⟩
/-- What each operation of the head waits for stands ahead of it. -/
def backB (md : Region.Mode) (ops : Array Oper) (n : Nat) : Bool := (List.range n).all fun i => match ops[i]? with | some o => o.after.all fun e => !Region.binds md e || decide (e.on < i) | none => true
def noGuard (ops : Array Oper) : Bool := ops.all fun o => o.guard.isNone
/-- All of the head have come up. -/
def headDone (n g : Nat) : Array Bool := (List.replicate n true ++ List.replicate g false).toArray
def splitB (md : Region.Mode) (ops : Array Oper) (n : Nat) : Bool :=
  decide (n < ops.size) && Region.sinkB md ops n && Region.chainB md ops n && backB md ops n && noGuard ops && Region.seqB md ops (ops.size - n) n (headDone n (ops.size - n))
structure Rel (n : Nat) (listed H : Array Bool) : Prop where
  size : H.size = n
  eq : ∀ j, j < n → listed.getD j false = H.getD j false
theorem Rel.eq' {listed H : Array Bool} (r : Rel n listed H) (hs : n ≤ listed.size) {j : Nat} (hj : j < n) : listed.getD j true = H.getD j true := by
  have h1 : j < H.size := by rw [r.size]; exact hj
  have h2 : j < listed.size := by omega
  have := r.eq j hj
  simp only [Array.getD_eq_getD_getElem?, Array.getElem?_eq_getElem h1, Array.getElem?_eq_getElem h2, Option.getD_some] at this ⊢
  exact this
theorem Rel.set {listed H : Array Bool} (r : Rel n listed H) (hs : n ≤ listed.size) {i : Nat} (hi : i < n) : Rel n (listed.setIfInBounds i true) (H.setIfInBounds i true) := by
  refine ⟨by simp [r.size], fun j hj => ?_⟩
  have h1 : j < H.size := by rw [r.size]; exact hj
  have h2 : j < listed.size := by omega
  have := r.eq j hj
  simp only [Array.getD_eq_getD_getElem?, Array.getElem?_setIfInBounds] at this ⊢
  by_cases hij : i = j
  · subst hij; rw [if_pos rfl, if_pos rfl, if_pos h2, if_pos h1]
  · rw [if_neg hij, if_neg hij]; exact this
theorem back_spec {ops : Array Oper} (h : backB md ops n = true) {i : Nat} (hi : i < n) {o : Oper} (ho : ops[i]? = some o) {e} (he : e ∈ o.after) (hb : Region.binds md e = true) : e.on < i := by
  have h1 := List.all_eq_true.1 h i (List.mem_range.2 hi)
  rw [ho] at h1
  have h2 := Array.all_eq_true'.1 h1 e he
  simp only [hb, Bool.not_true, Bool.false_or, decide_eq_true_eq] at h2
  exact h2
theorem ready_to_head {listed H : Array Bool} (r : Rel n listed H) (hs : n ≤ listed.size) (hb : backB md l.toArray n = true) {i : Nat} (hi : i < n) : i ∈ Region.ready md l.toArray listed ↔ i ∈ Region.ready md (l.take n).toArray H := by
  rw [mem_ready, mem_ready, head_at hi, r.eq' hs hi]
  constructor
  · rintro ⟨h1, o, ho, hall⟩
    exact ⟨h1, o, ho, fun e he hbe => by rw [← r.eq _ (Nat.lt_trans (back_spec hb hi ho he hbe) hi)]; exact hall e he hbe⟩
  · rintro ⟨h1, o, ho, hall⟩
    exact ⟨h1, o, ho, fun e he hbe => by rw [r.eq _ (Nat.lt_trans (back_spec hb hi ho he hbe) hi)]; exact hall e he hbe⟩
/-- While one of the head hasn't come up, one may. -/
theorem some_ready {listed : Array Bool} (hsz : listed.size = l.toArray.size) (hb : backB md l.toArray n = true) (hn : n ≤ l.toArray.size) : ∀ (i : Nat), i < n → listed.getD i true = false → ∃ j, j < n ∧ j ∈ Region.ready md l.toArray listed := by
  intro i
  induction i using Nat.strongRecOn with
  | _ i ih =>
    intro hi hun
    have hil : i < l.toArray.size := by omega
    by_cases hall : ∀ e ∈ (l.toArray[i]'hil).after, Region.binds md e = true → listed.getD e.on false = true
    · exact ⟨i, hi, mem_ready.2 ⟨hun, _, Array.getElem?_eq_getElem hil, hall⟩⟩
    · obtain ⟨e, he⟩ := Classical.not_forall.1 hall
      obtain ⟨hem, he⟩ := Classical.not_imp.1 he
      obtain ⟨hbe, he⟩ := Classical.not_imp.1 he
      have hlt := back_spec hb hi (Array.getElem?_eq_getElem hil) hem hbe
      refine ih e.on hlt (by omega) (getD_in (by rw [hsz]; omega) ?_)
      cases hl : listed.getD e.on false with
      | false => rfl
      | true => exact absurd hl he
theorem all_listed {listed H : Array Bool} (r : Rel n listed H) (inv : HeadInv md l.toArray n listed) (hb : backB md l.toArray n = true) (hn : n < l.toArray.size) (h0 : Region.ready md (l.take n).toArray H = []) :
    listed = headDone n (l.toArray.size - n) := by
  have hs : n ≤ listed.size := by rw [inv.size]; omega
  have hall : ∀ j, j < n → listed.getD j true = true := fun j hj => by
    cases hl : listed.getD j true with
    | true => rfl
    | false =>
      obtain ⟨i, hi, hr⟩ := some_ready inv.size hb (Nat.le_of_lt hn) j hj hl
      rw [ready_to_head r hs hb hi, h0] at hr
      cases hr
  apply Array.ext
  · rw [inv.size]; unfold headDone; simp at hn ⊢; omega
  · intro j h1 h2
    unfold headDone
    by_cases hj : j < n
    · have := hall j hj
      rw [Array.getD_eq_getD_getElem?, Array.getElem?_eq_getElem h1, Option.getD_some] at this
      rw [this]
      simp [List.getElem_append_left, hj]
    · have := inv.tail j (by omega) (by rw [← inv.size]; exact h1)
      rw [Array.getD_eq_getD_getElem?, Array.getElem?_eq_getElem h1, Option.getD_some] at this
      rw [this]
      have hj' : n ≤ j := by omega
      simp [List.getElem_append_right, hj']
theorem wpAny_split (hB : splitB md l.toArray n = true) : ∀ (f : Nat) (listed H : Array Bool) (a : Act) (w : World), HeadInv md l.toArray n listed → Rel n listed H →
    wpAny P md (l.take n).toArray (TailQ P l.toArray (l.drop n) Q) f H a w → wpAny P md l.toArray Q (f + (l.toArray.size - n)) listed a w := by
  simp only [splitB, Bool.and_eq_true, decide_eq_true_eq] at hB
  obtain ⟨⟨⟨⟨⟨hn, hs⟩, hc⟩, hb⟩, hg⟩, hq⟩ := hB
  have hng : ∀ i (o : Oper), l.toArray[i]? = some o → o.guard = none := fun i o ho => by
    have := Array.all_eq_true'.1 hg o (Array.mem_of_getElem? ho)
    simpa using this
  have hdl : (l.drop n).length = l.toArray.size - n := by simp
  have fin : ∀ (listed H : Array Bool) (a : Act) (w : World), HeadInv md l.toArray n listed → Rel n listed H → Region.ready md (l.take n).toArray H = [] → TailQ P l.toArray (l.drop n) Q .normal a w → wpAny P md l.toArray Q (l.toArray.size - n) listed a w := fun listed H a w inv r h0 h => by
    have e := all_listed r inv hb hn h0
    have := wpAny_of_seq (md := md) (P := P) (ops := l.toArray) (Q' := Q) (l.drop n) n listed a w (fun j => by simp [List.getElem?_drop]) (by rw [hdl, e]; exact hq) h
    rwa [hdl] at this
  intro f
  induction f with
  | zero =>
    intro listed H a w inv r h
    rw [Nat.zero_add]
    exact fin listed H a w inv r h.1 h.2
  | succ f ih =>
    intro listed H a w inv r h
    have hsz : n ≤ listed.size := by rw [inv.size]; omega
    by_cases h0 : Region.ready md (l.take n).toArray H = []
    · have := wpAny_more (l.toArray.size - n) (f + 1) listed a w (fin listed H a w inv r h0 (h.1 h0))
      rwa [Nat.add_comm] at this
    · obtain ⟨i0, hi0⟩ := List.exists_mem_of_ne_nil _ h0
      have hi0n : i0 < n := by
        obtain ⟨_, o, ho, _⟩ := mem_ready.1 hi0
        have := (Array.getElem?_eq_some_iff.1 ho).1
        simp at this; omega
      have hr0 := (ready_to_head r hsz hb hi0n).2 hi0
      rw [show f + 1 + (l.toArray.size - n) = (f + (l.toArray.size - n)) + 1 by omega]
      refine ⟨fun hnil => (by rw [hnil] at hr0; cases hr0), fun i hi => ?_⟩
      have hin : i < n := by
        rcases Nat.lt_or_ge i n with hlt | hge
        · exact hlt
        · exact absurd hi (tail_waits hs hc hn inv _ i0 rfl hi0n (mem_ready.1 hr0).1 i hge)
      exact wpOp_head hin (hng i) (fun a' w' h' => ih _ _ a' w' (inv.set hi hin) (r.set hsz hin) h') (h.2 i ((ready_to_head r hsz hb hin).1 hi))
/-- The region: its head under S, then the rest. -/
theorem wp_region_headtail {id : Nat} {S : World → Prop} {a : Act} {w : World} (n : Nat) (hm : P.follows .mixedOrders = true) (hB : splitB .any l.toArray n = true) (hS : S w.drew)
    (h : S w.drew → wpAnyH P .any (l.take n).toArray (TailQ P l.toArray (l.drop n) Q) S n (Array.replicate n false) a w.drew) : (Code.region id l.toArray true).wp P Q a w := by
  have hn : n < l.toArray.size := by
    simp only [splitB, Bool.and_eq_true, decide_eq_true_eq] at hB
    exact hB.1.1.1.1.1
  refine wp_region_any hm ?_
  have inv0 : HeadInv .any l.toArray n (Array.replicate l.toArray.size false) :=
    ⟨by simp, fun j oj _ hl => (by rw [getD_replicate_false] at hl; cases hl), fun t _ ht => getD_in (by simpa using ht) (getD_replicate_false _ _)⟩
  have := wpAny_split (P := P) (Q := Q) hB n (Array.replicate l.toArray.size false) (Array.replicate n false) a w.drew inv0 ⟨by simp, fun j hj => by rw [getD_replicate_false, getD_replicate_false]⟩ (wpAny_of_held _ _ _ _ (h hS))
  rw [show n + (l.toArray.size - n) = l.toArray.size by omega] at this
  exact this
end
end Go.Proofs.Ytoaalpkeepjhmaa.Split
