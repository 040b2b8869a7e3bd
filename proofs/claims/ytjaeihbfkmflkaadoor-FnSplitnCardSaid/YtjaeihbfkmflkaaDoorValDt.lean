/- Walks of sprig's strval (of a text), dict (of texts and values, one behind the other), and of impl.Dict. -/
import Derived.Test.YtjaeihbfkmflkaaDoorVB
namespace Go.Proofs.YtjaeihbfkmflkaaDoor.Vals
open Go.RowKit Go.ChangeMaps Go.Proofs.YtjaeihbfkmflkaaDoorW.PrintWords Go.Proofs.YtjaeihbfkmflkaaDoor.Txt
set_option linter.unusedVariables false
set_option maxRecDepth 20000

/-- The keys and the values of a dictionary into which the first pairs went, one behind the other. -/
def dK (ms : List ByteArray) : Nat → List ByteArray
  | 0 => []
  | i + 1 => putK (dK ms i) (ms.getD i ⟨#[]⟩)
def dL (ms : List ByteArray) (l : List V) : Nat → List V
  | 0 => []
  | i + 1 => putL (dK ms i) (dL ms l i) (ms.getD i ⟨#[]⟩) (l.getD i V.nil)
theorem dLen (ms : List ByteArray) (l : List V) : ∀ i, (dK ms i).length = (dL ms l i).length
  | 0 => rfl
  | i + 1 => put_len (dLen ms l i)
theorem dAsc (ms : List ByteArray) : ∀ i, Asc (dK ms i)
  | 0 => List.Pairwise.nil
  | i + 1 => (dAsc ms i).put _
theorem dLe (ms : List ByteArray) (l : List V) : ∀ i, (dL ms l i).length ≤ i
  | 0 => Nat.le_refl _
  | i + 1 => Nat.le_trans put_le (Nat.succ_le_succ (dLe ms l i))
theorem dK_all {ms : List ByteArray} {p : ByteArray → Prop} (h : ∀ x ∈ ms, p x) : ∀ i, i ≤ ms.length → ∀ x ∈ dK ms i, p x
  | 0, _, x, hx => absurd hx (by simp [dK])
  | i + 1, hi, x, hx => putK_all (p := p) (dK_all h i (by omega)) (by rw [List.getD_eq_getElem?_getD, List.getElem?_eq_getElem (by omega : i < ms.length)]; exact h _ (List.getElem_mem _)) x hx
theorem dL_mem {ms : List ByteArray} {l : List V} {p : V → Prop} (h : ∀ x ∈ l, p x) : ∀ i, i ≤ l.length → ∀ x ∈ dL ms l i, p x
  | 0, _, x, hx => absurd hx (by simp [dL])
  | i + 1, hi, x, hx => putL_mem (p := p) (dL_mem h i (by omega)) (by rw [List.getD_eq_getElem?_getD, List.getElem?_eq_getElem (by omega : i < l.length)]; exact h _ (List.getElem_mem _)) x hx

def textV (s : ByteArray) : V := .mk 5 0 0 s [] []
/-- Texts and values, one behind the other. -/
def pairsV : List ByteArray → List V → List V
  | k :: ks, v :: l => textV k :: v :: pairsV ks l
  | _, _ => []
theorem pairsV_len : ∀ (ms : List ByteArray) (l : List V), ms.length = l.length → (pairsV ms l).length = 2 * l.length
  | [], [], _ => rfl
  | k :: ks, v :: l, h => by simp only [pairsV, List.length_cons, pairsV_len ks l (by simpa using h)]; omega
theorem pairsV_get : ∀ (ms : List ByteArray) (l : List V), ms.length = l.length → ∀ i, i < l.length → (pairsV ms l)[2 * i]? = some (textV (ms.getD i ⟨#[]⟩)) ∧ (pairsV ms l)[2 * i + 1]? = some (l.getD i V.nil)
  | _, [], _, i, hi => absurd hi (by simp)
  | k :: ks, v :: l, h, 0, _ => ⟨rfl, rfl⟩
  | k :: ks, v :: l, h, i + 1, hi => by
    have := pairsV_get ks l (by simpa using h) i (by simpa using hi)
    rw [show 2 * (i + 1) = 2 * i + 1 + 1 by omega]
    simp only [pairsV, List.getElem?_cons_succ, List.getD_cons_succ]
    exact this
theorem pairsV_snoc : ∀ (ms : List ByteArray) (l : List V) (k : ByteArray) (v : V), ms.length = l.length → pairsV (ms ++ [k]) (l ++ [v]) = pairsV ms l ++ [textV k, v]
  | [], [], k, v, _ => rfl
  | a :: ms, b :: l, k, v, h => by simp only [List.cons_append, pairsV, pairsV_snoc ms l k v (by simpa using h)]
theorem pairsV_mem {p : V → Prop} : ∀ (ms : List ByteArray) (l : List V), (∀ k ∈ ms, p (textV k)) → (∀ v ∈ l, p v) → ∀ x ∈ pairsV ms l, p x
  | k :: ks, v :: l, h1, h2, x, hx => by
    simp only [pairsV, List.mem_cons] at hx
    rcases hx with rfl | rfl | hx
    · exact h1 k (by simp)
    · exact h2 x (by simp)
    · exact pairsV_mem ks l (fun k hk => h1 k (by simp [hk])) (fun v hv => h2 v (by simp [hv])) x hx
  | [], _, _, _, x, hx => by simp [pairsV] at hx
  | _ :: _, [], _, _, x, hx => by simp [pairsV] at hx
theorem GoV.text {w : World} {P : Nat → Prop} {s : ByteArray} {x : Value} (h : GoV w P (textV s) x) : x = .iface 9 (.string s) := by
  unfold textV GoV at h
  rcases h with ⟨h, _⟩ | ⟨h, _⟩ | ⟨h, _⟩ | ⟨h, _⟩ | ⟨h, _⟩ | ⟨_, h⟩ | ⟨h, _⟩ | ⟨h, _⟩
  all_goals first | exact h | exact absurd h (by decide)
theorem textV_right {s : ByteArray} (h : s.size ≤ 300) : Right (textV s) 8 := by
  unfold textV Right
  refine ⟨⟨0, 0, s, ⟨by omega, by simp, by simp, by simp⟩, ?_⟩, by decide +kernel, h, fun _ _ => rfl, by simp, by omega, fun _ => rfl, fun h => absurd h (by omega), fun h => absurd h (by omega), by unfold Rights; trivial⟩
  unfold bareB
  have : feq 0 0 = true := by decide +kernel
  simp [this]

def MapNew (ks : List ByteArray) (l : List V) (w : World) (e : Ending) (w' : World) : Prop := ∃ b, e = .returned (.map (some b)) ∧ Hid (MapX w' (fun _ => True) ks l b) ∧ Hid (Below w.heap.size w w')
end Go.Proofs.YtjaeihbfkmflkaaDoor.Vals
