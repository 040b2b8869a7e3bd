/- Walks of impl.valueOf and impl.valuesOf: a Go value becomes data again. -/
import Derived.Test.YtkikkeegdooenaaGreatDoorValG3
namespace Go.Proofs.YtkikkeegdooenaaGreatDoor.Vals
open Go.RowKit Go.ChangeMaps Go.Proofs.YtkikkeegdooenaaGreatDoorW.PrintWords Go.Proofs.YtkikkeegdooenaaGreatDoor.Txt
set_option linter.unusedVariables false
set_option maxRecDepth 20000

mutual
/-- A value as it comes back: what its kind doesn't speak of is empty. -/
def norm : V → V
  | .mk k n r t ks l => .mk k (if k = 1 then (if n = 1 then 1 else 0) else if k = 2 ∨ k = 3 then n else 0) (if k = 4 then r else 0) (if k = 5 then t else ⟨#[]⟩) (if k = 7 then ks else []) (if k = 6 ∨ k = 7 then norms l else [])
def norms : List V → List V
  | [] => []
  | v :: r => norm v :: norms r
end
theorem norms_len : ∀ l, (norms l).length = l.length
  | [] => rfl
  | v :: r => by rw [norms, List.length_cons, List.length_cons, norms_len r]
theorem norms_get : ∀ (l : List V) (i : Nat) (h : i < l.length) (h' : i < (norms l).length), (norms l)[i] = norm l[i]
  | [], i, h, _ => absurd h (by simp)
  | v :: r, 0, _, _ => rfl
  | v :: r, i + 1, h, h' => norms_get r i (by simpa using h) (by simpa [norms] using h')
theorem norms_take (l : List V) (n : Nat) : norms (l.take n) = (norms l).take n := by
  induction l generalizing n with
  | nil => simp [norms]
  | cons v r ih => cases n with
    | zero => simp [norms]
    | succ n => simp [norms, ih]
theorem norms_snoc (l : List V) (v : V) : norms (l ++ [v]) = norms l ++ [norm v] := by
  induction l with
  | nil => simp [norms]
  | cons u r ih => simp [norms, ih]
mutual
/-- Good for coming back: whole numbers of 64 bits, texts and keys that are not too long, keys that ascend. -/
def Fine : V → Prop
  | .mk k n r t ks l => (0 ≤ k ∧ k ≤ 7) ∧ I64 n ∧ t.size ≤ maxLen ∧ l.length ≤ 100000 ∧ (k = 7 → ks.length = l.length ∧ Asc ks ∧ ∀ x ∈ ks, x.size ≤ maxLen) ∧ Fines l
def Fines : List V → Prop
  | [] => True
  | v :: r => Fine v ∧ Fines r
end
theorem Fines.at_ : ∀ {l : List V}, Fines l → ∀ i (h : i < l.length), Fine l[i]
  | [], _, i, h => absurd h (by simp)
  | v :: r, h, i, hi => by
    unfold Fines at h
    cases i with
    | zero => exact h.1
    | succ i => exact Fines.at_ h.2 i (by simpa using hi)
theorem Fines.mk : ∀ {l : List V}, (∀ i (h : i < l.length), Fine l[i]) → Fines l
  | [], _ => by unfold Fines; trivial
  | v :: r, h => by unfold Fines; exact ⟨h 0 (by simp), Fines.mk fun i hi => h (i + 1) (by simpa using hi)⟩

theorem norm_0 (n : Int) (r : Nat) (t : ByteArray) (ks : List ByteArray) (l : List V) : norm (.mk 0 n r t ks l) = .mk 0 0 0 ⟨#[]⟩ [] [] := by unfold norm; simp
theorem norm_1 (n : Int) (r : Nat) (t : ByteArray) (ks : List ByteArray) (l : List V) : norm (.mk 1 n r t ks l) = .mk 1 (if n = 1 then 1 else 0) 0 ⟨#[]⟩ [] [] := by unfold norm; simp
theorem norm_2 (n : Int) (r : Nat) (t : ByteArray) (ks : List ByteArray) (l : List V) : norm (.mk 2 n r t ks l) = .mk 2 n 0 ⟨#[]⟩ [] [] := by unfold norm; simp
theorem norm_3 (n : Int) (r : Nat) (t : ByteArray) (ks : List ByteArray) (l : List V) : norm (.mk 3 n r t ks l) = .mk 3 n 0 ⟨#[]⟩ [] [] := by unfold norm; simp
theorem norm_4 (n : Int) (r : Nat) (t : ByteArray) (ks : List ByteArray) (l : List V) : norm (.mk 4 n r t ks l) = .mk 4 0 r ⟨#[]⟩ [] [] := by unfold norm; simp
theorem norm_5 (n : Int) (r : Nat) (t : ByteArray) (ks : List ByteArray) (l : List V) : norm (.mk 5 n r t ks l) = .mk 5 0 0 t [] [] := by unfold norm; simp
theorem norm_6 (n : Int) (r : Nat) (t : ByteArray) (ks : List ByteArray) (l : List V) : norm (.mk 6 n r t ks l) = .mk 6 0 0 ⟨#[]⟩ [] (norms l) := by unfold norm; simp
theorem norm_7 (n : Int) (r : Nat) (t : ByteArray) (ks : List ByteArray) (l : List V) : norm (.mk 7 n r t ks l) = .mk 7 0 0 ⟨#[]⟩ ks (norms l) := by unfold norm; simp
/-- Six stores fill a block. -/
theorem set6 {w : World} {b : Nat} {t : TypeId} {c0 c1 c2 c3 c4 c5 : Value} (h : w.heap[b]? = some (.cells #[c0, c1, c2, c3, c4, c5] t (0, 0))) (v0 v1 v2 v3 v4 v5 : Value) {w' : World}
    (hw : w' = (((((w.setCell ⟨b, 0, none⟩ v0).setCell ⟨b, 1, none⟩ v1).setCell ⟨b, 2, none⟩ v2).setCell ⟨b, 3, none⟩ v3).setCell ⟨b, 4, none⟩ v4).setCell ⟨b, 5, none⟩ v5) :
    w'.heap[b]? = some (.cells #[v0, v1, v2, v3, v4, v5] t (0, 0)) ∧ (∀ k, k ≠ b → w'.heap[k]? = w.heap[k]?) ∧ Below b w w' := by
  have h5 := blk_set (blk_set (blk_set (blk_set (blk_set (blk_set h 0 v0) 1 v1) 2 v2) 3 v3) 4 v4) 5 v5
  rw [← hw] at h5
  refine ⟨by simpa using h5, fun k hk => ?_, ?_⟩
  · rw [hw, Below.heap_setCell _ _ _ _ hk, Below.heap_setCell _ _ _ _ hk, Below.heap_setCell _ _ _ _ hk, Below.heap_setCell _ _ _ _ hk, Below.heap_setCell _ _ _ _ hk, Below.heap_setCell _ _ _ _ hk]
  · rw [hw]
    have s : ∀ (W : World) (j : Nat) (v : Value), Below b w W → Below b w (W.setCell ⟨b, j, none⟩ v) := fun W j v h => h.setCell (p := ⟨b, j, none⟩) (Nat.le_refl _) v
    exact s _ _ _ (s _ _ _ (s _ _ _ (s _ _ _ (s _ _ _ (s _ _ _ (Below.refl _ _))))))

def ValRes (v : V) (w : World) (e : Ending) (w' : World) : Prop := ∃ kv lv, e = .returned (.agg #[.int .i64 (norm v).k, .int .i64 (norm v).n, .float .f64 (norm v).r, .string (norm v).t, kv, lv]) ∧
  Hid (IsV w' (fun b => w.heap.size ≤ b) (norm v) [.int .i64 (norm v).k, .int .i64 (norm v).n, .float .f64 (norm v).r, .string (norm v).t, kv, lv]) ∧ Hid (Below w.heap.size w w')
def ValsRes (l : List V) (w : World) (e : Ending) (w' : World) : Prop := ∃ A c ys, e = .returned (.slice A l.length c) ∧
  Hid (RowIs w' (fun b => w.heap.size ≤ b) 6 (.slice A l.length c) l.length ys ∧ IsVs w' (fun b => w.heap.size ≤ b) (norms l) ys) ∧ Hid (Below w.heap.size w w')
def DictRes (ks : List ByteArray) (l : List V) (w : World) (e : Ending) (w' : World) : Prop := ∃ kv lv, e = .returned (.agg #[.int .i64 7, .int .i64 0, .float .f64 0, .string ⟨#[]⟩, kv, lv]) ∧
  Hid (IsV w' (fun b => w.heap.size ≤ b) (.mk 7 0 0 ⟨#[]⟩ ks (norms l)) [.int .i64 7, .int .i64 0, .float .f64 0, .string ⟨#[]⟩, kv, lv]) ∧ Hid (Below w.heap.size w w')
theorem valueInfo : (Tryz.prog.info? 42).map (fun i => (i.zero, i.size, i.bytes)) = some (some (.agg #[.int .i64 0, .int .i64 0, .float .f64 0, .string ⟨#[]⟩, .slice none 0 0, .slice none 0 0]), 6, 88) := by kernel_rfl
theorem news_cells (w : World) (cs : Array Value) (t : TypeId) : ∀ j u, cs.toList[j]? = some u → (w.alloc (.cells cs t)).cell? ((⟨w.heap.size, 0, none⟩ : Addr).add j) = some u := by
  intro j u hj
  rw [add_plain, blk_cell (heap_alloc_new w _)]
  simpa using hj
theorem IsV.one {w : World} {P : Nat → Prop} {v : V} {cs : List Value} (h : IsV w P v cs) : ∀ u ∈ cs, u.oneCell' = true := by
  cases v; unfold IsV at h
  obtain ⟨kv, lv, xs, rfl, _, _, _, _, h6, h7, _⟩ := h
  obtain ⟨A, c, rfl, _⟩ := h6.form
  obtain ⟨A', c', rfl, _⟩ := h7.form
  intro u hu
  simp only [List.mem_cons, List.not_mem_nil, or_false] at hu
  rcases hu with rfl | rfl | rfl | rfl | rfl | rfl <;> rfl
/-- A value without keys and a list. -/
theorem isV_bare (w : World) (P : Nat → Prop) (k n : Int) (r : Nat) (t : ByteArray) (hk : I64 k) (hn : I64 n) (ht : t.size ≤ maxLen) : IsV w P (.mk k n r t [] []) [.int .i64 k, .int .i64 n, .float .f64 r, .string t, .slice none 0 0, .slice none 0 0] := by
  unfold IsV
  exact ⟨_, _, [], rfl, hk, hn, ht, by simp, ⟨none, 0, rfl, by simp, by unfold maxLen; omega, by simp, fun h => absurd h (by simp)⟩, ⟨none, 0, rfl, by simp, by unfold maxLen; omega, by simp, fun h => absurd h (by simp)⟩, by unfold IsVs; rfl⟩
theorem i64_small {n : Int} (h0 : 0 ≤ n) (h1 : n ≤ 7) : I64 n := by unfold I64; omega

end Go.Proofs.YtkikkeegdooenaaGreatDoor.Vals
