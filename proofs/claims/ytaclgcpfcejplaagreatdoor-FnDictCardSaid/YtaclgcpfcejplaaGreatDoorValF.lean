/- Walks of impl.valueOf and impl.valuesOf: a Go value becomes data again. -/
import Derived.Test.YtaclgcpfcejplaaGreatDoorValG3
namespace Go.Proofs.YtaclgcpfcejplaaGreatDoor.Vals
open Go.RowKit Go.ChangeMaps Go.Proofs.YtaclgcpfcejplaaGreatDoorW.PrintWords Go.Proofs.YtaclgcpfcejplaaGreatDoor.Txt
set_option linter.unusedVariables false
set_option maxRecDepth 20000

mutual
/-- A value as it comes back: what its kind doesn't speak of is empty. -/
def norm : V → V
  | .mk k n r t ks l => .mk k (if k = 1 then (if n = 1 then 1 else 0) else if k = 2 ∨ k = 3 then n else 0) (if k = 4 then r else 0) (if k = 5 then t else ⟨#[]⟩) (if k = 7 then ks else []) (if k = 6 ∨ k = 7 then norms l else [])
def norms : List V → List V
  | [] => []
  | v :: r => norm v :: norms r
end
theorem norms_len : ∀ l, (norms l).length = l.length
  | [] => rfl
  | v :: r => by rw [norms, List.length_cons, List.length_cons, norms_len r]
theorem norms_get : ∀ (l : List V) (i : Nat) (h : i < l.length) (h' : i < (norms l).length), (norms l)[i] = norm l[i]
  | [], i, h, _ => absurd h (by simp)
  | v :: r, 0, _, _ => rfl
  | v :: r, i + 1, h, h' => norms_get r i (by simpa using h) (by simpa [norms] using h')
theorem norms_take (l : List V) (n : Nat) : norms (l.take n) = (norms l).take n := by
  induction l generalizing n with
  | nil => simp [norms]
  | cons v r ih => cases n with
    | zero => simp [norms]
    | succ n => simp [norms, ih]
theorem norms_snoc (l : List V) (v : V) : norms (l ++ [v]) = norms l ++ [norm v] := by
  induction l with
  | nil => simp [norms]
  | cons u r ih => simp [norms, ih]
mutual
/-- Good for coming back: whole numbers of 64 bits, texts and keys that are not too long, keys that ascend. -/
def Fine : V → Prop
  | .mk k n r t ks l => (0 ≤ k ∧ k ≤ 7) ∧ I64 n ∧ t.size ≤ maxLen ∧ l.length ≤ 100000 ∧ (k = 7 → ks.length = l.length ∧ Asc ks ∧ ∀ x ∈ ks, x.size ≤ maxLen) ∧ Fines l
def Fines : List V → Prop
  | [] => True
  | v :: r => Fine v ∧ Fines r
end
theorem Fines.at_ : ∀ {l : List V}, Fines l → ∀ i (h : i < l.length), Fine l[i]
  | [], _, i, h => absurd h (by simp)
  | v :: r, h, i, hi => by
    unfold Fines at h
    cases i with
    | zero => exact h.1
    | succ i => exact Fines.at_ h.2 i (by simpa using hi)
theorem Fines.mk : ∀ {l : List V}, (∀ i (h : i < l.length), Fine l[i]) → Fines l
  | [], _ => by unfold Fines; trivial
  | v :: r, h => by unfold Fines; exact ⟨h 0 (by simp), Fines.mk fun i hi => h (i + 1) (by simpa using hi)⟩

theorem norm_0 (n : Int) (r : Nat) (t : ByteArray) (ks : List ByteArray) (l : List V) : norm (.mk 0 n r t ks l) = .mk 0 0 0 ⟨#[]⟩ [] [] := by unfold norm; simp
theorem norm_1 (n : Int) (r : Nat) (t : ByteArray) (ks : List ByteArray) (l : List V) : norm (.mk 1 n r t ks l) = .mk 1 (if n = 1 then 1 else 0) 0 ⟨#[]⟩ [] [] := by unfold norm; simp
theorem norm_2 (n : Int) (r : Nat) (t : ByteArray) (ks : List ByteArray) (l : List V) : norm (.mk 2 n r t ks l) = .mk 2 n 0 ⟨#[]⟩ [] [] := by unfold norm; simp
theorem norm_3 (n : Int) (r : Nat) (t : ByteArray) (ks : List ByteArray) (l : List V) : norm (.mk 3 n r t ks l) = .mk 3 n 0 ⟨#[]⟩ [] [] := by unfold norm; simp
theorem norm_4 (n : Int) (r : Nat) (t : ByteArray) (ks : List ByteArray) (l : List V) : norm (.mk 4 n r t ks l) = .mk 4 0 r ⟨#[]⟩ [] [] := by unfold norm; simp
theorem norm_5 (n : Int) (r : Nat) (t : ByteArray) (ks : List ByteArray) (l : List V) : norm (.mk 5 n r t ks l) = .mk 5 0 0 t [] [] := by unfold norm; simp
theorem norm_6 (n : Int) (r : Nat) (t : ByteArray) (ks : List ByteArray) (l : List V) : norm (.mk 6 n r t ks l) = .mk 6 0 0 ⟨#[]⟩ [] (norms l) := by unfold norm; simp
theorem norm_7 (n : Int) (r : Nat) (t : ByteArray) (ks : List ByteArray) (l : List V) : norm (.mk 7 n r t ks l) = .mk 7 0 0 ⟨#[]⟩ ks (norms l) := by unfold norm; simp
/-- Six stores fill a block. -/
theorem set6 {w : World} {b : Nat} {t : TypeId} {c0 c1 c2 c3 c4 c5 : Value} (h : w.heap[b]? = some (.cells #[c0, c1, c2, c3, c4, c5] t (0, 0))) (v0 v1 v2 v3 v4 v5 : Value) {w' : World}
    (hw : w' = (((((w.setCell ⟨b, 0, none⟩ v0).setCell ⟨b, 1, none⟩ v1).setCell ⟨b, 2, none⟩ v2).setCell ⟨b, 3, none⟩ v3).setCell ⟨b, 4, none⟩ v4).setCell ⟨b, 5, none⟩ v5) :
    w'.heap[b]? = some (.cells #[v0, v1, v2, v3, v4, v5] t (0, 0)) ∧ (∀ k, k ≠ b → w'.heap[k]? = w.heap[k]?) ∧ Below b w w' := by
  have h5 := blk_set (blk_set (blk_set (blk_set (blk_set (blk_set h 0 v0) 1 v1) 2 v2) 3 v3) 4 v4) 5 v5
  rw [← hw] at h5
  refine ⟨by simpa using h5, fun k hk => ?_, ?_⟩
  · rw [hw, Below.heap_setCell _ _ _ _ hk, Below.heap_setCell _ _ _ _ hk, Below.heap_setCell _ _ _ _ hk, Below.heap_setCell _ _ _ _ hk, Below.heap_setCell _ _ _ _ hk, Below.heap_setCell _ _ _ _ hk]
  · rw [hw]
    have s : ∀ (W : World) (j : Nat) (v : Value), Below b w W → Below b w (W.setCell ⟨b, j, none⟩ v) := fun W j v h => h.setCell (p := ⟨b, j, none⟩) (Nat.le_refl _) v
    exact s _ _ _ (s _ _ _ (s _ _ _ (s _ _ _ (s _ _ _ (s _ _ _ (Below.refl _ _))))))

def ValRes (v : V) (w : World) (e : Ending) (w' : World) : Prop := ∃ kv lv, e = .returned (.agg #[.int .i64 (norm v).k, .int .i64 (norm v).n, .float .f64 (norm v).r, .string (norm v).t, kv, lv]) ∧
  Hid (IsV w' (fun b => w.heap.size ≤ b) (norm v) [.int .i64 (norm v).k, .int .i64 (norm v).n, .float .f64 (norm v).r, .string (norm v).t, kv, lv]) ∧ Hid (Below w.heap.size w w')
def ValueOfOk (v : V) : Prop := ∀ (x : Value) (P : Nat → Prop) (w : World), GoV w P v x → Calls Tryz.prog 20 #[x] w (ValRes v w)
def ValsRes (l : List V) (w : World) (e : Ending) (w' : World) : Prop := ∃ A c ys, e = .returned (.slice A l.length c) ∧
  Hid (RowIs w' (fun b => w.heap.size ≤ b) 6 (.slice A l.length c) l.length ys ∧ IsVs w' (fun b => w.heap.size ≤ b) (norms l) ys) ∧ Hid (Below w.heap.size w w')
def DictRes (ks : List ByteArray) (l : List V) (w : World) (e : Ending) (w' : World) : Prop := ∃ kv lv, e = .returned (.agg #[.int .i64 7, .int .i64 0, .float .f64 0, .string ⟨#[]⟩, kv, lv]) ∧
  Hid (IsV w' (fun b => w.heap.size ≤ b) (.mk 7 0 0 ⟨#[]⟩ ks (norms l)) [.int .i64 7, .int .i64 0, .float .f64 0, .string ⟨#[]⟩, kv, lv]) ∧ Hid (Below w.heap.size w w')
/-- dictOf's contract. -/
def DictOfOk (ks : List ByteArray) (l : List V) : Prop := ∀ (b : Nat) (P : Nat → Prop) (w : World), MapIs w P ks l b → Calls Tryz.prog 14 #[.map (some b)] w (DictRes ks l w)

theorem valueInfo : (Tryz.prog.info? 28).map (fun i => (i.zero, i.size, i.bytes)) = some (some (.agg #[.int .i64 0, .int .i64 0, .float .f64 0, .string ⟨#[]⟩, .slice none 0 0, .slice none 0 0]), 6, 88) := by kernel_rfl
theorem news_cells (w : World) (cs : Array Value) (t : TypeId) : ∀ j u, cs.toList[j]? = some u → (w.alloc (.cells cs t)).cell? ((⟨w.heap.size, 0, none⟩ : Addr).add j) = some u := by
  intro j u hj
  rw [add_plain, blk_cell (heap_alloc_new w _)]
  simpa using hj
theorem IsV.one {w : World} {P : Nat → Prop} {v : V} {cs : List Value} (h : IsV w P v cs) : ∀ u ∈ cs, u.oneCell' = true := by
  cases v; unfold IsV at h
  obtain ⟨kv, lv, xs, rfl, _, _, _, _, h6, h7, _⟩ := h
  obtain ⟨A, c, rfl, _⟩ := h6.form
  obtain ⟨A', c', rfl, _⟩ := h7.form
  intro u hu
  simp only [List.mem_cons, List.not_mem_nil, or_false] at hu
  rcases hu with rfl | rfl | rfl | rfl | rfl | rfl <;> rfl
/-- A value without keys and a list. -/
theorem isV_bare (w : World) (P : Nat → Prop) (k n : Int) (r : Nat) (t : ByteArray) (hk : I64 k) (hn : I64 n) (ht : t.size ≤ maxLen) : IsV w P (.mk k n r t [] []) [.int .i64 k, .int .i64 n, .float .f64 r, .string t, .slice none 0 0, .slice none 0 0] := by
  unfold IsV
  exact ⟨_, _, [], rfl, hk, hn, ht, by simp, ⟨none, 0, rfl, by simp, by unfold maxLen; omega, by simp, fun h => absurd h (by simp)⟩, ⟨none, 0, rfl, by simp, by unfold maxLen; omega, by simp, fun h => absurd h (by simp)⟩, by unfold IsVs; rfl⟩
theorem i64_small {n : Int} (h0 : 0 ≤ n) (h1 : n ≤ 7) : I64 n := by unfold I64; omega

set_option maxHeartbeats 4000000 in
theorem valuesOf_step (l : List V) (hok : ∀ i (h : i < l.length), ValueOfOk l[i]) (h300 : l.length ≤ 100000) (A : Option Addr) (c : Nat) (xs : List Value) (P : Nat → Prop) (w : World)
    (hl : RowIs w P 1 (.slice A l.length c) l.length xs) (hv : GoVs w P l xs) :
    Calls Tryz.prog 24 #[.slice A l.length c] w (ValsRes l w) := by
  obtain ⟨i0, hi0, hz0, hz1, hz2⟩ := info_parts valueInfo
  have hel : ∀ i (hi : i < l.length), ∃ b o x, A = some ⟨b, o, none⟩ ∧ b < w.heap.size ∧ GoV w P l[i] x ∧ w.cell? ⟨b, o + i, none⟩ = some x := fun i hi => by
    obtain ⟨b, o, hA, _, hc⟩ := hl.elem (by omega)
    obtain ⟨x, hx, hg⟩ := hv.at_ i hi
    have := hc i x hx
    exact ⟨b, o, x, hA, World.block_lt_of_cell? w _ this, hg, this⟩
  have HEL := Lib.hid hel
  have HOK := Lib.hid hok
  obtain ⟨hnc, hcm⟩ := hl.sizes
  unfold maxLen at hcm
  clear hok hl hv hel
  obtain ⟨n, hn⟩ : ∃ n, n = l.length := ⟨_, rfl⟩
  rw [← hn] at h300 hnc ⊢
  have HN := Lib.hid hn
  clear hn
  obtain ⟨B, hB⟩ : ∃ B, B = w.heap.size := ⟨_, rfl⟩
  have HB := Lib.hid hB
  clear hB
  go_enter Tryz.func24, Tryz.ntmps24
  go_wp2_with fail
  go_loopg [3, 8] n (fun kq v3 v8 wr => ∃ (i : Nat) (G : Option Addr) (cap : Nat) (ys : List Value), v3 = .slice G i cap ∧ v8 = .int .i64 (i : Int) ∧ i + kq = n ∧
    Hid (wr.ownsRow B 28 6 (.slice G i cap) i ys) ∧ Hid (IsVs wr (fun b => B ≤ b ∧ G.map (·.block) ≠ some b) (norms (l.take i)) ys) ∧ Hid (Below B w wr))
  case atStart => exact ⟨0, none, 0, [], rfl, rfl, by omega, Lib.hid (World.ownsRow_nil _ _ _ _), Lib.hid (by simp only [List.take_zero, norms]; unfold IsVs; rfl), Lib.hid (Below.refl _ _)⟩
  case round =>
    obtain ⟨i, G, cap, ys, rfl, rfl, hik, H1, H2, H3⟩ := hrel
    cases gk with
    | zero =>
      have hi : ¬ i < n := by omega
      have HIN := Lib.hid hik
      clear hik
      go_wp2_with fail
      go_ret
      have hin : i = l.length := by have := HN.out; have := HIN.out; omega
      refine ⟨G, cap, ys, by rw [hin]; rfl, Lib.hid ⟨?_, ?_⟩, by rw [← HB.out]; exact H3⟩
      · have h := RowIs.of_own (P := fun b => w.heap.size ≤ b) H1.out (fun b hb => by have := (H1.out.lt b hb).1; rw [HB.out] at this; exact this)
        rw [← hin]; exact h
      · have h := H2.out
        rw [hin, List.take_length] at h
        exact IsVs.keep (Kept.mono (fun b hb _ => by rw [← HB.out]; exact hb.1)) _ h
    | succ m =>
      have hi : i < n := by omega
      have hi' : i < l.length := by have := HN.out; omega
      obtain ⟨eb, eo, x, hA', hebs, hX, e0⟩ := HEL.out i hi'
      subst hA'
      have hok := HOK.out i hi'
      obtain ⟨u, hu⟩ : ∃ u, u = l[i] := ⟨_, rfl⟩
      rw [← hu] at hX hok
      have g0 : wr.cell? ⟨eb, eo + i, none⟩ = some x := (H3.out.cell (p := ⟨eb, eo + i, none⟩) (by rw [HB.out]; exact hebs)).trans e0
      have HCALL : Hid (Calls Tryz.prog 20 #[x] wr (ValRes u wr)) := Lib.hid (hok x P wr (GoV.keep (Kept.below (by rw [← HB.out]; exact H3.out)) u hX))
      have HU := Lib.hid hu
      have HIK := Lib.hid hik
      clear e0 hX hu hik hok
      go_wp2_with fail
      refine (HCALL.out).mono ?_
      rintro e w1 ⟨kv, lv, rfl, HX, HB1⟩
      have hone := HX.out.one
      have HONE := Lib.hid hone
      obtain ⟨Ak, ck, rfl⟩ : ∃ A c, kv = .slice A (norm u).ks.length c := by obtain ⟨_, h, _⟩ := HX.out.parts; obtain ⟨A, c, h, _⟩ := h.form; exact ⟨A, c, h⟩
      obtain ⟨Al, cl, rfl⟩ : ∃ A c, lv = .slice A (norm u).l.length c := by obtain ⟨_, _, h, _⟩ := HX.out.parts; obtain ⟨A, c, h, _⟩ := h.form; exact ⟨A, c, h⟩
      clear hone
      have HOWN : Hid (w1.ownsRow B 28 6 (.slice G i cap) i ys) := Lib.hid (H1.out.kept (grown_of_below HB1.out none) (by cases G <;> simp [Value.ownBlock]))
      have hs1 := HB1.out.size
      have hs0 := H3.out.size
      have HS1 := Lib.hid (And.intro hs1 hs0)
      have hc5 : B ≤ (w1.alloc (.cells #[.int .i64 (norm u).k, .int .i64 (norm u).n, .float .f64 (norm u).r, .string (norm u).t, .slice Ak (norm u).ks.length ck, .slice Al (norm u).l.length cl] 28)).heap.size := by have := HB.out; simp; omega
      have HC5 := Lib.hid hc5
      clear hs1 hs0 hc5
      go_wp2_with (at_builtin; refine wpList_append_lies _ rfl _ _ 23 rfl B 28 i0 _ 6 88 Tryz.underlying23 hi0 hz0 hz1 hz2 rfl (by decide) (.slice G i cap) i ys rfl (HOWN.out.alloc _) ⟨w1.heap.size, 0, none⟩ 1 1 [.int .i64 (norm u).k, .int .i64 (norm u).n, .float .f64 (norm u).r, .string (norm u).t, .slice Ak (norm u).ks.length ck, .slice Al (norm u).l.length cl] rfl rfl (news_cells _ _ _) HONE.out (by decide) (by unfold maxLen; omega) (by omega) HC5.out _ rfl ?_; intro g' cap' w2 hown2 hgrow hat hlt; refine Hid.out ?_)
      refine Lib.hid ?_
      have HO2 := Lib.hid hown2
      have HG2 := Lib.hid hgrow
      have HAT := Lib.hid hat
      clear hown2 hgrow hat hlt
      go_wp2_with fail
      go_roundg m
      case measure => exact Nat.lt_succ_self m
      case rel =>
        have hob : (Value.slice G i cap).ownBlock = G.map (·.block) := by cases G <;> rfl
        have hat : G.map (·.block) = some g' ∨ g' = w1.heap.size + 1 := by
          rcases HAT.out with h | h
          · exact .inl (by rw [← hob]; exact h)
          · exact .inr (by rw [h]; simp)
        have hg1 : ∀ g, G.map (·.block) = some g → g < wr.heap.size := fun g hg => (H1.out.lt g (by rw [hob]; exact hg)).2
        have hgB : ∀ g, G.map (·.block) = some g → B ≤ g := fun g hg => (H1.out.lt g (by rw [hob]; exact hg)).1
        obtain ⟨q3, q4⟩ := HS1.out
        have hne : ∀ b, b < w1.heap.size + 1 → G.map (·.block) ≠ some b → b ≠ g' := fun b hb h e => by
          rcases hat with h' | h'
          · exact h (by rw [h', e])
          · omega
        have k2 : Kept wr w2 (fun b => B ≤ b ∧ G.map (·.block) ≠ some b) (fun b => B ≤ b ∧ (some (⟨g', 0, none⟩ : Addr)).map (·.block) ≠ some b) := fun b ⟨hb1, hb2⟩ hb3 => by
          refine ⟨⟨hb1, fun e => hne b (by omega) hb2 (by simpa using e.symm)⟩, ?_⟩
          rw [HG2.out.block b (by simp; omega) (by rw [hob]; exact Ne.symm hb2), Below.heap_alloc _ _ _ (by omega), HB1.out.block b (by omega)]
        have k3 : Kept w1 w2 (fun b => wr.heap.size ≤ b) (fun b => B ≤ b ∧ (some (⟨g', 0, none⟩ : Addr)).map (·.block) ≠ some b) := fun b hb1 hb3 => by
          have := HB.out
          have hb1' : wr.heap.size ≤ b := hb1
          have hG : G.map (·.block) ≠ some b := fun e => by have := hg1 b e; omega
          refine ⟨⟨by omega, fun e => hne b (by omega) hG (by simpa using e.symm)⟩, ?_⟩
          rw [HG2.out.block b (by simp; omega) (by rw [hob]; exact Ne.symm hG), Below.heap_alloc _ _ _ hb3]
        refine ⟨i + 1, some ⟨g', 0, none⟩, cap', ys ++ [.int .i64 (norm u).k, .int .i64 (norm u).n, .float .f64 (norm u).r, .string (norm u).t, .slice Ak (norm u).ks.length ck, .slice Al (norm u).l.length cl], rfl, by simp, by have := HIK.out; omega, HO2, Lib.hid ?_, Lib.hid ?_⟩
        · rw [List.take_add_one, List.getElem?_eq_getElem hi', ← HU.out]
          simp only [Option.toList]
          rw [norms_snoc]
          exact IsVs.snoc (IsVs.keep k2 _ H2.out) (IsV.keep k3 _ HX.out)
        · have := HB.out
          exact ((H3.out.trans (HB1.out.mono (by omega))).alloc (by omega) _).grown HG2.out (by simp; omega) (fun k hk => hgB k (by rw [← hob]; exact hk))

set_option maxHeartbeats 4000000 in
theorem valueOf_step (v : V) (hf : Fine v) (hlist : v.k = 6 → ∀ (A : Option Addr) (c : Nat) (xs : List Value) (P : Nat → Prop) (w : World), RowIs w P 1 (.slice A v.l.length c) v.l.length xs → GoVs w P v.l xs → Calls Tryz.prog 24 #[.slice A v.l.length c] w (ValsRes v.l w))
    (hdict : v.k = 7 → DictOfOk v.ks v.l) : ValueOfOk v := by
  intro x P w h
  have hsf := store_float
  obtain ⟨k, n, r, t, ks, l⟩ := v
  simp only [V.k, V.ks, V.l] at hlist hdict
  have hI : I64 n := by unfold Fine at hf; exact hf.2.1
  have hT : t.size ≤ maxLen := by unfold Fine at hf; exact hf.2.2.1
  have hKS : k = 7 → ∀ x ∈ ks, x.size ≤ maxLen := by unfold Fine at hf; exact fun h7 => (hf.2.2.2.2.1 h7).2.2
  have HL := Lib.hid hlist
  have HD := Lib.hid hdict
  have HW : Hid (∀ o, Below w.heap.size w (w.alloc o)) := Lib.hid fun o => (Below.refl _ _).alloc (Nat.le_refl _) o
  clear hlist hdict
  have hg := h
  unfold GoV at h
  rcases h with ⟨rfl, rfl⟩ | ⟨rfl, rfl⟩ | ⟨rfl, rfl⟩ | ⟨rfl, rfl⟩ | ⟨rfl, rfl⟩ | ⟨rfl, rfl⟩ | ⟨rfl, a, c, xs, rfl, hrow, hgo⟩ | ⟨rfl, b, es, clk, xs, rfl, hm1, hm2, hm3, hm4, hm5, hm6, hm7, hm8⟩
  · clear hg
    go_enter Tryz.func20, Tryz.ntmps20
    go_wp2_with fail
    refine bodyPost_ret (v := .agg #[.int .i64 0, .int .i64 0, .float .f64 0, .string ⟨#[]⟩, .slice none 0 0, .slice none 0 0]) (by simp [results, Tryz.results20, go_sem]) rfl ?_
    refine ⟨.slice none 0 0, .slice none 0 0, by rw [norm_0]; rfl, Lib.hid ?_, Lib.hid (HW.out _)⟩
    rw [norm_0]
    exact isV_bare _ _ _ _ _ _ (i64_small (by omega) (by omega)) (i64_small (by omega) (by omega)) (by show 0 ≤ maxLen; omega)
  · clear hg
    by_cases h1 : n = 1
    · obtain ⟨bn, hbn⟩ : ∃ bn, bn = (n == 1) := ⟨_, rfl⟩
      obtain rfl : bn = true := by rw [hbn]; simpa using h1
      rw [← hbn]
      have HBN := Lib.hid h1
      clear hbn h1
      have ta0 : ∀ w, (Instr.typeAssert (.iface 4 (.bool true)) 20 4 true).run Tryz.prog w = .ok (.tuple #[.bool true, .bool true]) w := fun w => by kernel_rfl
      have ta1 : ∀ w, (Instr.typeAssert (.iface 4 (.bool true)) 20 3 true).run Tryz.prog w = .ok (.tuple #[.int .i64 0, .bool false]) w := fun w => by kernel_rfl
      have ta2 : ∀ w, (Instr.typeAssert (.iface 4 (.bool true)) 20 2 true).run Tryz.prog w = .ok (.tuple #[.int .i64 0, .bool false]) w := fun w => by kernel_rfl
      have ta3 : ∀ w, (Instr.typeAssert (.iface 4 (.bool true)) 20 26 true).run Tryz.prog w = .ok (.tuple #[.float .f64 0, .bool false]) w := fun w => by kernel_rfl
      have ta4 : ∀ w, (Instr.typeAssert (.iface 4 (.bool true)) 20 9 true).run Tryz.prog w = .ok (.tuple #[.string ⟨#[]⟩, .bool false]) w := fun w => by kernel_rfl
      have ta5 : ∀ w, (Instr.typeAssert (.iface 4 (.bool true)) 20 39 true).run Tryz.prog w = .ok (.tuple #[.slice none 0 0, .bool false]) w := fun w => by kernel_rfl
      have ta6 : ∀ w, (Instr.typeAssert (.iface 4 (.bool true)) 20 43 true).run Tryz.prog w = .ok (.tuple #[.map none, .bool false]) w := fun w => by kernel_rfl
      have hne : ∀ w, (binOp .eql 20 (.iface 4 (.bool true)) .nilIface).run Tryz.prog w = .ok (.bool false) w := fun w => by kernel_rfl
      go_enter Tryz.func20, Tryz.ntmps20
      go_wp2_with fail
      refine bodyPost_ret (v := .agg #[.int .i64 1, .int .i64 1, .float .f64 0, .string ⟨#[]⟩, .slice none 0 0, .slice none 0 0]) (by simp [results, Tryz.results20, go_sem]) rfl ?_
      refine ⟨.slice none 0 0, .slice none 0 0, by rw [norm_1]; simp [V.k, V.n, V.r, V.t, HBN.out], Lib.hid ?_, Lib.hid (HW.out _)⟩
      rw [norm_1, if_pos HBN.out]
      exact isV_bare _ _ _ _ _ _ (i64_small (by omega) (by omega)) (i64_small (by omega) (by omega)) (by show 0 ≤ maxLen; omega)
    · obtain ⟨bn, hbn⟩ : ∃ bn, bn = (n == 1) := ⟨_, rfl⟩
      obtain rfl : bn = false := by rw [hbn]; simpa using h1
      rw [← hbn]
      have HBN := Lib.hid h1
      clear hbn h1
      have ta0 : ∀ w, (Instr.typeAssert (.iface 4 (.bool false)) 20 4 true).run Tryz.prog w = .ok (.tuple #[.bool false, .bool true]) w := fun w => by kernel_rfl
      have ta1 : ∀ w, (Instr.typeAssert (.iface 4 (.bool false)) 20 3 true).run Tryz.prog w = .ok (.tuple #[.int .i64 0, .bool false]) w := fun w => by kernel_rfl
      have ta2 : ∀ w, (Instr.typeAssert (.iface 4 (.bool false)) 20 2 true).run Tryz.prog w = .ok (.tuple #[.int .i64 0, .bool false]) w := fun w => by kernel_rfl
      have ta3 : ∀ w, (Instr.typeAssert (.iface 4 (.bool false)) 20 26 true).run Tryz.prog w = .ok (.tuple #[.float .f64 0, .bool false]) w := fun w => by kernel_rfl
      have ta4 : ∀ w, (Instr.typeAssert (.iface 4 (.bool false)) 20 9 true).run Tryz.prog w = .ok (.tuple #[.string ⟨#[]⟩, .bool false]) w := fun w => by kernel_rfl
      have ta5 : ∀ w, (Instr.typeAssert (.iface 4 (.bool false)) 20 39 true).run Tryz.prog w = .ok (.tuple #[.slice none 0 0, .bool false]) w := fun w => by kernel_rfl
      have ta6 : ∀ w, (Instr.typeAssert (.iface 4 (.bool false)) 20 43 true).run Tryz.prog w = .ok (.tuple #[.map none, .bool false]) w := fun w => by kernel_rfl
      have hne : ∀ w, (binOp .eql 20 (.iface 4 (.bool false)) .nilIface).run Tryz.prog w = .ok (.bool false) w := fun w => by kernel_rfl
      go_enter Tryz.func20, Tryz.ntmps20
      go_wp2_with fail
      refine bodyPost_ret (v := .agg #[.int .i64 1, .int .i64 0, .float .f64 0, .string ⟨#[]⟩, .slice none 0 0, .slice none 0 0]) (by simp [results, Tryz.results20, go_sem]) rfl ?_
      refine ⟨.slice none 0 0, .slice none 0 0, by rw [norm_1]; simp [V.k, V.n, V.r, V.t, HBN.out], Lib.hid ?_, Lib.hid (HW.out _)⟩
      rw [norm_1, if_neg HBN.out]
      exact isV_bare _ _ _ _ _ _ (i64_small (by omega) (by omega)) (i64_small (by omega) (by omega)) (by show 0 ≤ maxLen; omega)
  · clear hg
    have ta0 : ∀ w, (Instr.typeAssert (.iface 3 (.int .i64 n)) 20 4 true).run Tryz.prog w = .ok (.tuple #[.bool false, .bool false]) w := fun w => by kernel_rfl
    have ta1 : ∀ w, (Instr.typeAssert (.iface 3 (.int .i64 n)) 20 3 true).run Tryz.prog w = .ok (.tuple #[.int .i64 n, .bool true]) w := fun w => by kernel_rfl
    have ta2 : ∀ w, (Instr.typeAssert (.iface 3 (.int .i64 n)) 20 2 true).run Tryz.prog w = .ok (.tuple #[.int .i64 0, .bool false]) w := fun w => by kernel_rfl
    have ta3 : ∀ w, (Instr.typeAssert (.iface 3 (.int .i64 n)) 20 26 true).run Tryz.prog w = .ok (.tuple #[.float .f64 0, .bool false]) w := fun w => by kernel_rfl
    have ta4 : ∀ w, (Instr.typeAssert (.iface 3 (.int .i64 n)) 20 9 true).run Tryz.prog w = .ok (.tuple #[.string ⟨#[]⟩, .bool false]) w := fun w => by kernel_rfl
    have ta5 : ∀ w, (Instr.typeAssert (.iface 3 (.int .i64 n)) 20 39 true).run Tryz.prog w = .ok (.tuple #[.slice none 0 0, .bool false]) w := fun w => by kernel_rfl
    have ta6 : ∀ w, (Instr.typeAssert (.iface 3 (.int .i64 n)) 20 43 true).run Tryz.prog w = .ok (.tuple #[.map none, .bool false]) w := fun w => by kernel_rfl
    have hne : ∀ w, (binOp .eql 20 (.iface 3 (.int .i64 n)) .nilIface).run Tryz.prog w = .ok (.bool false) w := fun w => by kernel_rfl
    go_enter Tryz.func20, Tryz.ntmps20
    go_wp2_with fail
    refine bodyPost_ret (v := .agg #[.int .i64 2, .int .i64 n, .float .f64 0, .string ⟨#[]⟩, .slice none 0 0, .slice none 0 0]) (by simp [results, Tryz.results20, go_sem]) rfl ?_
    refine ⟨.slice none 0 0, .slice none 0 0, by rw [norm_2]; rfl, Lib.hid ?_, Lib.hid (HW.out _)⟩
    rw [norm_2]
    exact isV_bare _ _ _ _ _ _ (i64_small (by omega) (by omega)) hI (by show 0 ≤ maxLen; omega)
  · clear hg
    have ta0 : ∀ w, (Instr.typeAssert (.iface 2 (.int .i64 n)) 20 4 true).run Tryz.prog w = .ok (.tuple #[.bool false, .bool false]) w := fun w => by kernel_rfl
    have ta1 : ∀ w, (Instr.typeAssert (.iface 2 (.int .i64 n)) 20 3 true).run Tryz.prog w = .ok (.tuple #[.int .i64 0, .bool false]) w := fun w => by kernel_rfl
    have ta2 : ∀ w, (Instr.typeAssert (.iface 2 (.int .i64 n)) 20 2 true).run Tryz.prog w = .ok (.tuple #[.int .i64 n, .bool true]) w := fun w => by kernel_rfl
    have ta3 : ∀ w, (Instr.typeAssert (.iface 2 (.int .i64 n)) 20 26 true).run Tryz.prog w = .ok (.tuple #[.float .f64 0, .bool false]) w := fun w => by kernel_rfl
    have ta4 : ∀ w, (Instr.typeAssert (.iface 2 (.int .i64 n)) 20 9 true).run Tryz.prog w = .ok (.tuple #[.string ⟨#[]⟩, .bool false]) w := fun w => by kernel_rfl
    have ta5 : ∀ w, (Instr.typeAssert (.iface 2 (.int .i64 n)) 20 39 true).run Tryz.prog w = .ok (.tuple #[.slice none 0 0, .bool false]) w := fun w => by kernel_rfl
    have ta6 : ∀ w, (Instr.typeAssert (.iface 2 (.int .i64 n)) 20 43 true).run Tryz.prog w = .ok (.tuple #[.map none, .bool false]) w := fun w => by kernel_rfl
    have hne : ∀ w, (binOp .eql 20 (.iface 2 (.int .i64 n)) .nilIface).run Tryz.prog w = .ok (.bool false) w := fun w => by kernel_rfl
    go_enter Tryz.func20, Tryz.ntmps20
    go_wp2_with fail
    refine bodyPost_ret (v := .agg #[.int .i64 3, .int .i64 n, .float .f64 0, .string ⟨#[]⟩, .slice none 0 0, .slice none 0 0]) (by simp [results, Tryz.results20, go_sem]) rfl ?_
    refine ⟨.slice none 0 0, .slice none 0 0, by rw [norm_3]; rfl, Lib.hid ?_, Lib.hid (HW.out _)⟩
    rw [norm_3]
    exact isV_bare _ _ _ _ _ _ (i64_small (by omega) (by omega)) hI (by show 0 ≤ maxLen; omega)
  · clear hg
    have ta0 : ∀ w, (Instr.typeAssert (.iface 26 (.float .f64 r)) 20 4 true).run Tryz.prog w = .ok (.tuple #[.bool false, .bool false]) w := fun w => by kernel_rfl
    have ta1 : ∀ w, (Instr.typeAssert (.iface 26 (.float .f64 r)) 20 3 true).run Tryz.prog w = .ok (.tuple #[.int .i64 0, .bool false]) w := fun w => by kernel_rfl
    have ta2 : ∀ w, (Instr.typeAssert (.iface 26 (.float .f64 r)) 20 2 true).run Tryz.prog w = .ok (.tuple #[.int .i64 0, .bool false]) w := fun w => by kernel_rfl
    have ta3 : ∀ w, (Instr.typeAssert (.iface 26 (.float .f64 r)) 20 26 true).run Tryz.prog w = .ok (.tuple #[.float .f64 r, .bool true]) w := fun w => by kernel_rfl
    have ta4 : ∀ w, (Instr.typeAssert (.iface 26 (.float .f64 r)) 20 9 true).run Tryz.prog w = .ok (.tuple #[.string ⟨#[]⟩, .bool false]) w := fun w => by kernel_rfl
    have ta5 : ∀ w, (Instr.typeAssert (.iface 26 (.float .f64 r)) 20 39 true).run Tryz.prog w = .ok (.tuple #[.slice none 0 0, .bool false]) w := fun w => by kernel_rfl
    have ta6 : ∀ w, (Instr.typeAssert (.iface 26 (.float .f64 r)) 20 43 true).run Tryz.prog w = .ok (.tuple #[.map none, .bool false]) w := fun w => by kernel_rfl
    have hne : ∀ w, (binOp .eql 20 (.iface 26 (.float .f64 r)) .nilIface).run Tryz.prog w = .ok (.bool false) w := fun w => by kernel_rfl
    go_enter Tryz.func20, Tryz.ntmps20
    go_wp2_with fail
    refine bodyPost_ret (v := .agg #[.int .i64 4, .int .i64 0, .float .f64 r, .string ⟨#[]⟩, .slice none 0 0, .slice none 0 0]) (by simp [results, Tryz.results20, go_sem]) rfl ?_
    refine ⟨.slice none 0 0, .slice none 0 0, by rw [norm_4]; rfl, Lib.hid ?_, Lib.hid (HW.out _)⟩
    rw [norm_4]
    exact isV_bare _ _ _ _ _ _ (i64_small (by omega) (by omega)) (i64_small (by omega) (by omega)) (by show 0 ≤ maxLen; omega)
  · clear hg
    have ta0 : ∀ w, (Instr.typeAssert (.iface 9 (.string t)) 20 4 true).run Tryz.prog w = .ok (.tuple #[.bool false, .bool false]) w := fun w => by kernel_rfl
    have ta1 : ∀ w, (Instr.typeAssert (.iface 9 (.string t)) 20 3 true).run Tryz.prog w = .ok (.tuple #[.int .i64 0, .bool false]) w := fun w => by kernel_rfl
    have ta2 : ∀ w, (Instr.typeAssert (.iface 9 (.string t)) 20 2 true).run Tryz.prog w = .ok (.tuple #[.int .i64 0, .bool false]) w := fun w => by kernel_rfl
    have ta3 : ∀ w, (Instr.typeAssert (.iface 9 (.string t)) 20 26 true).run Tryz.prog w = .ok (.tuple #[.float .f64 0, .bool false]) w := fun w => by kernel_rfl
    have ta4 : ∀ w, (Instr.typeAssert (.iface 9 (.string t)) 20 9 true).run Tryz.prog w = .ok (.tuple #[.string t, .bool true]) w := fun w => by kernel_rfl
    have ta5 : ∀ w, (Instr.typeAssert (.iface 9 (.string t)) 20 39 true).run Tryz.prog w = .ok (.tuple #[.slice none 0 0, .bool false]) w := fun w => by kernel_rfl
    have ta6 : ∀ w, (Instr.typeAssert (.iface 9 (.string t)) 20 43 true).run Tryz.prog w = .ok (.tuple #[.map none, .bool false]) w := fun w => by kernel_rfl
    have hne : ∀ w, (binOp .eql 20 (.iface 9 (.string t)) .nilIface).run Tryz.prog w = .ok (.bool false) w := fun w => by kernel_rfl
    go_enter Tryz.func20, Tryz.ntmps20
    go_wp2_with fail
    refine bodyPost_ret (v := .agg #[.int .i64 5, .int .i64 0, .float .f64 0, .string t, .slice none 0 0, .slice none 0 0]) (by simp [results, Tryz.results20, go_sem]) rfl ?_
    refine ⟨.slice none 0 0, .slice none 0 0, by rw [norm_5]; rfl, Lib.hid ?_, Lib.hid (HW.out _)⟩
    rw [norm_5]
    exact isV_bare _ _ _ _ _ _ (i64_small (by omega) (by omega)) (i64_small (by omega) (by omega)) hT
  · clear hg
    have HR := Lib.hid (And.intro hrow hgo)
    clear hrow hgo
    have ta0 : ∀ w, (Instr.typeAssert (.iface 39 (.slice (some a) l.length c)) 20 4 true).run Tryz.prog w = .ok (.tuple #[.bool false, .bool false]) w := fun w => by kernel_rfl
    have ta1 : ∀ w, (Instr.typeAssert (.iface 39 (.slice (some a) l.length c)) 20 3 true).run Tryz.prog w = .ok (.tuple #[.int .i64 0, .bool false]) w := fun w => by kernel_rfl
    have ta2 : ∀ w, (Instr.typeAssert (.iface 39 (.slice (some a) l.length c)) 20 2 true).run Tryz.prog w = .ok (.tuple #[.int .i64 0, .bool false]) w := fun w => by kernel_rfl
    have ta3 : ∀ w, (Instr.typeAssert (.iface 39 (.slice (some a) l.length c)) 20 26 true).run Tryz.prog w = .ok (.tuple #[.float .f64 0, .bool false]) w := fun w => by kernel_rfl
    have ta4 : ∀ w, (Instr.typeAssert (.iface 39 (.slice (some a) l.length c)) 20 9 true).run Tryz.prog w = .ok (.tuple #[.string ⟨#[]⟩, .bool false]) w := fun w => by kernel_rfl
    have ta5 : ∀ w, (Instr.typeAssert (.iface 39 (.slice (some a) l.length c)) 20 39 true).run Tryz.prog w = .ok (.tuple #[.slice (some a) l.length c, .bool true]) w := fun w => by kernel_rfl
    have ta6 : ∀ w, (Instr.typeAssert (.iface 39 (.slice (some a) l.length c)) 20 43 true).run Tryz.prog w = .ok (.tuple #[.map none, .bool false]) w := fun w => by kernel_rfl
    have hne : ∀ w, (binOp .eql 20 (.iface 39 (.slice (some a) l.length c)) .nilIface).run Tryz.prog w = .ok (.bool false) w := fun w => by kernel_rfl
    go_enter Tryz.func20, Tryz.ntmps20
    go_wp2_with fail
    refine (HL.out (by simp) _ _ xs P _ (HR.out.1.keep (by omega) (Kept.below (HW.out _))) (GoVs.keep (Kept.below (HW.out _)) l HR.out.2)).mono ?_
    rintro e w1 ⟨A, cap, ys, rfl, H1, H2⟩
    have hc0 : ∃ c0 c1 c2 c3 c4 c5, w1.heap[w.heap.size]? = some (.cells #[c0, c1, c2, c3, c4, c5] 28 (0, 0)) := ⟨_, _, _, _, _, _, (H2.out.block _ (by simp)).trans (heap_alloc_new w _)⟩
    obtain ⟨c0, c1, c2, c3, c4, c5, hc0⟩ := hc0
    have d0 : w1.cell? ⟨w.heap.size, 0, none⟩ = some c0 := by rw [blk_cell hc0]; rfl
    have d1 : w1.cell? ⟨w.heap.size, 1, none⟩ = some c1 := by rw [blk_cell hc0]; rfl
    have d2 : w1.cell? ⟨w.heap.size, 2, none⟩ = some c2 := by rw [blk_cell hc0]; rfl
    have d3 : w1.cell? ⟨w.heap.size, 3, none⟩ = some c3 := by rw [blk_cell hc0]; rfl
    have d4 : w1.cell? ⟨w.heap.size, 4, none⟩ = some c4 := by rw [blk_cell hc0]; rfl
    have d5 : w1.cell? ⟨w.heap.size, 5, none⟩ = some c5 := by rw [blk_cell hc0]; rfl
    have fz : ∀ j, w1.frozen? ⟨w.heap.size, j, none⟩ = false := fun j => by simp [World.frozen?, hc0]
    have HBW := Lib.hid ((HW.out _).trans (H2.out.mono (by simp)))
    have HH := Lib.hid hc0
    clear hc0
    go_wp2_with fail
    obtain ⟨w2, hw2⟩ : ∃ w2, w2 = (((((w1.setCell ⟨w.heap.size, 0, none⟩ (.int .i64 6)).setCell ⟨w.heap.size, 1, none⟩ (.int .i64 0)).setCell ⟨w.heap.size, 2, none⟩ (.float .f64 0)).setCell ⟨w.heap.size, 3, none⟩ (.string ⟨#[]⟩)).setCell ⟨w.heap.size, 4, none⟩ (.slice none 0 0)).setCell ⟨w.heap.size, 5, none⟩ (.slice A l.length cap) := ⟨_, rfl⟩
    rw [← hw2]
    obtain ⟨hb2, ho2, hl2⟩ := set6 HH.out _ _ _ _ _ _ hw2
    have e0 : w2.cell? ⟨w.heap.size, 0, none⟩ = some (.int .i64 6) := by rw [blk_cell hb2]; rfl
    have e1 : w2.cell? ⟨w.heap.size, 1, none⟩ = some (.int .i64 0) := by rw [blk_cell hb2]; rfl
    have e2 : w2.cell? ⟨w.heap.size, 2, none⟩ = some (.float .f64 0) := by rw [blk_cell hb2]; rfl
    have e3 : w2.cell? ⟨w.heap.size, 3, none⟩ = some (.string ⟨#[]⟩) := by rw [blk_cell hb2]; rfl
    have e4 : w2.cell? ⟨w.heap.size, 4, none⟩ = some (.slice none 0 0) := by rw [blk_cell hb2]; rfl
    have e5 : w2.cell? ⟨w.heap.size, 5, none⟩ = some (.slice A l.length cap) := by rw [blk_cell hb2]; rfl
    have kk : Kept w1 w2 (fun b => w.heap.size + 1 ≤ b) (fun b => w.heap.size ≤ b) := fun b hb _ => ⟨by have hb' : w.heap.size + 1 ≤ b := hb; omega, ho2 b (by have hb' : w.heap.size + 1 ≤ b := hb; omega)⟩
    refine bodyPost_ret (v := .agg #[.int .i64 6, .int .i64 0, .float .f64 0, .string ⟨#[]⟩, .slice none 0 0, .slice A l.length cap]) (by simp [results, Tryz.results20, go_sem, e0, e1, e2, e3, e4, e5]) rfl ?_
    refine ⟨.slice none 0 0, .slice A l.length cap, by rw [norm_6]; rfl, Lib.hid ?_, Lib.hid (HBW.out.trans hl2)⟩
    rw [norm_6]
    have q1 := H1.out.1.keep (P := fun b => (w.alloc (.cells #[.int .i64 0, .int .i64 0, .float .f64 0, .string ⟨#[]⟩, .slice none 0 0, .slice none 0 0] 28)).heap.size ≤ b) (by omega) (by rw [World.size_alloc]; exact kk)
    have q2 := IsVs.keep (P := fun b => (w.alloc (.cells #[.int .i64 0, .int .i64 0, .float .f64 0, .string ⟨#[]⟩, .slice none 0 0, .slice none 0 0] 28)).heap.size ≤ b) (by rw [World.size_alloc]; exact kk) _ H1.out.2
    unfold IsV
    exact ⟨_, _, ys, rfl, i64_small (by omega) (by omega), i64_small (by omega) (by omega), (by show 0 ≤ maxLen; omega), by simp, ⟨none, 0, rfl, by simp, by unfold maxLen; omega, by simp, fun h => absurd h (by simp)⟩, by rw [norms_len]; exact q1, q2⟩
  · have HR := Lib.hid hg
    have HM := Lib.hid (show MapIs w P ks l b from ⟨es, clk, xs, hm1, hm2, hm3, hm4, hm5, hm6, hm7, hm8⟩)
    clear hg hm1 hm2 hm3 hm4 hm5 hm6 hm7 hm8
    have ta0 : ∀ w, (Instr.typeAssert (.iface 43 (.map (some b))) 20 4 true).run Tryz.prog w = .ok (.tuple #[.bool false, .bool false]) w := fun w => by kernel_rfl
    have ta1 : ∀ w, (Instr.typeAssert (.iface 43 (.map (some b))) 20 3 true).run Tryz.prog w = .ok (.tuple #[.int .i64 0, .bool false]) w := fun w => by kernel_rfl
    have ta2 : ∀ w, (Instr.typeAssert (.iface 43 (.map (some b))) 20 2 true).run Tryz.prog w = .ok (.tuple #[.int .i64 0, .bool false]) w := fun w => by kernel_rfl
    have ta3 : ∀ w, (Instr.typeAssert (.iface 43 (.map (some b))) 20 26 true).run Tryz.prog w = .ok (.tuple #[.float .f64 0, .bool false]) w := fun w => by kernel_rfl
    have ta4 : ∀ w, (Instr.typeAssert (.iface 43 (.map (some b))) 20 9 true).run Tryz.prog w = .ok (.tuple #[.string ⟨#[]⟩, .bool false]) w := fun w => by kernel_rfl
    have ta5 : ∀ w, (Instr.typeAssert (.iface 43 (.map (some b))) 20 39 true).run Tryz.prog w = .ok (.tuple #[.slice none 0 0, .bool false]) w := fun w => by kernel_rfl
    have ta6 : ∀ w, (Instr.typeAssert (.iface 43 (.map (some b))) 20 43 true).run Tryz.prog w = .ok (.tuple #[.map (some b), .bool true]) w := fun w => by kernel_rfl
    have hne : ∀ w, (binOp .eql 20 (.iface 43 (.map (some b))) .nilIface).run Tryz.prog w = .ok (.bool false) w := fun w => by kernel_rfl
    go_enter Tryz.func20, Tryz.ntmps20
    go_wp2_with fail
    refine (HD.out (by simp) b P _ (HM.out.keep (Kept.below (HW.out _)))).mono ?_
    rintro e w1 ⟨kv, lv, rfl, H1, H2⟩
    obtain ⟨Ak, ck, rfl⟩ : ∃ A c, kv = .slice A ks.length c := by obtain ⟨_, h, _⟩ := H1.out.parts; obtain ⟨A, c, h, _⟩ := h.form; exact ⟨A, c, h⟩
    obtain ⟨Al, cl, rfl⟩ : ∃ A c, lv = .slice A (norms l).length c := by obtain ⟨_, _, h, _⟩ := H1.out.parts; obtain ⟨A, c, h, _⟩ := h.form; exact ⟨A, c, h⟩
    have hc0 : ∃ c0 c1 c2 c3 c4 c5, w1.heap[w.heap.size]? = some (.cells #[c0, c1, c2, c3, c4, c5] 28 (0, 0)) := ⟨_, _, _, _, _, _, (H2.out.block _ (by simp)).trans (heap_alloc_new w _)⟩
    obtain ⟨c0, c1, c2, c3, c4, c5, hc0⟩ := hc0
    have d0 : w1.cell? ⟨w.heap.size, 0, none⟩ = some c0 := by rw [blk_cell hc0]; rfl
    have d1 : w1.cell? ⟨w.heap.size, 1, none⟩ = some c1 := by rw [blk_cell hc0]; rfl
    have d2 : w1.cell? ⟨w.heap.size, 2, none⟩ = some c2 := by rw [blk_cell hc0]; rfl
    have d3 : w1.cell? ⟨w.heap.size, 3, none⟩ = some c3 := by rw [blk_cell hc0]; rfl
    have d4 : w1.cell? ⟨w.heap.size, 4, none⟩ = some c4 := by rw [blk_cell hc0]; rfl
    have d5 : w1.cell? ⟨w.heap.size, 5, none⟩ = some c5 := by rw [blk_cell hc0]; rfl
    have fz : ∀ j, w1.frozen? ⟨w.heap.size, j, none⟩ = false := fun j => by simp [World.frozen?, hc0]
    have HBW := Lib.hid ((HW.out _).trans (H2.out.mono (by simp)))
    have HH := Lib.hid hc0
    clear hc0
    go_wp2_with fail
    obtain ⟨w2, hw2⟩ : ∃ w2, w2 = (((((w1.setCell ⟨w.heap.size, 0, none⟩ (.int .i64 7)).setCell ⟨w.heap.size, 1, none⟩ (.int .i64 0)).setCell ⟨w.heap.size, 2, none⟩ (.float .f64 0)).setCell ⟨w.heap.size, 3, none⟩ (.string ⟨#[]⟩)).setCell ⟨w.heap.size, 4, none⟩ (.slice Ak ks.length ck)).setCell ⟨w.heap.size, 5, none⟩ (.slice Al (norms l).length cl) := ⟨_, rfl⟩
    rw [← hw2]
    obtain ⟨hb2, ho2, hl2⟩ := set6 HH.out _ _ _ _ _ _ hw2
    have e0 : w2.cell? ⟨w.heap.size, 0, none⟩ = some (.int .i64 7) := by rw [blk_cell hb2]; rfl
    have e1 : w2.cell? ⟨w.heap.size, 1, none⟩ = some (.int .i64 0) := by rw [blk_cell hb2]; rfl
    have e2 : w2.cell? ⟨w.heap.size, 2, none⟩ = some (.float .f64 0) := by rw [blk_cell hb2]; rfl
    have e3 : w2.cell? ⟨w.heap.size, 3, none⟩ = some (.string ⟨#[]⟩) := by rw [blk_cell hb2]; rfl
    have e4 : w2.cell? ⟨w.heap.size, 4, none⟩ = some (.slice Ak ks.length ck) := by rw [blk_cell hb2]; rfl
    have e5 : w2.cell? ⟨w.heap.size, 5, none⟩ = some (.slice Al (norms l).length cl) := by rw [blk_cell hb2]; rfl
    have kk : Kept w1 w2 (fun b => w.heap.size + 1 ≤ b) (fun b => w.heap.size ≤ b) := fun b hb _ => ⟨by have hb' : w.heap.size + 1 ≤ b := hb; omega, ho2 b (by have hb' : w.heap.size + 1 ≤ b := hb; omega)⟩
    refine bodyPost_ret (v := .agg #[.int .i64 7, .int .i64 0, .float .f64 0, .string ⟨#[]⟩, .slice Ak ks.length ck, .slice Al (norms l).length cl]) (by simp [results, Tryz.results20, go_sem, e0, e1, e2, e3, e4, e5]) rfl ?_
    refine ⟨.slice Ak ks.length ck, .slice Al (norms l).length cl, by rw [norm_7]; rfl, Lib.hid ?_, Lib.hid (HBW.out.trans hl2)⟩
    rw [norm_7]
    exact IsV.keep (P := fun b => (w.alloc (.cells #[.int .i64 0, .int .i64 0, .float .f64 0, .string ⟨#[]⟩, .slice none 0 0, .slice none 0 0] 28)).heap.size ≤ b) (by rw [World.size_alloc]; exact kk) _ H1.out
end Go.Proofs.YtaclgcpfcejplaaGreatDoor.Vals
