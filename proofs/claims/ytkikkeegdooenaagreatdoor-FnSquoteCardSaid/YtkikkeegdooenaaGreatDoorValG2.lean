/- Walk of impl.goDict: a right dictionary becomes the Go map that stands for it. -/
import Derived.Test.YtkikkeegdooenaaGreatDoorValG
import Derived.Test.YtkikkeegdooenaaGreatDoorMapM
import Derived.Carry
import Derived.IntWalk
namespace Go.Proofs.YtkikkeegdooenaaGreatDoor.Vals
open Go.RowKit Go.ChangeMaps Go.Proofs.YtkikkeegdooenaaGreatDoorW.PrintWords
set_option linter.unusedVariables false
set_option maxRecDepth 20000

/-- A map's block that stands for the dictionary of these keys and values. -/
def MapIs (w : World) (P : Nat → Prop) (ks : List ByteArray) (l : List V) (b : Nat) : Prop :=
  ∃ es clk xs, P b ∧ w.heap[b]? = some (.map es clk) ∧ (∀ e ∈ es, e.born < clk) ∧ (es.toList.map (·.born)).Nodup ∧ es.size ≤ maxLen ∧
    ks.length = l.length ∧ (es.toList.map fun e => (e.key, e.val)).Perm ((ks.map Value.string).zip xs) ∧ GoVs w P l xs
theorem GoV.dict {w : World} {P : Nat → Prop} {n : Int} {r : Nat} {t : ByteArray} {ks : List ByteArray} {l : List V} {b : Nat} (h : MapIs w P ks l b) : GoV w P (.mk 7 n r t ks l) (.iface 53 (.map (some b))) := by
  obtain ⟨es, clk, xs, h1, h2, h3, h4, h5, h6, h7, h8⟩ := h
  unfold GoV
  exact .inr (.inr (.inr (.inr (.inr (.inr (.inr ⟨rfl, b, es, clk, xs, rfl, h1, h2, h3, h4, h5, h6, h7, h8⟩))))))
/-- The entries of a map that was filled in this order. -/
def entriesOf : Nat → List ByteArray → List Value → List MapEntry
  | i, k :: ks, x :: xs => { key := .string k, val := x, born := i } :: entriesOf (i + 1) ks xs
  | _, _, _ => []
theorem entriesOf_snoc : ∀ (i : Nat) (ks : List ByteArray) (xs : List Value) (k : ByteArray) (x : Value), ks.length = xs.length → entriesOf i (ks ++ [k]) (xs ++ [x]) = entriesOf i ks xs ++ [{ key := .string k, val := x, born := i + ks.length }]
  | i, [], [], k, x, _ => rfl
  | i, a :: ks, y :: xs, k, x, h => by
    simp only [List.cons_append, entriesOf]
    rw [entriesOf_snoc (i + 1) ks xs k x (by simpa using h)]
    simp only [List.length_cons]
    rw [show i + 1 + ks.length = i + (ks.length + 1) by omega]
  | i, [], y :: xs, k, x, h => by simp at h
  | i, a :: ks, [], k, x, h => by simp at h
theorem entriesOf_mem : ∀ {i : Nat} {ks : List ByteArray} {xs : List Value} {e : MapEntry}, e ∈ entriesOf i ks xs → ∃ k ∈ ks, e.key = .string k
  | i, [], xs, e, h => by cases xs <;> simp [entriesOf] at h
  | i, k :: ks, [], e, h => by simp [entriesOf] at h
  | i, k :: ks, x :: xs, e, h => by
    simp only [entriesOf] at h
    rcases List.mem_cons.1 h with rfl | h
    · exact ⟨k, by simp, rfl⟩
    · obtain ⟨k', hk, he⟩ := entriesOf_mem h
      exact ⟨k', by simp [hk], he⟩
theorem entriesOf_pairs : ∀ (i : Nat) (ks : List ByteArray) (xs : List Value), (entriesOf i ks xs).map (fun e => (e.key, e.val)) = (ks.map Value.string).zip xs
  | i, [], xs => by cases xs <;> simp [entriesOf]
  | i, k :: ks, [] => by simp [entriesOf]
  | i, k :: ks, x :: xs => by simp [entriesOf, entriesOf_pairs (i + 1) ks xs]
theorem entriesOf_born : ∀ (i : Nat) (ks : List ByteArray) (xs : List Value), (∀ e ∈ entriesOf i ks xs, i ≤ e.born ∧ e.born < i + ks.length) ∧ ((entriesOf i ks xs).map (·.born)).Nodup
  | i, [], xs => by cases xs <;> simp [entriesOf]
  | i, k :: ks, [] => by simp [entriesOf]
  | i, k :: ks, x :: xs => by
    obtain ⟨h1, h2⟩ := entriesOf_born (i + 1) ks xs
    simp only [entriesOf]
    refine ⟨fun e he => ?_, ?_⟩
    · rcases List.mem_cons.1 he with rfl | he
      · simp
      · have := h1 e he; simp only [List.length_cons]; omega
    · rw [List.map_cons, List.nodup_cons]
      refine ⟨fun hm => ?_, h2⟩
      obtain ⟨e, he, heq⟩ := List.mem_map.1 hm
      have := h1 e he
      simp only at heq
      omega
theorem entriesOf_len : ∀ (i : Nat) (ks : List ByteArray) (xs : List Value), ks.length = xs.length → (entriesOf i ks xs).length = ks.length
  | i, [], xs, _ => by cases xs <;> simp [entriesOf]
  | i, k :: ks, [], h => by simp at h
  | i, k :: ks, x :: xs, h => by simp only [entriesOf, List.length_cons]; rw [entriesOf_len (i + 1) ks xs (by simpa using h)]

def GoDictRes (ks : List ByteArray) (l : List V) (w : World) (e : Ending) (w' : World) : Prop := ∃ b, e = .returned (.tuple #[.map (some b), .bool true]) ∧
  Hid (MapIs w' (fun b => w.heap.size ≤ b) ks l b) ∧ Hid (Below w.heap.size w w')

set_option maxHeartbeats 4000000 in
theorem goDict_step (n : Int) (r : Nat) (t : ByteArray) (ks : List ByteArray) (l : List V) (hok : ∀ i (h : i < l.length), GoOfOk l[i]) (h300 : l.length ≤ 100000) (hlen : ks.length = l.length) (hkey : ∀ i, i < l.length → KeyOk ks i)
    (A A' : Option Addr) (c c' : Nat) (xs : List Value) (P : Nat → Prop) (w : World)
    (hk : RowIs w P 1 (.slice A ks.length c) ks.length (ks.map Value.string)) (hl : RowIs w P 6 (.slice A' l.length c') l.length xs) (hv : IsVs w P l xs) :
    Calls Tryz.prog 30 #[.agg #[.int .i64 7, .int .i64 n, .float .f64 r, .string t, .slice A ks.length c, .slice A' l.length c']] w (GoDictRes ks l w) := by
  have hasc : Asc ks := asc_of_steps fun i h0 hi => (hkey i (by omega)).2 h0
  have HASC := Lib.hid hasc
  have HEL := Lib.hid (IsVs.elem hl hv)
  have hke : ∀ i (hi : i < ks.length), ∃ b o, A = some ⟨b, o, none⟩ ∧ b < w.heap.size ∧ w.cell? ⟨b, o + i, none⟩ = some (.string ks[i]) := fun i hi => by
    obtain ⟨b, o, hA, _, hc⟩ := hk.elem (by omega)
    have := hc i (.string ks[i]) (by simp [hi])
    exact ⟨b, o, hA, World.block_lt_of_cell? w _ this, this⟩
  have HKE := Lib.hid hke
  have HOK := Lib.hid hok
  have HKEY := Lib.hid hkey
  obtain ⟨hnc, hcm⟩ := hk.sizes
  obtain ⟨hnc', hcm'⟩ := hl.sizes
  unfold maxLen at hcm hcm'
  clear hok hl hv hk hke hkey hasc
  obtain ⟨m, hm⟩ : ∃ m, m = l.length := ⟨_, rfl⟩
  have hmk : ks.length = m := by omega
  rw [← hm] at h300 hnc' ⊢
  rw [hmk] at hnc ⊢
  have HM := Lib.hid (And.intro hm hmk)
  clear hm hmk hlen
  obtain ⟨B, hB⟩ : ∃ B, B = w.heap.size := ⟨_, rfl⟩
  have HB := Lib.hid hB
  have hmm := @run_makeMap Tryz.prog
  go_enter Tryz.func30, Tryz.ntmps30
  clear hB
  go_wp2_with fail
  obtain ⟨W0, hW0⟩ : ∃ W0, W0 = (w.alloc (.cells #[.int .i64 7, .int .i64 n, .float .f64 r, .string t, .slice A m c, .slice A' m c'] 42)).alloc (.map #[] 0) := ⟨_, rfl⟩
  have hbox : W0.cell? ⟨w.heap.size, 4, none⟩ = some (.slice A m c) ∧ W0.cell? ⟨w.heap.size, 5, none⟩ = some (.slice A' m c') := by rw [hW0]; simp [go_sem]
  have hmap : W0.heap[w.heap.size + 1]? = some (.map #[] 0) := by have h := heap_alloc_new (w.alloc (.cells #[.int .i64 7, .int .i64 n, .float .f64 r, .string t, .slice A m c, .slice A' m c'] 42)) (.map #[] 0); rw [hW0]; simpa using h
  have hbel : Below w.heap.size w W0 := by rw [hW0]; exact ((Below.refl _ _).alloc (Nat.le_refl _) _).alloc (by simp) _
  have hsz : W0.heap.size = w.heap.size + 2 := by rw [hW0]; simp
  have HS0 := Lib.hid (And.intro hbox (And.intro hmap (And.intro hbel (And.intro hsz hW0))))
  clear hbox hmap hbel hsz hW0
  go_loopg [25] m (fun kq v25 wr => ∃ (i : Nat) (ys : List Value), v25 = .int .i64 (i : Int) ∧ i + kq = m ∧ Hid (ys.length = i) ∧
    Hid (wr.heap[w.heap.size + 1]? = some (.map (entriesOf 0 (ks.take i) ys).toArray i)) ∧ Hid (GoVs wr (fun b => B ≤ b ∧ b ≠ w.heap.size + 1) (l.take i) ys) ∧ Hid (Below B w wr) ∧
    Hid (wr.cell? ⟨w.heap.size, 4, none⟩ = some (.slice A m c) ∧ wr.cell? ⟨w.heap.size, 5, none⟩ = some (.slice A' m c')) ∧ Hid (w.heap.size + 2 ≤ wr.heap.size))
  case atStart =>
    obtain ⟨h1, h2, h3, h4, h5⟩ := HS0.out
    rw [← h5]
    exact ⟨0, [], rfl, by omega, Lib.hid rfl, Lib.hid (by simpa [entriesOf] using h2), Lib.hid (by unfold GoVs; rfl), Lib.hid (by rw [HB.out]; exact h3), Lib.hid h1, Lib.hid (by omega)⟩
  case round =>
    obtain ⟨i, ys, rfl, hik, HY, HM1, HG1, H3, HC, HZ⟩ := hrel
    cases gk with
    | zero =>
      have hi : ¬ i < m := by omega
      have HIN := Lib.hid hik
      clear hik
      go_wp2_with fail
      go_ret2
      have him : i = l.length := by have := HM.out.1; have := HIN.out; omega
      have hik2 : ks.length = i := by have := HM.out.2; have := HIN.out; omega
      have hm1 := HM1.out
      have hg1 := HG1.out
      rw [him, List.take_length] at hg1
      rw [← hik2, List.take_length] at hm1
      have hyl : ks.length = ys.length := by rw [HY.out]; exact hik2
      obtain ⟨q1, q2⟩ := entriesOf_born 0 ks ys
      have hsm := HZ.out
      have hsk := HM.out.2
      refine ⟨w.heap.size + 1, rfl, Lib.hid ⟨_, _, ys, by show w.heap.size ≤ w.heap.size + 1; omega, hm1, fun e he => ?_, by simpa using q2, ?_, by omega, ?_, ?_⟩, by rw [← HB.out]; exact H3⟩
      · have := (q1 e (by simpa using he)).2; omega
      · simp only [List.size_toArray]; rw [entriesOf_len _ _ _ hyl]; unfold maxLen; omega
      · simp only [entriesOf_pairs]; exact List.Perm.refl _
      · exact GoVs.keep (Kept.mono (fun b hb _ => by rw [← HB.out]; exact hb.1)) _ hg1
    | succ mm =>
      have hi : i < m := by omega
      have hi' : i < l.length := by have := HM.out.1; omega
      have hik' : i < ks.length := by have := HM.out.2; omega
      obtain ⟨eb, eo, kv', lv', hA', hebs, _, hI, e0, e1, e2, e3, e4, e5⟩ := HEL.out i hi'
      subst hA'
      obtain ⟨kb, ko, hA, hkbs, hkc⟩ := HKE.out i hik'
      subst hA
      have hok := HOK.out i hi'
      obtain ⟨u, hu⟩ : ∃ u, u = l[i] := ⟨_, rfl⟩
      rw [← hu] at hI e0 e1 e2 e3 hok
      obtain ⟨s, hs⟩ : ∃ s, s = ks[i] := ⟨_, rfl⟩
      rw [← hs] at hkc
      obtain ⟨hc4, hc5⟩ := HC.out
      have hbw : Below w.heap.size w wr := by rw [← HB.out]; exact H3.out
      have hcw : ∀ j, wr.cell? ⟨eb, j, none⟩ = w.cell? ⟨eb, j, none⟩ := fun j => hbw.cell (p := ⟨eb, j, none⟩) hebs
      have g0 := (hcw (eo + i * 6)).trans e0
      have g1 := (hcw (eo + i * 6 + 1)).trans e1
      have g2 := (hcw (eo + i * 6 + 2)).trans e2
      have g3 := (hcw (eo + i * 6 + 3)).trans e3
      have g4 := (hcw (eo + i * 6 + 4)).trans e4
      have g5 := (hcw (eo + i * 6 + 5)).trans e5
      have k0 := (hbw.cell (p := ⟨kb, ko + i, none⟩) hkbs).trans hkc
      have HCALL := Lib.hid (hok kv' lv' P wr (IsV.keep (Kept.below hbw) u hI))
      have HU := Lib.hid hu
      have HS := Lib.hid hs
      have HIK := Lib.hid hik
      have HBW := Lib.hid hbw
      have HKB := Lib.hid hkbs
      clear hcw e0 e1 e2 e3 e4 e5 hI hu hs hik hok hbw hkc hebs hkbs
      go_wp2_with fail
      refine (HCALL.out).mono ?_
      rintro e w1 ⟨x, rfl, HX, HB1⟩
      have d5 := (HB1.out.cell (p := ⟨w.heap.size, 5, none⟩) (by have := HZ.out; show w.heap.size < _; omega)).trans hc5
      have d4 := (HB1.out.cell (p := ⟨w.heap.size, 4, none⟩) (by have := HZ.out; show w.heap.size < _; omega)).trans hc4
      have hm1 : w1.heap[w.heap.size + 1]? = some (.map (entriesOf 0 (ks.take i) ys).toArray i) := (HB1.out.block _ (by have := HZ.out; omega)).trans HM1.out
      have hnew : ∀ e ∈ (entriesOf 0 (ks.take i) ys).toArray.toList, e.key ≠ .string s := fun e he h => by
        obtain ⟨k', hk', hek⟩ := entriesOf_mem (by simpa using he)
        rw [hek] at h
        injection h with h
        have hnd := HASC.out.nodup
        obtain ⟨j, hj, hjk⟩ := List.mem_iff_getElem.1 hk'
        rw [List.getElem_take] at hjk
        have hji : j < i := by rw [List.length_take] at hj; omega
        exact absurd (by rw [hjk, h, HS.out]) (List.pairwise_iff_getElem.1 hnd j i (by omega) hik' hji)
      have htk : TextKeys (entriesOf 0 (ks.take i) ys).toArray := fun e he => by
        obtain ⟨k', _, hek⟩ := entriesOf_mem (by simpa using he)
        exact ⟨k', hek⟩
      have hmu := run_update_new (P := Tryz.prog) Tryz.underlying53 Tryz.underlying9 hm1 htk s x hnew
      obtain ⟨w2, hw2⟩ : ∃ w2, w2 = setBlock w1 (w.heap.size + 1) (.map ((entriesOf 0 (ks.take i) ys).toArray.push { key := .string s, val := x, born := i }) (i + 1)) := ⟨_, rfl⟩
      rw [← hw2] at hmu
      have HW2 := Lib.hid hw2
      have HMM := Lib.hid hm1
      have hend : ∀ v5 : Value, True := fun _ => trivial
      clear hw2 hnew htk hm1 hend
      have hrel2 : ∃ (i' : Nat) (ys' : List Value), (Value.int .i64 ((i + 1 : Nat) : Int)) = .int .i64 (i' : Int) ∧ i' + mm = m ∧ Hid (ys'.length = i') ∧
          Hid (w2.heap[w.heap.size + 1]? = some (.map (entriesOf 0 (ks.take i') ys').toArray i')) ∧ Hid (GoVs w2 (fun b => B ≤ b ∧ b ≠ w.heap.size + 1) (l.take i') ys') ∧ Hid (Below B w w2) ∧
          Hid (w2.cell? ⟨w.heap.size, 4, none⟩ = some (.slice (some ⟨kb, ko, none⟩) m c) ∧ w2.cell? ⟨w.heap.size, 5, none⟩ = some (.slice (some ⟨eb, eo, none⟩) m c')) ∧ Hid (w.heap.size + 2 ≤ w2.heap.size) := by
        have hzz := HZ.out
        have hb1s := HB1.out.size
        have hw2 := HW2.out
        have k2 : Kept wr w2 (fun b => B ≤ b ∧ b ≠ w.heap.size + 1) (fun b => B ≤ b ∧ b ≠ w.heap.size + 1) := fun b ⟨hb1, hb2⟩ hb3 => by
          refine ⟨⟨hb1, hb2⟩, ?_⟩
          rw [hw2, setBlock_other _ hb2, HB1.out.block b hb3]
        have k3 : Kept w1 w2 (fun b => wr.heap.size ≤ b) (fun b => B ≤ b ∧ b ≠ w.heap.size + 1) := fun b hb1 hb3 => by
          have := HB.out
          have hbn : b ≠ w.heap.size + 1 := by have : wr.heap.size ≤ b := hb1; omega
          have hbB : B ≤ b := by have : wr.heap.size ≤ b := hb1; omega
          exact ⟨⟨hbB, hbn⟩, by rw [hw2, setBlock_other _ hbn]⟩
        have hyl : (ks.take i).length = ys.length := by rw [HY.out, List.length_take]; omega
        refine ⟨i + 1, ys ++ [x], rfl, by have := HIK.out; omega, Lib.hid (by rw [List.length_append, HY.out]; rfl), Lib.hid ?_, Lib.hid ?_, Lib.hid ?_, Lib.hid ⟨?_, ?_⟩, Lib.hid ?_⟩
        · rw [hw2, setBlock_at HMM.out, List.take_add_one, List.getElem?_eq_getElem hik', ← HS.out]
          simp only [Option.toList]
          rw [entriesOf_snoc _ _ _ _ _ hyl, List.length_take, show min i ks.length = i by omega, Nat.zero_add]
          simp
        · rw [List.take_add_one, List.getElem?_eq_getElem hi', ← HU.out]
          exact GoVs.snoc (GoVs.keep k2 _ HG1.out) (GoV.keep k3 _ HX.out)
        · have := HB.out
          rw [hw2]
          exact below_setBlock (H3.out.trans (HB1.out.mono (by omega))) (by omega) _
        · rw [hw2, World.cell?_of_block (w := w1) (setBlock_other _ (by show w.heap.size ≠ w.heap.size + 1; omega))]; exact d4
        · rw [hw2, World.cell?_of_block (w := w1) (setBlock_other _ (by show w.heap.size ≠ w.heap.size + 1; omega))]; exact d5
        · rw [hw2, setBlock_size]; omega
      have HR2 := Lib.hid hrel2
      clear hrel2
      by_cases hi0 : i = 0
      · have hi0' : ¬ (0 < i) := by omega
        have HI0 := Lib.hid hi0
        clear hi0
        go_wp2_with fail
        go_roundg mm
        case measure => exact Nat.lt_succ_self mm
        case rel => simpa using HR2.out
      · have hip : (1 : Int) ≤ (i : Int) := by omega
        have hip' : 0 < i := by omega
        obtain ⟨kb', ko', hA', hkb', hkp⟩ := HKE.out (i - 1) (by omega)
        injection hA' with hA'
        injection hA' with hA1 hA2
        subst hA1; subst hA2
        have hle := (HKEY.out i hi').2 hip'
        have hgd : ks.getD i ⟨#[]⟩ = s := by rw [HS.out]; simp [List.getD, hik']
        have hgp : ks.getD (i - 1) ⟨#[]⟩ = ks[i - 1]'(by omega) := by simp [List.getD, show i - 1 < ks.length by omega]
        rw [hgd, hgp] at hle
        obtain ⟨q, hq⟩ : ∃ q, q = ks[i - 1]'(by omega) := ⟨_, rfl⟩
        rw [← hq] at hkp hle
        have kp := (HB1.out.cell (p := ⟨kb, ko + (i - 1), none⟩) (Nat.lt_of_lt_of_le hkb' HBW.out.size)).trans ((HBW.out.cell (p := ⟨kb, ko + (i - 1), none⟩) hkb').trans hkp)
        have l1 : (Op.bytesLess s.toList q.toList || s.toList == q.toList) = false := hle
        have wi : IntKind.i64.wrap ((i : Int) - 1) = (i : Int) - 1 := IntWalk.i64_in _ (by omega)
        clear hle hgd hgp hq hkp
        go_wp2_with fail
        go_roundg mm
        case measure => exact Nat.lt_succ_self mm
        case rel => simpa using HR2.out
end Go.Proofs.YtkikkeegdooenaaGreatDoor.Vals
