/- Walks of impl.goOf, goList and goDict: a right value becomes the Go value that stands for it. -/
import Derived.Test.YtkikkeegdooenaaGreatDoorValD
import Derived.Test.YtkikkeegdooenaaGreatDoorNear
import Derived.Deep.DeepCutAuto
import Derived.Deep.AppendLies
import Derived.OwnWalk
namespace Go.Proofs.YtkikkeegdooenaaGreatDoor.Vals
open Go.RowKit Go.Proofs.YtkikkeegdooenaaGreatDoorW.PrintWords
set_option linter.unusedVariables false
set_option maxRecDepth 20000

theorem ifaceInfo : (Tryz.prog.info? 20).map (fun i => (i.zero, i.size, i.bytes)) = some (some .nilIface, 1, 16) := by kernel_rfl
theorem GoV.one {w : World} {P : Nat → Prop} {v : V} {x : Value} (h : GoV w P v x) : x.oneCell' = true := by
  cases v
  unfold GoV at h
  rcases h with ⟨_, rfl⟩ | ⟨_, rfl⟩ | ⟨_, rfl⟩ | ⟨_, rfl⟩ | ⟨_, rfl⟩ | ⟨_, rfl⟩ | ⟨_, a, c, xs, rfl, _⟩ | ⟨_, b, es, clk, xs, rfl, _⟩ <;> rfl
theorem cells_one {x : Value} (h : x.oneCell' = true) : x.cells = #[x] := by cases x <;> first | rfl | cases h
theorem news_one (w : World) (x : Value) (t : TypeId) : ∀ j u, ([x] : List Value)[j]? = some u → (w.alloc (.cells #[x] t)).cell? ((⟨w.heap.size, 0, none⟩ : Addr).add j) = some u := by
  intro j u hj
  match j, hj with
  | 0, hj => simp at hj; subst hj; simp [Addr.add]
  | (j + 1), hj => simp at hj
theorem one_mem {x : Value} (h : x.oneCell' = true) : ∀ u ∈ ([x] : List Value), u.oneCell' = true := by
  intro u hu; simp at hu; subst hu; exact h
/-- What goOf answers for a value. -/
def GoRes (v : V) (w : World) (e : Ending) (w' : World) : Prop := ∃ x, e = .returned (.tuple #[x, .bool true]) ∧ Hid (GoV w' (fun b => w.heap.size ≤ b) v x) ∧ Hid (Below w.heap.size w w')
def GoOfOk (v : V) : Prop := ∀ (kv lv : Value) (P : Nat → Prop) (w : World), IsV w P v [.int .i64 v.k, .int .i64 v.n, .float .f64 v.r, .string v.t, kv, lv] →
    Calls Tryz.prog 24 #[.agg #[.int .i64 v.k, .int .i64 v.n, .float .f64 v.r, .string v.t, kv, lv]] w (GoRes v w)
def GoListRes (l : List V) (w : World) (e : Ending) (w' : World) : Prop := ∃ a cap xs, e = .returned (.tuple #[.slice (some a) l.length cap, .bool true]) ∧
  Hid (RowIs w' (fun b => w.heap.size ≤ b) 1 (.slice (some a) l.length cap) l.length xs ∧ GoVs w' (fun b => w.heap.size ≤ b) l xs) ∧ Hid (Below w.heap.size w w')

set_option maxHeartbeats 4000000 in
theorem goList_step (l : List V) (hok : ∀ i (h : i < l.length), GoOfOk l[i]) (h300 : l.length ≤ 100000) (A : Option Addr) (c : Nat) (xs : List Value) (P : Nat → Prop) (w : World)
    (hl : RowIs w P 6 (.slice A l.length c) l.length xs) (hv : IsVs w P l xs) :
    Calls Tryz.prog 18 #[.slice A l.length c] w (GoListRes l w) := by
  obtain ⟨i0, hi0, hz0, hz1, hz2⟩ := info_parts ifaceInfo
  have HEL := Lib.hid (IsVs.elem hl hv)
  have HOK := Lib.hid hok
  obtain ⟨hnc, hcm⟩ := hl.sizes
  unfold maxLen at hcm
  clear hok hl hv
  have hsf := store_float
  obtain ⟨n, hn⟩ : ∃ n, n = l.length := ⟨_, rfl⟩
  rw [← hn] at h300 hnc ⊢
  have HN := Lib.hid hn
  clear hn
  go_enter Tryz.func18, Tryz.ntmps18
  go_wp2_with fail
  obtain ⟨B, hB⟩ : ∃ B, B = w.heap.size := ⟨_, rfl⟩
  have hstart : (w.alloc (.cells #[] 20)).ownsRow B 20 1 (.slice (some ⟨w.heap.size, 0, none⟩) 0 0) 0 [] := World.ownsRow_made w #[] 0 (by omega) (by unfold maxLen; omega) rfl
  have HST := Lib.hid hstart
  have HB := Lib.hid hB
  clear hstart hB
  go_loopg [4, 12] n (fun kq v4 v12 wr => ∃ (i g cap : Nat) (ys : List Value), v4 = .slice (some ⟨g, 0, none⟩) i cap ∧ v12 = .int .i64 (i : Int) ∧ i + kq = n ∧
    Hid (wr.ownsRow B 20 1 (.slice (some ⟨g, 0, none⟩) i cap) i ys) ∧ Hid (GoVs wr (fun b => B ≤ b ∧ b ≠ g) (l.take i) ys) ∧ Hid (Below B w wr))
  case atStart => exact ⟨0, _, _, [], rfl, rfl, by omega, HST, Lib.hid (by unfold GoVs; rfl), Lib.hid ((Below.refl _ _).alloc (by rw [HB.out]; exact Nat.le_refl _) _)⟩
  case round =>
    obtain ⟨i, g, cap, ys, rfl, rfl, hik, H1, H2, H3⟩ := hrel
    cases gk with
    | zero =>
      have hi : ¬ i < n := by omega
      have HIN := Lib.hid hik
      clear hik
      go_wp2_with fail
      go_ret2
      have hin : i = l.length := by have := HN.out; have := HIN.out; omega
      refine ⟨⟨g, 0, none⟩, cap, ys, by rw [hin]; rfl, Lib.hid ⟨?_, ?_⟩, by rw [← HB.out]; exact H3⟩
      · have h := RowIs.of_own (P := fun b => w.heap.size ≤ b) H1.out (fun b hb => by have := (H1.out.lt b hb).1; rw [HB.out] at this; exact this)
        rw [← hin]; exact h
      · have h := H2.out
        rw [hin, List.take_length] at h
        exact GoVs.keep (Kept.mono (fun b hb _ => by rw [← HB.out]; exact hb.1)) _ h
    | succ m =>
      have hi : i < n := by omega
      have hi' : i < l.length := by have := HN.out; omega
      obtain ⟨eb, eo, kv', lv', hA', hebs, _, hI, e0, e1, e2, e3, e4, e5⟩ := HEL.out i hi'
      subst hA'
      have hok := HOK.out i hi'
      obtain ⟨u, hu⟩ : ∃ u, u = l[i] := ⟨_, rfl⟩
      rw [← hu] at hI e0 e1 e2 e3 hok
      obtain ⟨xs', hk', hl', _⟩ := hI.parts
      obtain ⟨Ak, ck, rfl, _⟩ := hk'.form
      obtain ⟨Al, cl, rfl, _⟩ := hl'.form
      clear hk' hl'
      have hcw : ∀ j, wr.cell? ⟨eb, j, none⟩ = w.cell? ⟨eb, j, none⟩ := fun j => H3.out.cell (p := ⟨eb, j, none⟩) (by rw [HB.out]; exact hebs)
      have g0 := (hcw (eo + i * 6)).trans e0
      have g1 := (hcw (eo + i * 6 + 1)).trans e1
      have g2 := (hcw (eo + i * 6 + 2)).trans e2
      have g3 := (hcw (eo + i * 6 + 3)).trans e3
      have g4 := (hcw (eo + i * 6 + 4)).trans e4
      have g5 := (hcw (eo + i * 6 + 5)).trans e5
      have hI' := IsV.keep ((Kept.below (by rw [← HB.out]; exact H3.out) : Kept w wr P P)) u hI
      have HCALL : Hid (∀ o : Obj, Calls Tryz.prog 24 #[.agg #[.int .i64 u.k, .int .i64 u.n, .float .f64 u.r, .string u.t, .slice Ak u.ks.length ck, .slice Al u.l.length cl]] (wr.alloc o) (GoRes u (wr.alloc o))) :=
        Lib.hid fun o => hok _ _ P (wr.alloc o) (IsV.keep (Kept.below ((Below.refl _ _).alloc (Nat.le_refl _) o)) u hI')
      have HU := Lib.hid hu
      have HIK := Lib.hid hik
      clear hcw e0 e1 e2 e3 e4 e5 hI hI' hu hik hok
      go_wp2_with fail
      refine (HCALL.out _).mono ?_
      rintro e w1 ⟨x, rfl, HX, HB1⟩
      have hX := HX.out
      have hone := hX.one
      have HONE := Lib.hid hone
      have hcx := cells_one hone
      unfold Value.cells at hcx
      clear hX hone
      have HOWN : Hid (w1.ownsRow B 20 1 (.slice (some ⟨g, 0, none⟩) i cap) i ys) := Lib.hid ((H1.out.alloc _).kept (grown_of_below HB1.out none) (.inr (by simp [Value.ownBlock])))
      have hg1 := (H1.out.lt g rfl).2
      have hgB := (H1.out.lt g rfl).1
      have hs1 := HB1.out.size
      have hs0 := H3.out.size
      simp only [World.size_alloc] at hs1
      have HS1 := Lib.hid (And.intro hg1 (And.intro hgB (And.intro hs1 hs0)))
      clear hg1 hgB hs1 hs0
      have hc5 : B ≤ (w1.alloc (.cells #[x] 20)).heap.size := by have := HS1.out; have := HB.out; simp; omega
      have HC5 := Lib.hid hc5
      clear hc5
      go_wp2_with (at_builtin; refine wpList_append_lies _ rfl _ _ 36 rfl B 20 i0 .nilIface 1 16 Tryz.underlying36 hi0 hz0 hz1 hz2 rfl (by decide) (.slice (some ⟨g, 0, none⟩) i cap) i ys rfl (HOWN.out.alloc _) ⟨w1.heap.size, 0, none⟩ 1 1 [x] rfl rfl (news_one _ _ _) (one_mem HONE.out) (by decide) (by unfold maxLen; omega) (by omega) HC5.out _ rfl ?_; intro g' cap' w2 hown2 hgrow hat hlt; refine Hid.out ?_)
      refine Lib.hid ?_
      clear hcx
      have HO2 := Lib.hid hown2
      have HG2 := Lib.hid hgrow
      have HAT := Lib.hid hat
      clear hown2 hgrow hat hlt
      go_wp2_with fail
      go_roundg m
      case measure => exact Nat.lt_succ_self m
      case rel =>
        have hat : g = g' ∨ g' = w1.heap.size + 1 := by
          rcases HAT.out with h | h
          · exact .inl (by simpa [Value.ownBlock] using h)
          · exact .inr (by rw [h]; simp)
        obtain ⟨q1, q2, q3, q4⟩ := HS1.out
        have k2 : Kept wr w2 (fun b => B ≤ b ∧ b ≠ g) (fun b => B ≤ b ∧ b ≠ g') := fun b ⟨hb1, hb2⟩ hb3 => by
          refine ⟨⟨hb1, by rcases hat with rfl | rfl <;> omega⟩, ?_⟩
          rw [HG2.out.block b (by simp; omega) (by simpa [Value.ownBlock] using hb2), Below.heap_alloc _ _ _ (by omega), HB1.out.block b (by simp; omega), Below.heap_alloc _ _ _ hb3]
        have k3 : Kept w1 w2 (fun b => (wr.alloc (.cells #[.int .i64 u.k, .int .i64 u.n, .float .f64 u.r, .string u.t, .slice Ak u.ks.length ck, .slice Al u.l.length cl] 42)).heap.size ≤ b) (fun b => B ≤ b ∧ b ≠ g') := fun b hb1 hb3 => by
          simp only [World.size_alloc] at hb1
          have := HB.out
          refine ⟨⟨by omega, by rcases hat with rfl | rfl <;> omega⟩, ?_⟩
          rw [HG2.out.block b (by simp; omega) (by simp [Value.ownBlock]; omega), Below.heap_alloc _ _ _ hb3]
        refine ⟨i + 1, g', cap', ys ++ [x], rfl, by simp, by have := HIK.out; omega, HO2, Lib.hid ?_, Lib.hid ?_⟩
        · rw [List.take_add_one, List.getElem?_eq_getElem hi', ← HU.out]
          exact GoVs.snoc (GoVs.keep k2 _ H2.out) (GoV.keep k3 _ HX.out)
        · have := HB.out
          exact (((H3.out.alloc (by omega) _).trans (HB1.out.mono (by simp; omega))).alloc (by omega) _).grown HG2.out (by simp; omega) (fun k hk => by simp [Value.ownBlock] at hk; omega)
end Go.Proofs.YtkikkeegdooenaaGreatDoor.Vals
