/- Walks of sprig's strval (of a text), dict (of texts and values, one behind the other), and of impl.Dict. -/
import Derived.Test.YtaclgcpfcejplaaGreatDoorValQ
namespace Go.Proofs.YtaclgcpfcejplaaGreatDoor.Vals
open Go.RowKit Go.ChangeMaps Go.Proofs.YtaclgcpfcejplaaGreatDoorW.PrintWords Go.Proofs.YtaclgcpfcejplaaGreatDoor.Txt
set_option linter.unusedVariables false
set_option maxRecDepth 20000

/-- The keys and the values of a dictionary into which the first pairs went, one behind the other. -/
def dK (ms : List ByteArray) : Nat → List ByteArray
  | 0 => []
  | i + 1 => putK (dK ms i) (ms.getD i ⟨#[]⟩)
def dL (ms : List ByteArray) (l : List V) : Nat → List V
  | 0 => []
  | i + 1 => putL (dK ms i) (dL ms l i) (ms.getD i ⟨#[]⟩) (l.getD i V.nil)
theorem dLen (ms : List ByteArray) (l : List V) : ∀ i, (dK ms i).length = (dL ms l i).length
  | 0 => rfl
  | i + 1 => put_len (dLen ms l i)
theorem dAsc (ms : List ByteArray) : ∀ i, Asc (dK ms i)
  | 0 => List.Pairwise.nil
  | i + 1 => (dAsc ms i).put _
theorem dLe (ms : List ByteArray) (l : List V) : ∀ i, (dL ms l i).length ≤ i
  | 0 => Nat.le_refl _
  | i + 1 => Nat.le_trans put_le (Nat.succ_le_succ (dLe ms l i))
theorem dK_all {ms : List ByteArray} {p : ByteArray → Prop} (h : ∀ x ∈ ms, p x) : ∀ i, i ≤ ms.length → ∀ x ∈ dK ms i, p x
  | 0, _, x, hx => absurd hx (by simp [dK])
  | i + 1, hi, x, hx => putK_all (p := p) (dK_all h i (by omega)) (by rw [List.getD_eq_getElem?_getD, List.getElem?_eq_getElem (by omega : i < ms.length)]; exact h _ (List.getElem_mem _)) x hx
theorem dL_mem {ms : List ByteArray} {l : List V} {p : V → Prop} (h : ∀ x ∈ l, p x) : ∀ i, i ≤ l.length → ∀ x ∈ dL ms l i, p x
  | 0, _, x, hx => absurd hx (by simp [dL])
  | i + 1, hi, x, hx => putL_mem (p := p) (dL_mem h i (by omega)) (by rw [List.getD_eq_getElem?_getD, List.getElem?_eq_getElem (by omega : i < l.length)]; exact h _ (List.getElem_mem _)) x hx

def textV (s : ByteArray) : V := .mk 5 0 0 s [] []
/-- Texts and values, one behind the other. -/
def pairsV : List ByteArray → List V → List V
  | k :: ks, v :: l => textV k :: v :: pairsV ks l
  | _, _ => []
theorem pairsV_len : ∀ (ms : List ByteArray) (l : List V), ms.length = l.length → (pairsV ms l).length = 2 * l.length
  | [], [], _ => rfl
  | k :: ks, v :: l, h => by simp only [pairsV, List.length_cons, pairsV_len ks l (by simpa using h)]; omega
theorem pairsV_get : ∀ (ms : List ByteArray) (l : List V), ms.length = l.length → ∀ i, i < l.length → (pairsV ms l)[2 * i]? = some (textV (ms.getD i ⟨#[]⟩)) ∧ (pairsV ms l)[2 * i + 1]? = some (l.getD i V.nil)
  | _, [], _, i, hi => absurd hi (by simp)
  | k :: ks, v :: l, h, 0, _ => ⟨rfl, rfl⟩
  | k :: ks, v :: l, h, i + 1, hi => by
    have := pairsV_get ks l (by simpa using h) i (by simpa using hi)
    rw [show 2 * (i + 1) = 2 * i + 1 + 1 by omega]
    simp only [pairsV, List.getElem?_cons_succ, List.getD_cons_succ]
    exact this
theorem pairsV_snoc : ∀ (ms : List ByteArray) (l : List V) (k : ByteArray) (v : V), ms.length = l.length → pairsV (ms ++ [k]) (l ++ [v]) = pairsV ms l ++ [textV k, v]
  | [], [], k, v, _ => rfl
  | a :: ms, b :: l, k, v, h => by simp only [List.cons_append, pairsV, pairsV_snoc ms l k v (by simpa using h)]
theorem pairsV_mem {p : V → Prop} : ∀ (ms : List ByteArray) (l : List V), (∀ k ∈ ms, p (textV k)) → (∀ v ∈ l, p v) → ∀ x ∈ pairsV ms l, p x
  | k :: ks, v :: l, h1, h2, x, hx => by
    simp only [pairsV, List.mem_cons] at hx
    rcases hx with rfl | rfl | hx
    · exact h1 k (by simp)
    · exact h2 x (by simp)
    · exact pairsV_mem ks l (fun k hk => h1 k (by simp [hk])) (fun v hv => h2 v (by simp [hv])) x hx
  | [], _, _, _, x, hx => by simp [pairsV] at hx
  | _ :: _, [], _, _, x, hx => by simp [pairsV] at hx
theorem GoV.text {w : World} {P : Nat → Prop} {s : ByteArray} {x : Value} (h : GoV w P (textV s) x) : x = .iface 9 (.string s) := by
  unfold textV GoV at h
  rcases h with ⟨h, _⟩ | ⟨h, _⟩ | ⟨h, _⟩ | ⟨h, _⟩ | ⟨h, _⟩ | ⟨_, h⟩ | ⟨h, _⟩ | ⟨h, _⟩
  all_goals first | exact h | exact absurd h (by decide)
theorem textV_right {s : ByteArray} (h : s.size ≤ 300) : Right (textV s) 8 := by
  unfold textV Right
  refine ⟨⟨0, 0, s, ⟨by omega, by simp, by simp, by simp⟩, ?_⟩, by decide +kernel, h, fun _ _ => rfl, by simp, by omega, fun _ => rfl, fun h => absurd h (by omega), fun h => absurd h (by omega), by unfold Rights; trivial⟩
  unfold bareB
  have : feq 0 0 = true := by decide +kernel
  simp [this]

theorem strval_walk (s : ByteArray) (w : World) : Calls Tryz.prog 25 #[.iface 9 (.string s)] w fun e w' => e = .returned (.string s) ∧ w' = w := by
  have hta : ∀ w, (Instr.typeAssert (.iface 9 (.string s)) 20 9 true).run Tryz.prog w = .ok (.tuple #[.string s, .bool true]) w := fun w => by kernel_rfl
  go_enter Tryz.func25, Tryz.ntmps25
  go_wp2_with fail
  go_ret
  exact ⟨rfl, rfl⟩

def MapNew (ks : List ByteArray) (l : List V) (w : World) (e : Ending) (w' : World) : Prop := ∃ b, e = .returned (.map (some b)) ∧ Hid (MapX w' (fun _ => True) ks l b) ∧ Hid (Below w.heap.size w w')
set_option maxHeartbeats 4000000 in
theorem dict_walk (ms : List ByteArray) (l : List V) (hml : ms.length = l.length) (h30 : l.length ≤ 1000) (a : Addr) (c : Nat) (ys : List Value) (P : Nat → Prop) (w : World)
    (hl : RowIs w P 1 (.slice (some a) (pairsV ms l).length c) (pairsV ms l).length ys) (hv : GoVs w P (pairsV ms l) ys) :
    Calls Tryz.prog 21 #[.slice (some a) (pairsV ms l).length c] w (MapNew (dK ms l.length) (dL ms l l.length) w) := by
  have hel : ∀ i, i < l.length → ∃ mb mo x, a = ⟨mb, mo, none⟩ ∧ mb < w.heap.size ∧ w.cell? ⟨mb, mo + 2 * i, none⟩ = some (.iface 9 (.string (ms.getD i ⟨#[]⟩))) ∧ w.cell? ⟨mb, mo + (2 * i + 1), none⟩ = some x ∧ GoV w P (l.getD i V.nil) x := fun i hi => by
    have hlen := pairsV_len ms l hml
    obtain ⟨b, o, hA, _, hc⟩ := hl.elem (by omega)
    injection hA with hA
    obtain ⟨g1, g2⟩ := pairsV_get ms l hml i hi
    obtain ⟨x0, hx0, hg0⟩ := GoVs.at_ hv (2 * i) (by omega)
    obtain ⟨x1, hx1, hg1⟩ := GoVs.at_ hv (2 * i + 1) (by omega)
    have e0 := (List.getElem?_eq_some_iff.1 g1).2
    have e1 := (List.getElem?_eq_some_iff.1 g2).2
    rw [e0] at hg0
    rw [e1] at hg1
    rw [hg0.text] at hx0
    exact ⟨b, o, x1, hA, World.block_lt_of_cell? w _ (hc _ _ hx0), hc _ _ hx0, hc _ _ hx1, hg1⟩
  have HEL := Lib.hid hel
  obtain ⟨hnc, hcm⟩ := hl.sizes
  unfold maxLen at hcm
  have hN2 := pairsV_len ms l hml
  obtain ⟨N, hN⟩ : ∃ N, N = (pairsV ms l).length := ⟨_, rfl⟩
  rw [← hN] at hnc hN2 ⊢
  have h2000 : N ≤ 2000 := by omega
  have HN := Lib.hid (And.intro hN2 (And.intro hml h30))
  have hmm := @run_makeMap Tryz.prog
  clear hel hl hv hN hN2 h30
  obtain ⟨m, hm⟩ : ∃ m, m = l.length := ⟨_, rfl⟩
  have HM := Lib.hid hm
  clear hm
  go_enter Tryz.func21, Tryz.ntmps21
  go_wp2_with fail
  go_loopg [5] m (fun kq v5 wr => ∃ (i e : Nat), v5 = .int .i64 (e : Int) ∧ i + kq = m ∧ Hid (e = 2 * i) ∧ Hid (MapX wr (fun _ => True) (dK ms i) (dL ms l i) w.heap.size) ∧ Hid (Below w.heap.size w wr))
  case atStart =>
    refine ⟨0, 0, rfl, by omega, Lib.hid rfl, Lib.hid ⟨#[], 0, [], trivial, ?_, by simp, by simp, by unfold maxLen; simp, rfl, by simp [dK], by unfold dL GoVs; rfl⟩, Lib.hid ((Below.refl _ _).alloc (Nat.le_refl _) _)⟩
    exact heap_alloc_new w _
  case round =>
    obtain ⟨i, e, rfl, hik, HE, HMX, HBW⟩ := hrel
    cases gk with
    | zero =>
      have him : i = l.length := by have := HM.out; omega
      have hi : ¬ (e : Int) < (N : Int) := by have := HE.out; have := HN.out.1; omega
      subst him
      clear hik
      go_wp2_with fail
      go_ret
      exact ⟨w.heap.size, rfl, HMX, HBW⟩
    | succ mm =>
      have hil : i < l.length := by have := HM.out; omega
      have hi : (e : Int) < (N : Int) := by have := HE.out; have := HN.out.1; omega
      have hge : ¬ (N : Int) ≤ (e : Int) + 1 := by have := HE.out; have := HN.out.1; omega
      have hlt1 : (e : Int) + 1 < (N : Int) := by omega
      obtain ⟨mb, mo, x, rfl, hmb, c0, c1, hx⟩ := HEL.out i hil
      rw [← HE.out] at c0 c1
      obtain ⟨s, hs⟩ : ∃ s, s = ms.getD i ⟨#[]⟩ := ⟨_, rfl⟩
      rw [← hs] at c0
      have d0 := (HBW.out.cell (p := ⟨mb, mo + e, none⟩) hmb).trans c0
      have d1 := (HBW.out.cell (p := ⟨mb, mo + (e + 1), none⟩) hmb).trans c1
      have hxw : GoV wr (fun y => True ∧ y ≠ w.heap.size) (l.getD i V.nil) x := GoV.keep (fun z _ hz => ⟨⟨trivial, by omega⟩, HBW.out.block z hz⟩) _ hx
      obtain ⟨o, hmu, hmx⟩ := HMX.out.update (dAsc ms i) (by have := dLe ms l i; have := dLen ms l i; have := HN.out.2.2; omega) s hxw
      have hst := fun W => strval_walk s W
      have HX2 := Lib.hid (And.intro hmx hs)
      have HIK := Lib.hid hik
      have htn : ((e : Int) + 1).toNat = e + 1 := by omega
      have he0 : (0 : Int) ≤ (e : Int) := by omega
      have he1 : (0 : Int) ≤ (e : Int) + 1 := by omega
      clear hik c0 c1 hx hxw hmx hs hmb
      go_wp2_with (go_at_call 25; refine (hst _).mono ?_; rintro e w' ⟨rfl, hw'⟩; subst w')
      go_roundg mm
      case measure => exact Nat.lt_succ_self mm
      case rel =>
        obtain ⟨hmx, hs⟩ := HX2.out
        refine ⟨i + 1, e + 2, by simp, by have := HIK.out; omega, Lib.hid (by have := HE.out; omega), Lib.hid ?_, Lib.hid (below_setBlock HBW.out (Nat.le_refl _) _)⟩
        rw [hs] at hmx
        exact hmx
theorem sprigDict_walk (ms : List ByteArray) (l : List V) (hml : ms.length = l.length) (h30 : l.length ≤ 1000) (a : Addr) (c : Nat) (ys : List Value) (P : Nat → Prop) (w : World)
    (hl : RowIs w P 1 (.slice (some a) (pairsV ms l).length c) (pairsV ms l).length ys) (hv : GoVs w P (pairsV ms l) ys) :
    Calls Tryz.prog 15 #[.slice (some a) (pairsV ms l).length c] w (MapNew (dK ms l.length) (dL ms l l.length) w) := by
  have HC := Lib.hid (dict_walk ms l hml h30 a c ys P w hl hv)
  obtain ⟨N, hN⟩ : ∃ N, N = (pairsV ms l).length := ⟨_, rfl⟩
  rw [← hN] at HC ⊢
  clear hl hv hml h30 hN
  go_enter Tryz.func15, Tryz.ntmps15
  go_wp2_with (go_at_call 21; refine HC.out.mono ?_; rintro e w' ⟨b, rfl, H1, H2⟩)
  go_ret
  exact ⟨b, rfl, H1, H2⟩

set_option maxHeartbeats 4000000 in
theorem implDict_walk (ms : List ByteArray) (l : List V) (hml : ms.length = l.length) (h30 : l.length ≤ 1000) (hms : ∀ k ∈ ms, k.size ≤ 300) (hr : Rights l 8) (A : Option Addr) (c : Nat) (xs : List Value) (P : Nat → Prop) (w : World)
    (hl : RowIs w P 6 (.slice A (pairsV ms l).length c) (pairsV ms l).length xs) (hv : IsVs w P (pairsV ms l) xs) :
    Calls Tryz.prog 8 #[.slice A (pairsV ms l).length c] w (DictTwo (dK ms l.length) (dL ms l l.length) w) := by
  have hrp : Rights (pairsV ms l) 8 := Rights.of_mem (pairsV_mem ms l (fun k hk => textV_right (hms k hk)) hr.mem)
  have hfp := fines_of hrp hl hv
  have hfl : ∀ v ∈ l, Fine v := fun v hv => by
    obtain ⟨i, hi, rfl⟩ := List.mem_iff_getElem.1 hv
    have h := (pairsV_get ms l hml i hi).2
    rw [List.getD_eq_getElem?_getD, List.getElem?_eq_getElem hi] at h
    exact hfp.mem _ (List.mem_of_getElem? h)
  have hpl := pairsV_len ms l hml
  have HD := Lib.hid (dictOf_of (dAsc ms l.length) (dK_all (p := fun k => k.size ≤ maxLen) (fun k hk => by have := hms k hk; unfold maxLen; omega) l.length (by omega)) (Fines.of_mem (dL_mem (ms := ms) hfl l.length (Nat.le_refl _))) (by have := dLe ms l l.length; omega))
  have hbx := Box6.new w (.int .i64 0) (.int .i64 0) (.float .f64 0) (.string ⟨#[]⟩) (.slice none 0 0) (.slice none 0 0)
  have hb0 : Below w.heap.size w (w.alloc (box6 (.int .i64 0) (.int .i64 0) (.float .f64 0) (.string ⟨#[]⟩) (.slice none 0 0) (.slice none 0 0))) := (Below.refl _ _).alloc (Nat.le_refl _) _
  have HGL := Lib.hid (goList_walk (pairsV ms l) (by omega) (fun i h => ⟨8, hrp.at_ i h⟩) A c xs P _ (hl.keep (by omega) (Kept.below hb0)) (IsVs.keep (Kept.below hb0) _ hv))
  have HDT : Hid (∀ (a : Addr) (cap : Nat) (ys : List Value) (Q : Nat → Prop) (W : World), RowIs W Q 1 (.slice (some a) (pairsV ms l).length cap) (pairsV ms l).length ys → GoVs W Q (pairsV ms l) ys → Calls Tryz.prog 15 #[.slice (some a) (pairsV ms l).length cap] W (MapNew (dK ms l.length) (dL ms l l.length) W)) :=
    Lib.hid fun a cap ys Q W h1 h2 => sprigDict_walk ms l hml h30 a cap ys Q W h1 h2
  have HB0 := Lib.hid (And.intro hbx hb0)
  have hsf := store_float
  obtain ⟨N, hN⟩ : ∃ N, N = (pairsV ms l).length := ⟨_, rfl⟩
  rw [← hN] at HGL HDT ⊢
  have HN := Lib.hid hN
  obtain ⟨ks, hks⟩ : ∃ ks, ks = dK ms l.length := ⟨_, rfl⟩
  obtain ⟨ls, hls⟩ : ∃ ls, ls = dL ms l l.length := ⟨_, rfl⟩
  rw [← hks, ← hls] at HD HDT ⊢
  clear hrp hfp hfl hpl hbx hb0 hl hv hr hms hml h30 hN hks hls
  go_enter Tryz.func8, Tryz.ntmps8
  go_wp2_with fail
  refine (HGL.out).mono ?_
  rintro e w1 ⟨a, cap, ys, rfl, HGV, HB1⟩
  rw [← HN.out] at HGV ⊢
  obtain ⟨hbx, hb0⟩ := HB0.out
  have hbx1 := hbx.below HB1.out
  have hb1 := hb0.trans (HB1.out.mono hb0.size)
  have HC := Lib.hid (HDT.out a cap ys _ w1 HGV.out.1 HGV.out.2)
  have HBX1 := Lib.hid (And.intro hbx1 hb1)
  clear hbx hb0 hbx1 hb1 HB0 HB1 HDT
  go_wp2_with fail
  refine (HC.out).mono ?_
  rintro e w3 ⟨b, rfl, HM, HB2⟩
  obtain ⟨hbx1, hb1⟩ := HBX1.out
  have hbx3 := hbx1.below HB2.out
  have hb3 := hb1.trans (HB2.out.mono hb1.size)
  have HC3 := Lib.hid (HD.out b _ _ HM.out.is)
  have HBX3 := Lib.hid (And.intro hbx3 hb3)
  clear hbx1 hb1 hbx3 hb3 HBX1 HC HB2 HGL
  go_wp2_with fail
  refine (HC3.out).mono ?_
  rintro e w4 ⟨k4, l4, rfl, HX4, HB4⟩
  obtain ⟨hbx3, hb3⟩ := HBX3.out
  have hbx4 := hbx3.below HB4.out
  obtain ⟨⟨Ak, ck, rfl⟩, Al, cl, rfl⟩ : (∃ A c, k4 = .slice A ks.length c) ∧ ∃ A c, l4 = .slice A (norms ls).length c := by
    obtain ⟨_, h1, h2, _⟩ := HX4.out.parts
    obtain ⟨A, c, h1, _⟩ := h1.form
    obtain ⟨A', c', h2, _⟩ := h2.form
    exact ⟨⟨A, c, h1⟩, A', c', h2⟩
  obtain ⟨d0, d1, d2, d3, d4, d5⟩ := hbx4.cells
  have fz : ∀ j, w4.frozen? ⟨w.heap.size, j, none⟩ = false := fun j => by unfold Box6 at hbx4; simp [World.frozen?, hbx4]
  obtain ⟨nk, hnk⟩ : ∃ nk, nk = ks.length := ⟨_, rfl⟩
  obtain ⟨nl, hnl⟩ : ∃ nl, nl = (norms ls).length := ⟨_, rfl⟩
  rw [← hnk, ← hnl] at HX4 ⊢
  have HBX4 := Lib.hid (And.intro hbx4 hb3)
  clear hbx3 hb3 hbx4 hnk hnl
  go_wp2_with fail
  obtain ⟨w5, hw5⟩ : ∃ w5, w5 = (((((w4.setCell ⟨w.heap.size, 0, none⟩ (.int .i64 7)).setCell ⟨w.heap.size, 1, none⟩ (.int .i64 0)).setCell ⟨w.heap.size, 2, none⟩ (.float .f64 0)).setCell ⟨w.heap.size, 3, none⟩ (.string ⟨#[]⟩)).setCell ⟨w.heap.size, 4, none⟩ (.slice Ak nk ck)).setCell ⟨w.heap.size, 5, none⟩ (.slice Al nl cl) := ⟨_, rfl⟩
  rw [← hw5]
  obtain ⟨hb2, ho2, hl2⟩ := set6 HBX4.out.1 _ _ _ _ _ _ hw5
  have e0 : w5.cell? ⟨w.heap.size, 0, none⟩ = some (.int .i64 7) := by rw [blk_cell hb2]; rfl
  have e1 : w5.cell? ⟨w.heap.size, 1, none⟩ = some (.int .i64 0) := by rw [blk_cell hb2]; rfl
  have e2 : w5.cell? ⟨w.heap.size, 2, none⟩ = some (.float .f64 0) := by rw [blk_cell hb2]; rfl
  have e3 : w5.cell? ⟨w.heap.size, 3, none⟩ = some (.string ⟨#[]⟩) := by rw [blk_cell hb2]; rfl
  have e4 : w5.cell? ⟨w.heap.size, 4, none⟩ = some (.slice Ak nk ck) := by rw [blk_cell hb2]; rfl
  have e5 : w5.cell? ⟨w.heap.size, 5, none⟩ = some (.slice Al nl cl) := by rw [blk_cell hb2]; rfl
  refine bodyPost_ret (v := .tuple #[.agg #[.int .i64 7, .int .i64 0, .float .f64 0, .string ⟨#[]⟩, .slice Ak nk ck, .slice Al nl cl], .bool true]) (by simp [results, Tryz.results8, go_sem, e0, e1, e2, e3, e4, e5]) rfl ?_
  have hs3 := HBX4.out.2.size
  have hbx := HBX3.out.1.lt
  have kk : Kept w4 w5 (fun b => w3.heap.size ≤ b) (fun b => w.heap.size ≤ b) := fun b hb _ => ⟨by have hb' : w3.heap.size ≤ b := hb; omega, ho2 b (by have hb' : w3.heap.size ≤ b := hb; omega)⟩
  exact ⟨_, _, rfl, Lib.hid (IsV.keep kk _ HX4.out), Lib.hid ((HBX4.out.2.trans (HB4.out.mono HBX4.out.2.size)).trans (hl2.mono (by omega)))⟩
end Go.Proofs.YtaclgcpfcejplaaGreatDoor.Vals
