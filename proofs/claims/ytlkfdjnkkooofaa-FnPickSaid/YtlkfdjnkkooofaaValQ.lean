/- Walks of impl.Set, impl.Unset, spec.At. -/
import Derived.Test.YtlkfdjnkkooofaaValP
namespace Go.Proofs.Ytlkfdjnkkooofaa.Vals
open Go.RowKit Go.ChangeMaps Go.Proofs.YtlkfdjnkkooofaaW.PrintWords Go.Proofs.Ytlkfdjnkkooofaa.Txt
set_option linter.unusedVariables false
set_option maxRecDepth 20000

theorem dictOf_of {ks : List ByteArray} {l : List V} (ha : Asc ks) (hs : ∀ x ∈ ks, x.size ≤ maxLen) (hf : Fines l) (h300 : l.length ≤ 100000) : DictOfOk ks l := dictOf_step ks l ha hs (fun i h => valueOf_of (hf.at_ i h)) h300
def DictTwo (ks : List ByteArray) (l : List V) (w : World) (e : Ending) (w' : World) : Prop := ∃ kv lv, e = .returned (.tuple #[.agg #[.int .i64 7, .int .i64 0, .float .f64 0, .string ⟨#[]⟩, kv, lv], .bool true]) ∧
  Hid (IsV w' (fun b => w.heap.size ≤ b) (.mk 7 0 0 ⟨#[]⟩ ks (norms l)) [.int .i64 7, .int .i64 0, .float .f64 0, .string ⟨#[]⟩, kv, lv]) ∧ Hid (Below w.heap.size w w')
abbrev box6 (c0 c1 c2 c3 c4 c5 : Value) : Obj := .cells #[c0, c1, c2, c3, c4, c5] 26
theorem box2 (w : World) (a0 a1 a2 a3 a4 a5 b0 b1 b2 b3 b4 b5 : Value) :
    Box6 ((w.alloc (box6 a0 a1 a2 a3 a4 a5)).alloc (box6 b0 b1 b2 b3 b4 b5)) w.heap.size a0 a1 a2 a3 a4 a5 ∧ Box6 ((w.alloc (box6 a0 a1 a2 a3 a4 a5)).alloc (box6 b0 b1 b2 b3 b4 b5)) (w.heap.size + 1) b0 b1 b2 b3 b4 b5 ∧
      Below w.heap.size w ((w.alloc (box6 a0 a1 a2 a3 a4 a5)).alloc (box6 b0 b1 b2 b3 b4 b5)) := by
  refine ⟨(Box6.new w _ _ _ _ _ _).below ((Below.refl _ _).alloc (Nat.le_refl _) _), ?_, ((Below.refl _ _).alloc (Nat.le_refl _) _).alloc (by simp) _⟩
  have h := Box6.new (w.alloc (box6 a0 a1 a2 a3 a4 a5)) b0 b1 b2 b3 b4 b5
  rw [World.size_alloc] at h
  exact h
theorem box3 (w : World) (a0 a1 a2 a3 a4 a5 b0 b1 b2 b3 b4 b5 c0 c1 c2 c3 c4 c5 : Value) :
    Box6 (((w.alloc (box6 a0 a1 a2 a3 a4 a5)).alloc (box6 b0 b1 b2 b3 b4 b5)).alloc (box6 c0 c1 c2 c3 c4 c5)) w.heap.size a0 a1 a2 a3 a4 a5 ∧
    Box6 (((w.alloc (box6 a0 a1 a2 a3 a4 a5)).alloc (box6 b0 b1 b2 b3 b4 b5)).alloc (box6 c0 c1 c2 c3 c4 c5)) (w.heap.size + 1) b0 b1 b2 b3 b4 b5 ∧
    Box6 (((w.alloc (box6 a0 a1 a2 a3 a4 a5)).alloc (box6 b0 b1 b2 b3 b4 b5)).alloc (box6 c0 c1 c2 c3 c4 c5)) (w.heap.size + 2) c0 c1 c2 c3 c4 c5 ∧
      Below w.heap.size w (((w.alloc (box6 a0 a1 a2 a3 a4 a5)).alloc (box6 b0 b1 b2 b3 b4 b5)).alloc (box6 c0 c1 c2 c3 c4 c5)) := by
  obtain ⟨h1, h2, h3⟩ := box2 w a0 a1 a2 a3 a4 a5 b0 b1 b2 b3 b4 b5
  refine ⟨h1.below ((Below.refl _ _).alloc (Nat.le_refl _) _), h2.below ((Below.refl _ _).alloc (Nat.le_refl _) _), ?_, h3.alloc (by simp; omega) _⟩
  have h := Box6.new ((w.alloc (box6 a0 a1 a2 a3 a4 a5)).alloc (box6 b0 b1 b2 b3 b4 b5)) c0 c1 c2 c3 c4 c5
  rw [World.size_alloc, World.size_alloc] at h
  exact h
theorem keys_size {n : Int} {r : Nat} {t : ByteArray} {ks : List ByteArray} {l : List V} {d : Int} (hR : Right (.mk 7 n r t ks l) d) : ∀ x ∈ ks, x.size ≤ maxLen := by
  unfold Right at hR
  obtain ⟨_, _, _, _, _, _, _, h8, h9, _⟩ := hR
  intro x hx
  obtain ⟨i, hi, rfl⟩ := List.mem_iff_getElem.1 hx
  have := (h9 rfl i (by have := h8 rfl; omega)).1
  simp only [List.getD_eq_getElem?_getD, List.getElem?_eq_getElem hi, Option.getD_some] at this
  unfold maxLen; omega
theorem dict_parts {n : Int} {r : Nat} {t : ByteArray} {ks : List ByteArray} {l : List V} {d : Int} (hR : Right (.mk 7 n r t ks l) d) : Asc ks ∧ Rights l (d - 1) ∧ ks.length = l.length ∧ l.length ≤ 300 := by
  have h := dictOk_of hR
  unfold Right at hR
  exact ⟨h.asc, h.r, hR.2.2.2.2.2.2.2.1 rfl, hR.2.2.2.2.1⟩
theorem put_le {α : Type} {ks : List ByteArray} {l : List α} {s : ByteArray} {u : α} : (putL ks l s u).length ≤ l.length + 1 := by
  unfold putL
  split
  · rw [List.length_set]; omega
  · simp only [List.length_append, List.length_cons, List.length_take, List.length_drop]; omega
theorem take_le {α : Type} {ks : List ByteArray} {l : List α} {s : ByteArray} : (takeL ks l s).length ≤ l.length := by
  unfold takeL
  split
  · rw [List.length_eraseIdx]; split <;> omega
  · omega

set_option maxHeartbeats 4000000 in
theorem implSet_walk (n : Int) (r : Nat) (t : ByteArray) (ks : List ByteArray) (l : List V) (hR : Right (.mk 7 n r t ks l) 8) (s : ByteArray) (hs : s.size ≤ maxLen) (u : V) (hu : Right u 8) (kv lv ku lu : Value) (P Q : Nat → Prop) (w : World)
    (h : IsV w P (.mk 7 n r t ks l) [.int .i64 7, .int .i64 n, .float .f64 r, .string t, kv, lv]) (hi : IsV w Q u [.int .i64 u.k, .int .i64 u.n, .float .f64 u.r, .string u.t, ku, lu]) :
    Calls Try.prog 20 #[.agg #[.int .i64 7, .int .i64 n, .float .f64 r, .string t, kv, lv], .string s, .agg #[.int .i64 u.k, .int .i64 u.n, .float .f64 u.r, .string u.t, ku, lu]] w (DictTwo (putK ks s) (putL ks l s u) w) := by
  obtain ⟨hasc, hrl, hlen, h300⟩ := dict_parts hR
  have hfd : Fine (.mk 7 n r t ks l) := fine_of hR h
  have hfl : Fines l := by unfold Fine at hfd; exact hfd.2.2.2.2.2
  have HD := Lib.hid (dictOf_of (hasc.put s) (putK_all (keys_size hR) hs) (Fines.of_mem (putL_mem (ks := ks) (s := s) hfl.mem (fine_of hu hi))) (by have := put_le (ks := ks) (l := l) (s := s) (u := u); omega))
  have HB0 := Lib.hid (box3 w (.int .i64 7) (.int .i64 n) (.float .f64 r) (.string t) kv lv (.int .i64 u.k) (.int .i64 u.n) (.float .f64 u.r) (.string u.t) ku lu (.int .i64 0) (.int .i64 0) (.float .f64 0) (.string ⟨#[]⟩) (.slice none 0 0) (.slice none 0 0))
  have HG := Lib.hid (goDictX_walk n r t ks l 8 hR kv lv P _ (IsV.keep (Kept.below HB0.out.2.2.2) _ h))
  have HO : Hid (∀ W, Below w.heap.size w W → Calls Try.prog 45 #[.agg #[.int .i64 u.k, .int .i64 u.n, .float .f64 u.r, .string u.t, ku, lu]] W (GoRes u W)) := Lib.hid fun W hW => goOf_walk u 8 hu ku lu Q W (IsV.keep (Kept.below hW) u hi)
  have HAS := Lib.hid (And.intro hasc (by omega : ks.length ≤ 100000))
  have hsf := store_float
  clear hR hu h hi hasc hrl hlen h300 hfd hfl hs
  go_enter Try.func20, Try.ntmps20
  go_wp2_with fail
  refine (HG.out).mono ?_
  rintro e w1 ⟨b, rfl, HX, HB1⟩
  have hbx1 := HB0.out.1.below HB1.out
  have hbx2 := HB0.out.2.1.below HB1.out
  have hbx3 := HB0.out.2.2.1.below HB1.out
  have hb1 : Below w.heap.size w w1 := HB0.out.2.2.2.trans (HB1.out.mono HB0.out.2.2.2.size)
  have hbl : w.heap.size + 3 ≤ b := by obtain ⟨_, _, _, h, _⟩ := HX.out; simpa using h
  have hbw : b < w1.heap.size := by obtain ⟨_, _, _, _, h, _⟩ := HX.out; exact blk_lt h
  have HX1 : Hid (MapX w1 (fun x => w.heap.size + 3 ≤ x) ks l b) := Lib.hid (HX.out.keep (Kept.mono fun x hx _ => by simpa using hx))
  obtain ⟨d0, d1, d2, d3, d4, d5⟩ := hbx2.cells
  have HC := Lib.hid (HO.out w1 hb1)
  have HBX1 := Lib.hid (And.intro hbx1 (And.intro hbx2 (And.intro hbx3 (And.intro hb1 (And.intro hbl hbw)))))
  clear hbx1 hbx2 hbx3 hb1 hbl hbw HX HG
  go_wp2_with fail
  refine (HC.out).mono ?_
  rintro e w2 ⟨x, rfl, HGV, HB2⟩
  obtain ⟨hbx1, hbx2, hbx3, hb1, hbl, hbw⟩ := HBX1.out
  have hbx3' := hbx3.below HB2.out
  have hb2 := hb1.trans (HB2.out.mono hb1.size)
  have hs2 := HB2.out.size
  have hs1 := hb1.size
  have hset := sprigSet_walk b s u x ks l (fun x => w.heap.size + 3 ≤ x) w2 (HX1.out.keep (Kept.below HB2.out)) HAS.out.1 HAS.out.2 (GoV.keep (Kept.mono fun y hy _ => by have hy' : w1.heap.size ≤ y := hy; exact ⟨by show w.heap.size + 3 ≤ y; omega, by omega⟩) _ HGV.out)
  have HC2 := Lib.hid hset
  have HBX2 := Lib.hid (And.intro hbx3' (And.intro hb2 (And.intro hbl (by omega : b < w2.heap.size))))
  clear d0 d1 d2 d3 d4 d5 hbx1 hbx2 hbx3 hb1 hbl hbw hbx3' hb2 hs2 hs1 hset HC HX1 HBX1
  go_wp2_with fail
  refine (HC2.out).mono ?_
  rintro e w3 ⟨rfl, o, rfl, HM⟩
  obtain ⟨hbx3, hb2, hbl, hbw⟩ := HBX2.out
  have hc := HD.out b _ _ HM.out.is
  obtain ⟨w3, hw3⟩ : ∃ w3, w3 = setBlock w2 b o := ⟨_, rfl⟩
  have hb3 : Below w.heap.size w w3 := by rw [hw3]; exact below_setBlock hb2 (by omega) _
  have hbx3' : Box6 w3 (w.heap.size + 2) (.int .i64 0) (.int .i64 0) (.float .f64 0) (.string ⟨#[]⟩) (.slice none 0 0) (.slice none 0 0) := by rw [hw3]; exact (setBlock_other o (by omega)).trans hbx3
  rw [← hw3] at hc ⊢
  have HC3 := Lib.hid hc
  have HBX3 := Lib.hid (And.intro hbx3' hb3)
  clear hbx3 hb2 hbl hbw hc hw3 hb3 hbx3' HM HBX2
  go_wp2_with fail
  refine (HC3.out).mono ?_
  rintro e w4 ⟨k4, l4, rfl, HX4, HB4⟩
  obtain ⟨hbx3, hb3⟩ := HBX3.out
  have hbx4 := hbx3.below HB4.out
  obtain ⟨⟨Ak, ck, rfl⟩, Al, cl, rfl⟩ : (∃ A c, k4 = .slice A (putK ks s).length c) ∧ ∃ A c, l4 = .slice A (norms (putL ks l s u)).length c := by
    obtain ⟨_, h1, h2, _⟩ := HX4.out.parts
    obtain ⟨A, c, h1, _⟩ := h1.form
    obtain ⟨A', c', h2, _⟩ := h2.form
    exact ⟨⟨A, c, h1⟩, A', c', h2⟩
  obtain ⟨d0, d1, d2, d3, d4, d5⟩ := hbx4.cells
  have fz : ∀ j, w4.frozen? ⟨w.heap.size + 2, j, none⟩ = false := fun j => by unfold Box6 at hbx4; simp [World.frozen?, hbx4]
  obtain ⟨nk, hnk⟩ : ∃ nk, nk = (putK ks s).length := ⟨_, rfl⟩
  obtain ⟨nl, hnl⟩ : ∃ nl, nl = (norms (putL ks l s u)).length := ⟨_, rfl⟩
  rw [← hnk, ← hnl] at HX4 ⊢
  have HBX4 := Lib.hid (And.intro hbx4 hb3)
  clear hbx3 hb3 hbx4 hnk hnl
  go_wp2_with fail
  obtain ⟨w5, hw5⟩ : ∃ w5, w5 = (((((w4.setCell ⟨w.heap.size + 2, 0, none⟩ (.int .i64 7)).setCell ⟨w.heap.size + 2, 1, none⟩ (.int .i64 0)).setCell ⟨w.heap.size + 2, 2, none⟩ (.float .f64 0)).setCell ⟨w.heap.size + 2, 3, none⟩ (.string ⟨#[]⟩)).setCell ⟨w.heap.size + 2, 4, none⟩ (.slice Ak nk ck)).setCell ⟨w.heap.size + 2, 5, none⟩ (.slice Al nl cl) := ⟨_, rfl⟩
  rw [← hw5]
  obtain ⟨hb2, ho2, hl2⟩ := set6 HBX4.out.1 _ _ _ _ _ _ hw5
  have e0 : w5.cell? ⟨w.heap.size + 2, 0, none⟩ = some (.int .i64 7) := by rw [blk_cell hb2]; rfl
  have e1 : w5.cell? ⟨w.heap.size + 2, 1, none⟩ = some (.int .i64 0) := by rw [blk_cell hb2]; rfl
  have e2 : w5.cell? ⟨w.heap.size + 2, 2, none⟩ = some (.float .f64 0) := by rw [blk_cell hb2]; rfl
  have e3 : w5.cell? ⟨w.heap.size + 2, 3, none⟩ = some (.string ⟨#[]⟩) := by rw [blk_cell hb2]; rfl
  have e4 : w5.cell? ⟨w.heap.size + 2, 4, none⟩ = some (.slice Ak nk ck) := by rw [blk_cell hb2]; rfl
  have e5 : w5.cell? ⟨w.heap.size + 2, 5, none⟩ = some (.slice Al nl cl) := by rw [blk_cell hb2]; rfl
  refine bodyPost_ret (v := .tuple #[.agg #[.int .i64 7, .int .i64 0, .float .f64 0, .string ⟨#[]⟩, .slice Ak nk ck, .slice Al nl cl], .bool true]) (by simp [results, Try.results20, go_sem, e0, e1, e2, e3, e4, e5]) rfl ?_
  have hs3 := HBX4.out.2.size
  have hbx := HBX3.out.1.lt
  have kk : Kept w4 w5 (fun b => w3.heap.size ≤ b) (fun b => w.heap.size ≤ b) := fun b hb _ => ⟨by have hb' : w3.heap.size ≤ b := hb; omega, ho2 b (by have hb' : w3.heap.size ≤ b := hb; omega)⟩
  exact ⟨_, _, rfl, Lib.hid (IsV.keep kk _ HX4.out), Lib.hid ((HBX4.out.2.trans (HB4.out.mono HBX4.out.2.size)).trans (hl2.mono (by omega)))⟩

set_option maxHeartbeats 4000000 in
theorem implUnset_walk (n : Int) (r : Nat) (t : ByteArray) (ks : List ByteArray) (l : List V) (hR : Right (.mk 7 n r t ks l) 8) (s : ByteArray) (kv lv : Value) (P : Nat → Prop) (w : World)
    (h : IsV w P (.mk 7 n r t ks l) [.int .i64 7, .int .i64 n, .float .f64 r, .string t, kv, lv]) :
    Calls Try.prog 21 #[.agg #[.int .i64 7, .int .i64 n, .float .f64 r, .string t, kv, lv], .string s] w (DictTwo (takeK ks s) (takeL ks l s) w) := by
  obtain ⟨hasc, hrl, hlen, h300⟩ := dict_parts hR
  have hfd : Fine (.mk 7 n r t ks l) := fine_of hR h
  have hfl : Fines l := by unfold Fine at hfd; exact hfd.2.2.2.2.2
  have HD := Lib.hid (dictOf_of (hasc.take s) (takeK_all (s := s) (keys_size hR)) (Fines.of_mem (takeL_mem (ks := ks) (s := s) hfl.mem)) (by have := take_le (ks := ks) (l := l) (s := s); omega))
  have HB0 := Lib.hid (box2 w (.int .i64 7) (.int .i64 n) (.float .f64 r) (.string t) kv lv (.int .i64 0) (.int .i64 0) (.float .f64 0) (.string ⟨#[]⟩) (.slice none 0 0) (.slice none 0 0))
  have HG := Lib.hid (goDictX_walk n r t ks l 8 hR kv lv P _ (IsV.keep (Kept.below HB0.out.2.2) _ h))
  have HAS := Lib.hid (And.intro hasc (by omega : ks.length ≤ 100000))
  have hsf := store_float
  clear hR h hasc hrl hlen h300 hfd hfl
  go_enter Try.func21, Try.ntmps21
  go_wp2_with fail
  refine (HG.out).mono ?_
  rintro e w2 ⟨b, rfl, HX, HB1⟩
  have hbx3 := HB0.out.2.1.below HB1.out
  have hb2 : Below w.heap.size w w2 := HB0.out.2.2.trans (HB1.out.mono HB0.out.2.2.size)
  have hbl : w.heap.size + 2 ≤ b := by obtain ⟨_, _, _, h, _⟩ := HX.out; simpa using h
  have HC2 := Lib.hid (sprigUnset_walk b s ks l _ w2 HX.out HAS.out.1)
  have HBX2 := Lib.hid (And.intro hbx3 (And.intro hb2 hbl))
  clear hbx3 hb2 hbl HX HG
  go_wp2_with fail
  refine (HC2.out).mono ?_
  rintro e w3 ⟨rfl, o, rfl, HM⟩
  obtain ⟨hbx3, hb2, hbl⟩ := HBX2.out
  have hc := HD.out b _ _ HM.out.is
  obtain ⟨w3, hw3⟩ : ∃ w3, w3 = setBlock w2 b o := ⟨_, rfl⟩
  have hb3 : Below w.heap.size w w3 := by rw [hw3]; exact below_setBlock hb2 (by omega) _
  have hbx3' : Box6 w3 (w.heap.size + 1) (.int .i64 0) (.int .i64 0) (.float .f64 0) (.string ⟨#[]⟩) (.slice none 0 0) (.slice none 0 0) := by rw [hw3]; exact (setBlock_other o (by omega)).trans hbx3
  rw [← hw3] at hc ⊢
  have HC3 := Lib.hid hc
  have HBX3 := Lib.hid (And.intro hbx3' hb3)
  clear hbx3 hb2 hbl hc hw3 hb3 hbx3' HM HBX2
  go_wp2_with fail
  refine (HC3.out).mono ?_
  rintro e w4 ⟨k4, l4, rfl, HX4, HB4⟩
  obtain ⟨hbx3, hb3⟩ := HBX3.out
  have hbx4 := hbx3.below HB4.out
  obtain ⟨⟨Ak, ck, rfl⟩, Al, cl, rfl⟩ : (∃ A c, k4 = .slice A (takeK ks s).length c) ∧ ∃ A c, l4 = .slice A (norms (takeL ks l s)).length c := by
    obtain ⟨_, h1, h2, _⟩ := HX4.out.parts
    obtain ⟨A, c, h1, _⟩ := h1.form
    obtain ⟨A', c', h2, _⟩ := h2.form
    exact ⟨⟨A, c, h1⟩, A', c', h2⟩
  obtain ⟨d0, d1, d2, d3, d4, d5⟩ := hbx4.cells
  have fz : ∀ j, w4.frozen? ⟨w.heap.size + 1, j, none⟩ = false := fun j => by unfold Box6 at hbx4; simp [World.frozen?, hbx4]
  obtain ⟨nk, hnk⟩ : ∃ nk, nk = (takeK ks s).length := ⟨_, rfl⟩
  obtain ⟨nl, hnl⟩ : ∃ nl, nl = (norms (takeL ks l s)).length := ⟨_, rfl⟩
  rw [← hnk, ← hnl] at HX4 ⊢
  have HBX4 := Lib.hid (And.intro hbx4 hb3)
  clear hbx3 hb3 hbx4 hnk hnl
  go_wp2_with fail
  obtain ⟨w5, hw5⟩ : ∃ w5, w5 = (((((w4.setCell ⟨w.heap.size + 1, 0, none⟩ (.int .i64 7)).setCell ⟨w.heap.size + 1, 1, none⟩ (.int .i64 0)).setCell ⟨w.heap.size + 1, 2, none⟩ (.float .f64 0)).setCell ⟨w.heap.size + 1, 3, none⟩ (.string ⟨#[]⟩)).setCell ⟨w.heap.size + 1, 4, none⟩ (.slice Ak nk ck)).setCell ⟨w.heap.size + 1, 5, none⟩ (.slice Al nl cl) := ⟨_, rfl⟩
  rw [← hw5]
  obtain ⟨hb2, ho2, hl2⟩ := set6 HBX4.out.1 _ _ _ _ _ _ hw5
  have e0 : w5.cell? ⟨w.heap.size + 1, 0, none⟩ = some (.int .i64 7) := by rw [blk_cell hb2]; rfl
  have e1 : w5.cell? ⟨w.heap.size + 1, 1, none⟩ = some (.int .i64 0) := by rw [blk_cell hb2]; rfl
  have e2 : w5.cell? ⟨w.heap.size + 1, 2, none⟩ = some (.float .f64 0) := by rw [blk_cell hb2]; rfl
  have e3 : w5.cell? ⟨w.heap.size + 1, 3, none⟩ = some (.string ⟨#[]⟩) := by rw [blk_cell hb2]; rfl
  have e4 : w5.cell? ⟨w.heap.size + 1, 4, none⟩ = some (.slice Ak nk ck) := by rw [blk_cell hb2]; rfl
  have e5 : w5.cell? ⟨w.heap.size + 1, 5, none⟩ = some (.slice Al nl cl) := by rw [blk_cell hb2]; rfl
  refine bodyPost_ret (v := .tuple #[.agg #[.int .i64 7, .int .i64 0, .float .f64 0, .string ⟨#[]⟩, .slice Ak nk ck, .slice Al nl cl], .bool true]) (by simp [results, Try.results21, go_sem, e0, e1, e2, e3, e4, e5]) rfl ?_
  have hs3 := HBX4.out.2.size
  have hbx := HBX3.out.1.lt
  have kk : Kept w4 w5 (fun b => w3.heap.size ≤ b) (fun b => w.heap.size ≤ b) := fun b hb _ => ⟨by have hb' : w3.heap.size ≤ b := hb; omega, ho2 b (by have hb' : w3.heap.size ≤ b := hb; omega)⟩
  exact ⟨_, _, rfl, Lib.hid (IsV.keep kk _ HX4.out), Lib.hid ((HBX4.out.2.trans (HB4.out.mono HBX4.out.2.size)).trans (hl2.mono (by omega)))⟩

/-! ### spec.At -/
set_option maxHeartbeats 2000000 in
theorem specAt_walk (k n : Int) (r : Nat) (t : ByteArray) (ks : List ByteArray) (A : Option Addr) (c : Nat) (lv : Value) (s : ByteArray) (P : Nat → Prop) (w : World)
    (hk : RowIs w P 1 (.slice A ks.length c) ks.length (ks.map Value.string)) :
    Calls Try.prog 31 #[.agg #[.int .i64 k, .int .i64 n, .float .f64 r, .string t, .slice A ks.length c, lv], .string s] w
      fun e w' => e = .returned (.tuple #[.int .i64 (atD ks s : Int), .bool (isD ks s)]) ∧ Below w.heap.size w w' := by
  have hke : ∀ i (hi : i < ks.length), ∃ b o, A = some ⟨b, o, none⟩ ∧ b < w.heap.size ∧ w.cell? ⟨b, o + i, none⟩ = some (.string ks[i]) := fun i hi => by
    obtain ⟨b, o, hA, _, hc⟩ := hk.elem (by omega)
    have := hc i (.string ks[i]) (by simp [hi])
    exact ⟨b, o, hA, World.block_lt_of_cell? w _ this, this⟩
  obtain ⟨hnc, hcm⟩ := hk.sizes
  unfold maxLen at hcm
  have HKE := Lib.hid hke
  obtain ⟨at0, hat⟩ : ∃ a, a = atD ks s := ⟨_, rfl⟩
  obtain ⟨is0, his⟩ : ∃ b, b = isD ks s := ⟨_, rfl⟩
  rw [← hat, ← his]
  have HAT := Lib.hid hat
  have HIS := Lib.hid his
  obtain ⟨m, hm⟩ : ∃ m, m = ks.length := ⟨_, rfl⟩
  rw [← hm] at hnc ⊢
  have HM := Lib.hid hm
  have HB0 := Lib.hid (Box6.new w (.int .i64 k) (.int .i64 n) (.float .f64 r) (.string t) (.slice A m c) lv)
  have HBW := Lib.hid ((Below.refl w.heap.size w).alloc (Nat.le_refl _) (box6 (.int .i64 k) (.int .i64 n) (.float .f64 r) (.string t) (.slice A m c) lv))
  clear hk hke hat his hm
  have hsf := store_float
  go_enter Try.func31, Try.ntmps31
  go_wp2_with fail
  obtain ⟨w1, hw1⟩ : ∃ w1, w1 = w.alloc (.cells #[.int .i64 k, .int .i64 n, .float .f64 r, .string t, .slice A m c, lv] 26) := ⟨_, rfl⟩
  have hbx : Box6 w1 w.heap.size (.int .i64 k) (.int .i64 n) (.float .f64 r) (.string t) (.slice A m c) lv := by rw [hw1]; exact HB0.out
  have hbw : Below w.heap.size w w1 := by rw [hw1]; exact HBW.out
  rw [← hw1]
  have HB1 := Lib.hid hbw
  obtain ⟨_, _, _, _, d4, _⟩ := hbx.cells
  clear hw1 HBW HB0 hbw hbx
  go_loopg [6] m (fun kq v6 wr => ∃ (i : Nat), wr = w1 ∧ v6 = .int .i64 (i : Int) ∧ i + kq = m ∧ Hid (∀ j (h : j < ks.length), j < i → lessB ks[j] s = true))
  case atStart => exact ⟨0, rfl, rfl, by omega, Lib.hid (fun j _ hj => by omega)⟩
  case round =>
    obtain ⟨i, rfl, rfl, hik, H1⟩ := hrel
    cases gk with
    | zero =>
      have hi : ¬ i < m := by omega
      have him : i = m := by omega
      have hA : at0 = i := by rw [HAT.out]; exact atD_of (by rw [him, HM.out]; exact Nat.le_refl _) H1.out (fun h => by have := HM.out; omega)
      have hI : is0 = false := by
        rw [HIS.out]; unfold isD
        have : atD ks s = i := by rw [← HAT.out]; exact hA
        rw [this, List.getElem?_eq_none (by have := HM.out; omega)]; simp
      subst hA
      subst hI
      have hd : decide ((at0 : Int) < (m : Int)) = false := by simp; omega
      have hd2 : decide (at0 < m) = false := by simp; omega
      clear hik him
      go_wp2_with fail
      go_quiet (fail)
      go_wp2_with fail
      go_ret2
      exact ⟨rfl, HB1.out.trans (c := wr.drewN nq) ⟨rfl, rfl, rfl, Nat.le_refl _, fun _ _ => rfl⟩⟩
    | succ mm =>
      have hi : i < m := by omega
      have hi' : i < ks.length := by have := HM.out; omega
      obtain ⟨b, o, hA, hbs, e0⟩ := HKE.out i hi'
      subst hA
      obtain ⟨q, hq⟩ : ∃ q, q = ks[i] := ⟨_, rfl⟩
      rw [← hq] at e0
      have g0 := (HB1.out.cell (p := ⟨b, o + i, none⟩) hbs).trans e0
      have hii0 : (0 : Int) ≤ (i : Int) := by omega
      have hiin : (i : Int) < (m : Int) := by omega
      have HQ := Lib.hid hq
      have HIK := Lib.hid hik
      clear e0 hq hik
      cases hl : Op.bytesLess q.toList s.toList with
      | true =>
        have HL := Lib.hid hl
        go_wp2_with fail
        go_roundg mm
        case measure => exact Nat.lt_succ_self mm
        case rel =>
          refine ⟨i + 1, rfl, by simp, by have := HIK.out; omega, Lib.hid (fun j hj hji => ?_)⟩
          by_cases e : j = i
          · subst e; rw [← HQ.out]; exact HL.out
          · exact H1.out j hj (by omega)
      | false =>
        have hA : at0 = i := by rw [HAT.out]; exact atD_of (by omega) H1.out (fun _ => by rw [← HQ.out]; exact hl)
        have hI : is0 = (q.toList == s.toList) := by
          rw [HIS.out]; unfold isD
          have : atD ks s = i := by rw [← HAT.out]; exact hA
          rw [this, List.getElem?_eq_getElem hi', ← HQ.out, Bool.eq_iff_iff]
          simp only [decide_eq_true_eq, Option.some.injEq, beq_iff_eq]
          exact ⟨fun h => by rw [h], fun h => ext_eq h⟩
        subst hA
        have HI := Lib.hid hI
        have hd : decide ((at0 : Int) < (m : Int)) = true := by simp; omega
        have hd2 : decide (at0 < m) = true := by simp; omega
        clear hI
        go_wp2_with fail
        go_quiet (fail)
        go_wp2_with fail
        go_ret2
        exact ⟨by rw [HI.out]; rfl, HB1.out.trans (c := wr.drewN nq) ⟨rfl, rfl, rfl, Nat.le_refl _, fun _ _ => rfl⟩⟩
end Go.Proofs.Ytlkfdjnkkooofaa.Vals
