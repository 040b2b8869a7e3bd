/- Walks of sprig's slice of a list between two places, and of impl.Slice. -/
import Derived.Test.YtaclgcpfcejplaaDoorValE2
import Derived.Test.YtaclgcpfcejplaaDoorValT
import Derived.Test.YtaclgcpfcejplaaDoorNumI
import Derived.Test.YtaclgcpfcejplaaDoorCaught
namespace Go.Proofs.YtaclgcpfcejplaaDoor.Vals
open Go.RowKit Go.Proofs.YtaclgcpfcejplaaDoorW.PrintWords Go.Proofs.YtaclgcpfcejplaaDoor.Txt
set_option linter.unusedVariables false
set_option maxRecDepth 20000

/-- A part of a row, between two places: where it begins doesn't matter if it has no capacity. -/
theorem RowIs.part {w : World} {P : Nat → Prop} {s b o n c i j : Nat} {xs : List Value} {A : Option Addr} (h : RowIs w P s (.slice (some ⟨b, o, none⟩) n c) n xs) (hn : 0 < n) (hij : i ≤ j) (hj : j ≤ n) (hA : i < j → A = some ⟨b, o + i * s, none⟩) :
    RowIs w P s (.slice A (j - i) (c - i)) (j - i) ((xs.drop (i * s)).take ((j - i) * s)) := by
  obtain ⟨h1, h2⟩ := h.sizes
  obtain ⟨_, _, _, _, _, hx⟩ := h.form
  obtain ⟨b', o', hA', hP, hc⟩ := h.elem hn
  injection hA' with hA'
  injection hA' with hb ho
  subst hb; subst ho
  refine ⟨_, _, rfl, by omega, by omega, ?_, fun h0 => ⟨b, o + i * s, hA (by omega), hP, fun k u hu => ?_⟩⟩
  · rw [List.length_take, List.length_drop, hx, Nat.sub_mul]
    have : j * s ≤ n * s := Nat.mul_le_mul_right _ hj
    omega
  · rw [List.getElem?_take] at hu
    split at hu
    · rw [List.getElem?_drop] at hu
      rw [Nat.add_assoc]
      exact hc _ _ hu
    · cases hu

def SliceRes (P : Nat → Prop) (m : Nat) (ys : List Value) (w : World) (e : Ending) (w' : World) : Prop := ∃ A c, e = .returned (.tuple #[.iface 34 (.slice A m c), .nilIface]) ∧ Hid (RowIs w' P 1 (.slice A m c) m ys) ∧ Hid (Below w.heap.size w w')
theorem mustSlice_walk (b o n c : Nat) (xs : List Value) (P : Nat → Prop) (w : World) (h : RowIs w P 1 (.slice (some ⟨b, o, none⟩) n c) n xs) (hn : 0 < n) (i j : Nat) (hij : i ≤ j) (hj : j ≤ n) (ib : Nat) (c0 : w.cell? ⟨ib, 0, none⟩ = some (Giv.boxI i)) (c1 : w.cell? ⟨ib, 1, none⟩ = some (Giv.boxI j)) :
    Calls Tryd.prog 18 #[.iface 34 (.slice (some ⟨b, o, none⟩) n c), .slice (some ⟨ib, 0, none⟩) 2 2] w (SliceRes P (j - i) ((xs.drop i).take (j - i)) w) := by
  have hz := zzList_walk ⟨b, o, none⟩ n c
  have HP := Lib.hid h
  obtain ⟨h1, h2⟩ := h.sizes
  unfold maxLen at h2
  have HI := Lib.hid (fun W => Giv.toInt_boxed i W)
  have HJ := Lib.hid (fun W => Giv.toInt_boxed j W)
  have hib : ib < w.heap.size := World.block_lt_of_cell? w _ c0
  have HCC := Lib.hid (And.intro c0 (And.intro c1 hib))
  unfold Giv.boxI at c0 c1 HI HJ
  have hn0 : ((n : Int) == 0) = false := by simp; omega
  clear h hib
  go_enter Tryd.func18, Tryd.ntmps18
  go_wp2_with (go_at_call 21; refine (hz _).mono ?_; rintro e w' ⟨rfl, hw'⟩; subst w')
  refine (HI.out _).mono ?_
  rintro e w1 ⟨rfl, ⟨nd, rfl⟩⟩
  go_wp2_with fail
  refine (HJ.out _).mono ?_
  rintro e w2 ⟨rfl, ⟨nd2, rfl⟩⟩
  have hjc : (j : Int) ≤ (c : Int) := by omega
  have hij' : (i : Int) ≤ (j : Int) := by omega
  have hi0 : (0 : Int) ≤ (i : Int) := by omega
  have hbd : Below w.heap.size w (w.drewN (nd + nd2)) := ⟨rfl, rfl, rfl, Nat.le_refl _, fun _ _ => rfl⟩
  have HR : Hid (∀ A, (i < j → A = some ⟨b, o + i, none⟩) → RowIs (w.drewN (nd + nd2)) P 1 (.slice A (j - i) (c - i)) (j - i) ((xs.drop i).take (j - i))) := Lib.hid fun A hA => by
    have := (HP.out.part (A := A) hn hij hj (by simpa using hA)).keep (by omega) (Kept.below hbd)
    simpa using this
  have HB := Lib.hid hbd
  clear hbd
  go_wp2_with fail
  all_goals (
    go_ret2
    first
    | exact ⟨_, _, rfl, Lib.hid (HR.out _ (fun h => rfl)), HB⟩
    | exact ⟨_, _, rfl, Lib.hid (by have h := HR.out (some ⟨b, o, none⟩) (fun h => by omega); rwa [show c - i = 0 by omega] at h), HB⟩)

theorem sprigSlice_walk (b o n c : Nat) (xs : List Value) (P : Nat → Prop) (w : World) (h : RowIs w P 1 (.slice (some ⟨b, o, none⟩) n c) n xs) (hn : 0 < n) (i j : Nat) (hij : i ≤ j) (hj : j ≤ n) (ib : Nat) (c0 : w.cell? ⟨ib, 0, none⟩ = some (Giv.boxI i)) (c1 : w.cell? ⟨ib, 1, none⟩ = some (Giv.boxI j)) :
    Calls Tryd.prog 12 #[.iface 34 (.slice (some ⟨b, o, none⟩) n c), .slice (some ⟨ib, 0, none⟩) 2 2] w (SliceRes P (j - i) ((xs.drop i).take (j - i)) w) := by
  have HM := Lib.hid (mustSlice_walk b o n c xs P w h hn i j hij hj ib c0 c1)
  clear h c0 c1
  go_enter Tryd.func12, Tryd.ntmps12
  go_wp2_with (go_at_call 18; refine HM.out.mono ?_; rintro e w' ⟨A, c', rfl, H1, H2⟩)
  go_ret2
  exact ⟨A, c', rfl, H1, H2⟩
set_option maxHeartbeats 4000000 in
theorem sliceClosure_walk (b o n c : Nat) (xs : List Value) (B : Nat) (i j : Nat) (hij : i ≤ j) (hj : j ≤ n) (hn : 0 < n) (px p1 p2 pz pe : Nat) (z0 z1 : Value) (W : World)
    (h : RowIs W (fun z => z < B) 1 (.slice (some ⟨b, o, none⟩) n c) n xs) (hB : B ≤ W.heap.size) (cx : W.cell? ⟨px, 0, none⟩ = some (.slice (some ⟨b, o, none⟩) n c)) (k1 : W.cell? ⟨p1, 0, none⟩ = some (.int .i64 i)) (k2 : W.cell? ⟨p2, 0, none⟩ = some (.int .i64 j))
    (cz : W.cell? ⟨pz, 0, none⟩ = some z0) (fz : W.frozen? ⟨pz, 0, none⟩ = false) (ce : W.cell? ⟨pe, 0, none⟩ = some z1) (fe : W.frozen? ⟨pe, 0, none⟩ = false) (hze : pz ≠ pe) :
    Calls Tryd.prog 11 #[.pointer (some ⟨px, 0, none⟩), .pointer (some ⟨p1, 0, none⟩), .pointer (some ⟨p2, 0, none⟩), .pointer (some ⟨pz, 0, none⟩), .pointer (some ⟨pe, 0, none⟩)] W
      fun e w' => e = .returned (.tuple #[]) ∧ ∃ A c' W2, Hid (RowIs W2 (fun z => z < B) 1 (.slice A (j - i) c') (j - i) ((xs.drop i).take (j - i))) ∧ Hid (Below W.heap.size W W2) ∧ w' = (W2.setCell ⟨pz, 0, none⟩ (.iface 34 (.slice A (j - i) c'))).setCell ⟨pe, 0, none⟩ .nilIface := by
  have HS : Hid (∀ W1, Below W.heap.size W W1 → ∀ ib, W1.cell? ⟨ib, 0, none⟩ = some (Giv.boxI i) → W1.cell? ⟨ib, 1, none⟩ = some (Giv.boxI j) → Calls Tryd.prog 12 #[.iface 34 (.slice (some ⟨b, o, none⟩) n c), .slice (some ⟨ib, 0, none⟩) 2 2] W1 (SliceRes (fun z => z < B) (j - i) ((xs.drop i).take (j - i)) W1)) :=
    Lib.hid fun W1 hb ib d0 d1 => sprigSlice_walk b o n c xs _ W1 (h.keep (by omega) (Kept.below hb)) hn i j hij hj ib d0 d1
  have hpz : pz < W.heap.size := World.block_lt_of_cell? W _ cz
  have hpe : pe < W.heap.size := World.block_lt_of_cell? W _ ce
  have HZ := Lib.hid (And.intro hpz (And.intro hpe hze))
  have HCZ := Lib.hid (And.intro cz (And.intro fz (And.intro ce fe)))
  clear h hpz hpe cz fz ce fe
  go_enter Tryd.func11, Tryd.ntmps11
  go_wp2_with fail
  have hal : Below W.heap.size W (W.alloc (.cells #[.iface 3 (.int .i64 i), .iface 3 (.int .i64 j)] 20)) := (Below.refl _ _).alloc (Nat.le_refl _) _
  have hnw := heap_alloc_new W (.cells #[.iface 3 (.int .i64 i), .iface 3 (.int .i64 j)] 20)
  have hcs := HS.out _ hal W.heap.size (by rw [blk_cell hnw]; rfl) (by rw [blk_cell hnw]; rfl)
  have HAL := Lib.hid hal
  clear hal hnw HS
  refine hcs.mono ?_
  rintro e w2 ⟨A, c', rfl, HR, HB2⟩
  clear hcs
  have hbw : Below W.heap.size W w2 := HAL.out.trans (HB2.out.mono HAL.out.size)
  have hbz := hbw.block pz HZ.out.1
  have hbe := hbw.block pe HZ.out.2.1
  have c1 : w2.cell? ⟨pz, 0, none⟩ = some z0 := (World.cell?_of_block (a := ⟨pz, 0, none⟩) hbz).trans HCZ.out.1
  have c2 : w2.frozen? ⟨pz, 0, none⟩ = false := (World.frozen?_of_block (a := ⟨pz, 0, none⟩) hbz).trans HCZ.out.2.1
  have c3 : w2.cell? ⟨pe, 0, none⟩ = some z1 := (World.cell?_of_block (a := ⟨pe, 0, none⟩) hbe).trans HCZ.out.2.2.1
  have c4 : w2.frozen? ⟨pe, 0, none⟩ = false := (World.frozen?_of_block (a := ⟨pe, 0, none⟩) hbe).trans HCZ.out.2.2.2
  have HBW := Lib.hid hbw
  clear hbw hbz hbe cx k1 k2 HAL HB2
  go_wp2_with fail
  go_end0
  exact ⟨rfl, A, c', w2, HR, HBW, rfl⟩

set_option maxHeartbeats 16000000 in
theorem implSlice_walk (l : List V) (hr : Rights l 8) (h60 : l.length ≤ 60) (A : Option Addr) (c : Nat) (xs : List Value) (P : Nat → Prop) (w : World) (hl : RowIs w P 6 (.slice A l.length c) l.length xs) (hv : IsVs w P l xs) (i j : Nat) (hij : i ≤ j) (hj : j ≤ l.length) (hn : 0 < l.length) :
    Calls Tryd.prog 5 #[.slice A l.length c, .int .i64 i, .int .i64 j] w (ListRes ((l.drop i).take (j - i)) w) := by
  have hfs := fines_of hr hl hv
  have HFS : Hid (Fines ((l.drop i).take (j - i))) := Lib.hid (Fines.mk fun i h => by
    have h' := h
    simp at h'
    rw [List.getElem_take, List.getElem_drop]; exact hfs.at_ _ _)
  have hb0 : ∀ o o', Below w.heap.size w ((w.alloc o).alloc o') := fun o o' => ((Below.refl _ _).alloc (Nat.le_refl _) o).alloc (by simp) o'
  have HB0 := Lib.hid hb0
  have HGL := Lib.hid fun o o' => goList_walk l (by omega) (fun i h => ⟨8, hr.at_ i h⟩) A c xs P ((w.alloc o).alloc o') (hl.keep (by omega) (Kept.below (hb0 o o'))) (IsVs.keep (Kept.below (hb0 o o')) l hv)
  obtain ⟨n, hln⟩ : ∃ n, n = l.length := ⟨_, rfl⟩
  obtain ⟨ls, hls⟩ : ∃ ls, ls = (l.drop i).take (j - i) := ⟨_, rfl⟩
  have hlsl : ls.length = j - i := by rw [hls]; simp; omega
  have hmf : ∀ (fn : Fn) (first cap : Array Value) (w : World), (Instr.makeFunc fn first cap).run Tryd.prog w = .ok (.func fn first cap) w := fun _ _ _ _ => rfl
  rw [← hls] at HFS ⊢
  rw [← hln] at h60 HGL hj hn ⊢
  have HN := Lib.hid (And.intro hln (And.intro hls hlsl))
  clear hr hl hv hfs hln hls hlsl hb0
  go_enter Tryd.func5, Tryd.ntmps5
  go_wp2_with fail
  refine (HGL.out _ _).mono ?_
  rintro e w1 ⟨a, cap, ys, rfl, HGV, HB1⟩
  rw [← HN.out.1] at HGV ⊢
  obtain ⟨b, o, rfl, _, _⟩ := HGV.out.1.cell1 (by omega)
  go_wp2_with fail
  obtain ⟨W3, hW3⟩ : ∃ W3, W3 = ((w1.alloc (.cells #[.slice (some ⟨b, o, none⟩) n cap] 34)).alloc (.cells #[.nilIface] 20)).alloc (.cells #[.nilIface] 38) := ⟨_, rfl⟩
  obtain ⟨W4, hW4⟩ : ∃ W4, W4 = W3.alloc (.cells #[.bool false] 4) := ⟨_, rfl⟩
  rw [← hW3]
  have hs3 : W3.heap.size = w1.heap.size + 3 := by rw [hW3]; simp
  have hs4 : W4.heap.size = w1.heap.size + 4 := by rw [hW4]; simp; omega
  have hb3 : Below w1.heap.size w1 W3 := by rw [hW3]; exact (((Below.refl _ _).alloc (Nat.le_refl _) _).alloc (by simp) _).alloc (by simp; omega) _
  have hb34 : Below W3.heap.size W3 W4 := by rw [hW4]; exact (Below.refl _ _).alloc (Nat.le_refl _) _
  have hb4 : Below w1.heap.size w1 W4 := hb3.trans (hb34.mono (by omega))
  have kx : W4.heap[w1.heap.size]? = some (.cells #[.slice (some ⟨b, o, none⟩) n cap] 34 (0, 0)) := (hb34.block _ (by omega)).trans (by
    rw [hW3]; exact (Below.heap_alloc ((w1.alloc (.cells #[.slice (some ⟨b, o, none⟩) n cap] 34)).alloc (.cells #[.nilIface] 20)) _ _ (by simp; omega)).trans ((Below.heap_alloc (w1.alloc (.cells #[.slice (some ⟨b, o, none⟩) n cap] 34)) _ _ (by simp)).trans (heap_alloc_new w1 _)))
  have kz : W4.heap[w1.heap.size + 1]? = some (.cells #[.nilIface] 20 (0, 0)) := (hb34.block _ (by omega)).trans (by
    have h := heap_alloc_new (w1.alloc (.cells #[.slice (some ⟨b, o, none⟩) n cap] 34)) (.cells #[.nilIface] 20)
    rw [hW3]; exact (Below.heap_alloc ((w1.alloc (.cells #[.slice (some ⟨b, o, none⟩) n cap] 34)).alloc (.cells #[.nilIface] 20)) _ _ (by simp)).trans (by simpa using h))
  have ke : W4.heap[w1.heap.size + 1 + 1]? = some (.cells #[.nilIface] 38 (0, 0)) := (hb34.block _ (by omega)).trans (by
    have h := heap_alloc_new ((w1.alloc (.cells #[.slice (some ⟨b, o, none⟩) n cap] 34)).alloc (.cells #[.nilIface] 20)) (.cells #[.nilIface] 38)
    rw [hW3]; simpa using h)
  have kok : W4.heap[W3.heap.size]? = some (.cells #[.bool false] 4 (0, 0)) := by rw [hW4]; exact heap_alloc_new W3 _
  have hs1 : w.heap.size + 2 ≤ w1.heap.size := by have := HB1.out.size; simpa using this
  have hbw4 : Below (w.heap.size + 2) w1 W4 := hb4.mono hs1
  have hk1 : W4.heap[w.heap.size]? = some (.cells #[.int .i64 i] 3 (0, 0)) := (hb4.block _ (by omega)).trans ((HB1.out.block _ (by simp; omega)).trans ((Below.heap_alloc (w.alloc (.cells #[.int .i64 i] 3)) _ _ (by simp)).trans (heap_alloc_new w _)))
  have hk2 : W4.heap[w.heap.size + 1]? = some (.cells #[.int .i64 j] 3 (0, 0)) := (hb4.block _ (by omega)).trans ((HB1.out.block _ (by simp)).trans (by have h := heap_alloc_new (w.alloc (.cells #[.int .i64 i] 3)) (.cells #[.int .i64 j] 3); simpa using h))
  have hrow : RowIs W4 (fun z => z < w1.heap.size) 1 (.slice (some ⟨b, o, none⟩) n cap) n ys := HGV.out.1.keep (by omega) ((Kept.mono (Q := fun z => z < w1.heap.size) fun _ _ h => h).trans (Kept.below hb4))
  have hcl := sliceClosure_walk b o n cap ys w1.heap.size i j hij hj hn w1.heap.size w.heap.size (w.heap.size + 1) (w1.heap.size + 1) (w1.heap.size + 1 + 1) .nilIface .nilIface W4 hrow (by omega) (by rw [blk_cell kx]; rfl) (by rw [blk_cell hk1]; rfl) (by rw [blk_cell hk2]; rfl) (by rw [blk_cell kz]; rfl) (by simp [World.frozen?, kz]) (by rw [blk_cell ke]; rfl) (by simp [World.frozen?, ke]) (by omega)
  have hcell : ∀ (W : World), W.heap[W3.heap.size]? = W4.heap[W3.heap.size]? → W.cell? ⟨W3.heap.size, 0, none⟩ = some (.bool false) ∧ W.frozen? ⟨W3.heap.size, 0, none⟩ = false := fun W hW => ⟨by rw [blk_cell (hW.trans kok)]; rfl, by simp [World.frozen?, hW.trans kok]⟩
  have hQ : ∀ W, (∃ A c' W2, Hid (RowIs W2 (fun z => z < w1.heap.size) 1 (.slice A (j - i) c') (j - i) ((ys.drop i).take (j - i))) ∧ Hid (Below W4.heap.size W4 W2) ∧ W = (W2.setCell ⟨w1.heap.size + 1, 0, none⟩ (.iface 34 (.slice A (j - i) c'))).setCell ⟨w1.heap.size + 1 + 1, 0, none⟩ .nilIface) → W.cell? ⟨W3.heap.size, 0, none⟩ = some (.bool false) ∧ W.frozen? ⟨W3.heap.size, 0, none⟩ = false := by
    rintro W ⟨A, c', W2, _, h5, rfl⟩
    refine hcell _ ?_
    rw [Below.heap_setCell _ _ _ _ (by show W3.heap.size ≠ w1.heap.size + 1 + 1; omega), Below.heap_setCell _ _ _ _ (by show W3.heap.size ≠ w1.heap.size + 1; omega)]
    exact h5.out.block _ (by omega)
  rw [hW4] at hcl
  have hcy := Giv.caught_yes 11 _ W3 _ (fun W => by kernel_rfl) (by rw [← hW4]; exact hQ) hcl
  rw [← hW4] at hcy
  have HCY := Lib.hid hcy
  have HW := Lib.hid (And.intro hs3 (And.intro hs4 (And.intro hb4 (And.intro kx (And.intro kz (And.intro ke (And.intro kok (And.intro hs1 hrow))))))))
  clear hW3 hW4 hs3 hs4 hb3 hb34 hb4 kx kz ke kok hs1 hbw4 hk1 hk2 hrow hcl hcell hQ hcy
  refine (HCY.out).mono ?_
  rintro e w' ⟨rfl, W6, ⟨A', c', W2, HR2, HB2, rfl⟩, hw'⟩
  obtain ⟨hs3, hs4, hb4, kx, kz, ke, kok, hs1, hrow⟩ := HW.out
  have pz := (HB2.out.block (w1.heap.size + 1) (by omega)).trans kz
  have pe := (HB2.out.block (w1.heap.size + 1 + 1) (by omega)).trans ke
  have cz : w'.cell? ⟨w1.heap.size + 1, 0, none⟩ = some (.iface 34 (.slice A' (j - i) c')) := by
    rw [hw', Giv.cell_far _ _ (by omega), Giv.cell_far _ _ (by omega)]
    exact World.cell?_setCell_same W2 ⟨w1.heap.size + 1, 0, none⟩ _ (by rw [blk_cell pz]; rfl)
  have ce : w'.cell? ⟨w1.heap.size + 1 + 1, 0, none⟩ = some .nilIface := by
    rw [hw', Giv.cell_far _ _ (by omega)]
    exact World.cell?_setCell_same _ ⟨w1.heap.size + 1 + 1, 0, none⟩ .nilIface (by rw [Giv.cell_far _ _ (by omega), blk_cell pe]; rfl)
  have hb2f : Below w1.heap.size W2 w' := by
    rw [hw']
    exact ((((Below.refl _ _).setCell (p := ⟨w1.heap.size + 1, 0, none⟩) (by show w1.heap.size ≤ w1.heap.size + 1; omega) _).setCell (p := ⟨w1.heap.size + 1 + 1, 0, none⟩) (by show w1.heap.size ≤ w1.heap.size + 1 + 1; omega) _).setCell (p := ⟨W3.heap.size, 0, none⟩) (by show w1.heap.size ≤ W3.heap.size; omega) _)
  have hb1f : Below w1.heap.size w1 w' := (hb4.trans (HB2.out.mono (by omega))).trans hb2f
  have hg2 : GoVs w' (fun z => z < w1.heap.size) ls ((ys.drop i).take (j - i)) := by
    rw [HN.out.2.1]
    exact GoVs.keep ((Kept.mono (Q := fun z => z < w1.heap.size) fun _ _ h => h).trans (Kept.below hb1f)) _ (GoVs.take _ (GoVs.drop _ HGV.out.2))
  have hr2 : RowIs w' (fun z => z < w1.heap.size) 1 (.slice A' ls.length c') ls.length ((ys.drop i).take (j - i)) := by
    rw [HN.out.2.2]
    exact HR2.out.keep (by omega) (fun z hz _ => ⟨hz, hb2f.block z hz⟩)
  have hcv := valuesOf_of HFS.out (by have := HN.out.2.2; omega) A' c' _ _ w' hr2 hg2
  rw [HN.out.2.2] at hcv
  have HC := Lib.hid hcv
  have HBW := Lib.hid (((HB0.out (.cells #[.int .i64 i] 3) (.cells #[.int .i64 j] 3)).trans (HB1.out.mono (by simp; omega))).trans (hb1f.mono (by omega)))
  have hneq : ∀ W, (binOp .neq 38 .nilIface .nilIface).run Tryd.prog W = .ok (.bool false) W := fun W => by kernel_rfl
  have hta : ∀ W, (Instr.typeAssert (.iface 34 (.slice A' (j - i) c')) 20 34 true).run Tryd.prog W = .ok (.tuple #[.slice A' (j - i) c', .bool true]) W := fun W => by kernel_rfl
  clear hs3 hs4 hb4 kx kz ke kok hs1 hrow pz pe hb2f hb1f hg2 hr2 hcv hw' HCY HW HR2 HB2
  go_wp2_with fail
  refine (HC.out).mono ?_
  rintro e w3 ⟨A3, c3, zs, rfl, HX, HB3⟩
  go_wp2_with fail
  go_ret2
  have hll := HN.out.2.2
  refine ⟨A3, c3, zs, by rw [hll]; rfl, Lib.hid ⟨?_, ?_⟩, Lib.hid (HBW.out.trans (HB3.out.mono HBW.out.size))⟩
  · have h := HX.out.1.keep (by omega) (Kept.mono (Q := fun b => w.heap.size ≤ b) (fun b hb _ => Nat.le_trans HBW.out.size hb))
    exact h
  · exact IsVs.keep (Kept.mono (fun b hb _ => Nat.le_trans HBW.out.size hb)) _ HX.out.2
end Go.Proofs.YtaclgcpfcejplaaDoor.Vals
