/- Walk of impl.Dig. -/
import Derived.Test.YtaclgcpfcejplaaValDi
import Derived.Test.YtaclgcpfcejplaaCaught
import Derived.Test.YtaclgcpfcejplaaValP
import Derived.Test.YtaclgcpfcejplaaValQ
namespace Go.Proofs.Ytaclgcpfcejplaa.Vals
open Go.RowKit Go.ChangeMaps Go.Proofs.YtaclgcpfcejplaaW.PrintWords Go.Proofs.Ytaclgcpfcejplaa.Txt
set_option linter.unusedVariables false
set_option maxRecDepth 20000

theorem dug_fine {o : V} (ho : Fine o) : ∀ {ks : List ByteArray} {d u : V}, Fine d → dug o ks d = some u → Fine u
  | [], d, u, h, e => by simp only [dug, Option.some.injEq] at e; rw [← e]; exact h
  | k :: r, d, u, h, e => by
    unfold dug at e
    split at e
    · split at e
      · refine dug_fine ho ?_ e
        obtain ⟨k', n, r', t, ks, l⟩ := d
        unfold Fine at h
        simp only [V.ks, V.l]
        rw [List.getD_eq_getElem?_getD]
        cases hl : l[atD ks k]? with
        | none => exact ho
        | some v => exact h.2.2.2.2.2.mem v (List.mem_of_getElem? hl)
      · injection e with e; rw [← e]; exact ho
    · cases e
/-- A value's two rows, by their forms. -/
theorem rows_form {w : World} {P : Nat → Prop} {v : V} {c0 c1 c2 c3 kv lv : Value} (h : IsV w P v [c0, c1, c2, c3, kv, lv]) : (∃ A n c, kv = .slice A n c) ∧ ∃ A n c, lv = .slice A n c := by
  cases v
  unfold IsV at h
  obtain ⟨kv', lv', xs, e, _, _, _, _, h1, h2, _⟩ := h
  simp only [List.cons.injEq, and_true] at e
  obtain ⟨_, _, _, _, rfl, rfl⟩ := e
  obtain ⟨A, c, e1, _⟩ := h1
  obtain ⟨A', c', e2, _⟩ := h2
  exact ⟨⟨A, _, c, e1⟩, A', _, c', e2⟩
def DigRes (u : V) (w : World) (e : Ending) (w' : World) : Prop := ∃ kr lr, e = .returned (.tuple #[.agg #[.int .i64 (norm u).k, .int .i64 (norm u).n, .float .f64 (norm u).r, .string (norm u).t, kr, lr], .bool true]) ∧
  Hid (IsV w' (fun b => w.heap.size ≤ b) (norm u) [.int .i64 (norm u).k, .int .i64 (norm u).n, .float .f64 (norm u).r, .string (norm u).t, kr, lr]) ∧ Hid (Below w.heap.size w w')

set_option maxHeartbeats 16000000 in
theorem implDig_walk (o : V) (hO : Right o 8) (ko lo kv lv : Value) (rest : List ByteArray) (k : ByteArray) (n : Int) (r : Nat) (t : ByteArray) (ks : List ByteArray) (l : List V) (hR : Right (.mk 7 n r t ks l) 8) (u : V) (hu : dug o (k :: rest) (.mk 7 n r t ks l) = some u) (A : Option Addr) (c m : Nat) (P1 P2 P3 : Nat → Prop) (w : World)
    (hk : RowIs w P1 1 (.slice A m c) m ((k :: rest).map Value.string)) (ho : IsV w P2 o [.int .i64 o.k, .int .i64 o.n, .float .f64 o.r, .string o.t, ko, lo]) (hd : IsV w P3 (.mk 7 n r t ks l) [.int .i64 7, .int .i64 n, .float .f64 r, .string t, kv, lv]) (hlm : rest.length + 1 = m) (h30 : m ≤ 30) :
    Calls Try.prog 9 #[.slice A m c, .agg #[.int .i64 o.k, .int .i64 o.n, .float .f64 o.r, .string o.t, ko, lo], .agg #[.int .i64 7, .int .i64 n, .float .f64 r, .string t, kv, lv]] w (DigRes u w) := by
  obtain ⟨ok, on, orr, ot, oks, ol⟩ := o
  simp only [V.k, V.n, V.r, V.t] at ho ⊢
  have hfo := fine_of hO ho
  have hfd := fine_of hR hd
  have HVAL := Lib.hid (valueOf_of (dug_fine hfo hfd hu))
  have hfu := dug_fine hfo hfd hu
  obtain ⟨i0, hi0, hz0, hz1, hz2⟩ := info_parts ifaceInfo
  obtain ⟨hnc, hcm⟩ := hk.sizes
  unfold maxLen at hcm
  have hke : ∀ i s, (k :: rest)[i]? = some s → ∃ mb mo, A = some ⟨mb, mo, none⟩ ∧ mb < w.heap.size ∧ w.cell? ⟨mb, mo + i, none⟩ = some (.string s) := fun i s hi => by
    obtain ⟨mb, mo, hA, _, hc⟩ := hk.elem (by omega)
    have := hc i (.string s) (by rw [List.getElem?_map, hi]; rfl)
    exact ⟨mb, mo, hA, World.block_lt_of_cell? w _ this, this⟩
  have HKE := Lib.hid hke
  have HB0 := Lib.hid (box3 w (.int .i64 ok) (.int .i64 on) (.float .f64 orr) (.string ot) ko lo (.int .i64 7) (.int .i64 n) (.float .f64 r) (.string t) kv lv (.int .i64 0) (.int .i64 0) (.float .f64 0) (.string ⟨#[]⟩) (.slice none 0 0) (.slice none 0 0))
  have HGO := Lib.hid (goOf_walk (.mk ok on orr ot oks ol) 8 hO ko lo P2 _ (IsV.keep (Kept.below HB0.out.2.2.2) _ ho))
  simp only [V.k, V.n, V.r, V.t] at HGO
  have HGD : Hid (∀ W, Below w.heap.size w W → Calls Try.prog 14 #[.agg #[.int .i64 7, .int .i64 n, .float .f64 r, .string t, kv, lv]] W (GoDictX ks l W)) := Lib.hid fun W hW => goDictX_walk n r t ks l 8 hR kv lv P3 W (IsV.keep (Kept.below hW) _ hd)
  have HCL := Lib.hid (fun (x : Value) (G : Option Addr) (cap b B pa px pb pz pe : Nat) (z0 z1 : Value) (W : World) => digClosure_walk (.mk ok on orr ot oks ol) x rest k n r t ks l 8 hR u hu G cap m b B pa px pb pz pe z0 z1 W)
  have HM := Lib.hid (And.intro hlm h30)
  have hsf := store_float
  have hmf : ∀ (fn : Fn) (first cap : Array Value) (w : World), (Instr.makeFunc fn first cap).run Try.prog w = .ok (.func fn first cap) w := fun _ _ _ _ => rfl
  clear hO hR hu hk ho hd hfo hfd hfu hke hlm
  go_enter Try.func9, Try.ntmps9
  go_wp2_with fail
  refine (HGO.out).mono ?_
  rintro e w1 ⟨x, rfl, HX, HB1⟩
  have hbw1 := HB0.out.2.2.2.trans (HB1.out.mono HB0.out.2.2.2.size)
  have HD1 := Lib.hid (HB0.out.2.1.below HB1.out)
  have HR1 := Lib.hid (HB0.out.2.2.1.below HB1.out)
  have HBW1 := Lib.hid hbw1
  have hs1 : w.heap.size + 3 ≤ w1.heap.size := by have := HB1.out.size; simpa using this
  have HS1 := Lib.hid hs1
  have hface : Face x := HX.out.face
  clear hbw1 hs1 HB0 HGO
  rcases hface with rfl | ⟨tx, vx, rfl⟩
  · obtain ⟨W1, hW1⟩ : ∃ W1, W1 = w1.alloc (.cells #[.nilIface] 20) := ⟨_, rfl⟩
    have hal : Below w1.heap.size w1 W1 := by rw [hW1]; exact (Below.refl _ _).alloc (Nat.le_refl _) _
    have hc8 : W1.heap[w1.heap.size]? = some (.cells #[.nilIface] 20 (0, 0)) := by rw [hW1]; exact heap_alloc_new w1 _
    have hs8 : W1.heap.size = w1.heap.size + 1 := by rw [hW1]; simp
    have hdw : Box6 W1 (w.heap.size + 1) (.int .i64 7) (.int .i64 n) (.float .f64 r) (.string t) kv lv := HD1.out.below hal
    have hbW1 := HBW1.out.trans (hal.mono HBW1.out.size)
    have HC := Lib.hid (HGD.out W1 hbW1)
    have HW1 := Lib.hid (And.intro hal (And.intro hc8 (And.intro hs8 hbW1)))
    obtain ⟨d0, d1, d2, d3, d4, d5⟩ := hdw.cells
    clear hal hc8 hs8 hdw hbW1
    subst hW1
    go_wp2_with fail
    refine (HC.out).mono ?_
    rintro e w2 ⟨b, rfl, HMX, HB2⟩
    obtain ⟨W1, hW1⟩ : ∃ W1, W1 = w1.alloc (.cells #[.nilIface] 20) := ⟨_, rfl⟩
    rw [← hW1] at HW1 HB2 HMX
    obtain ⟨hal, hc8, hs8, hbW1⟩ := HW1.out
    have hbw2 := hbW1.trans (HB2.out.mono hbW1.size)
    have hr2 : Box6 w2 (w.heap.size + 2) (.int .i64 0) (.int .i64 0) (.float .f64 0) (.string ⟨#[]⟩) (.slice none 0 0) (.slice none 0 0) := (HR1.out.below hal).below HB2.out
    have h82 : w2.heap[w1.heap.size]? = some (.cells #[.nilIface] 20 (0, 0)) := (HB2.out.block _ (by omega)).trans hc8
    have hs2 : w1.heap.size + 1 ≤ w2.heap.size := by have := HB2.out.size; omega
    have hgx : GoV w2 (fun z => z < w2.heap.size) (.mk ok on orr ot oks ol) .nilIface := GoV.keep (((Kept.below hal).trans (Kept.below HB2.out)).trans (Kept.mono fun _ _ h => h)) _ HX.out
    have hmx : MapIs w2 (fun z => z < w2.heap.size) ks l b := HMX.out.is.keep (Kept.mono fun _ _ h => h)
    have H2 := Lib.hid (And.intro hbw2 (And.intro hr2 (And.intro h82 (And.intro hs2 (And.intro hgx hmx)))))
    clear hal hc8 hs8 hbW1 hbw2 hr2 h82 hs2 hgx hmx hW1 HW1 HC HMX HB2 d0 d1 d2 d3 d4 d5 HX HR1 HD1
    obtain ⟨W2, hW2⟩ : ∃ W2, W2 = (w2.alloc (.cells #[.map (some b)] 39)).alloc (.cells #[.slice none 0 0] 42) := ⟨_, rfl⟩
    have hb2 : Below w2.heap.size w2 W2 := by rw [hW2]; exact ((Below.refl _ _).alloc (Nat.le_refl _) _).alloc (by simp) _
    have h10 : W2.heap[w2.heap.size]? = some (.cells #[.map (some b)] 39 (0, 0)) := by rw [hW2]; exact (Below.heap_alloc (w2.alloc (.cells #[.map (some b)] 39)) _ _ (by simp)).trans (heap_alloc_new w2 _)
    have h12 : W2.heap[w2.heap.size + 1]? = some (.cells #[.slice none 0 0] 42 (0, 0)) := by have := heap_alloc_new (w2.alloc (.cells #[.map (some b)] 39)) (.cells #[.slice none 0 0] 42); rw [hW2]; simpa using this
    have hsz : W2.heap.size = w2.heap.size + 2 := by rw [hW2]; simp
    have H3 := Lib.hid (And.intro hb2 (And.intro h10 (And.intro h12 (And.intro hsz hW2))))
    clear hb2 h10 h12 hsz hW2
    go_wp2_with fail
    go_loopg [36] m (fun kq v36 wr => ∃ (i : Nat) (G : Option Addr) (cap : Nat), v36 = .int .i64 (i : Int) ∧ i + kq = m ∧ Hid (wr.ownsRow (w2.heap.size + 2) 20 1 (.slice G i cap) i (((k :: rest).take i).map faceT)) ∧ Hid (wr.heap[w2.heap.size]? = some (.cells #[.map (some b)] 39 (0, 0))) ∧ Hid (wr.heap[w2.heap.size + 1]? = some (.cells #[.slice G i cap] 42 (0, 0))) ∧ Hid (Below w2.heap.size w2 wr) ∧ Hid (w2.heap.size + 2 ≤ wr.heap.size))
    case atStart =>
      obtain ⟨h1, h2, h3, h4, h5⟩ := H3.out
      rw [← h5]
      exact ⟨0, none, 0, rfl, by omega, Lib.hid (World.ownsRow_nil _ _ _ _), Lib.hid h2, Lib.hid h3, Lib.hid h1, Lib.hid (by omega)⟩
    case round =>
      obtain ⟨i, G, cap, rfl, hik, HOW, H10, H12, HBW, HSZ⟩ := hrel
      clear H3
      cases gk with
      | zero =>
        have hi : ¬ i < m := by omega
        obtain rfl : i = m := by omega
        have htk : (k :: rest).take i = k :: rest := List.take_of_length_le (by have := HM.out.1; simp; omega)
        rw [htk] at HOW
        clear hik htk
        go_wp2_with fail
        obtain ⟨W3, hW3⟩ : ∃ W3, W3 = (wr.alloc (.cells #[.nilIface] 20)).alloc (.cells #[.nilIface] 44) := ⟨_, rfl⟩
        obtain ⟨W4, hW4⟩ : ∃ W4, W4 = W3.alloc (.cells #[.bool false] 4) := ⟨_, rfl⟩
        rw [← hW3]
        have hs3 : W3.heap.size = wr.heap.size + 2 := by rw [hW3]; simp
        have hs4 : W4.heap.size = wr.heap.size + 3 := by rw [hW4]; simp; omega
        have hb3 : Below wr.heap.size wr W3 := by rw [hW3]; exact ((Below.refl _ _).alloc (Nat.le_refl _) _).alloc (by simp) _
        have hb34 : Below W3.heap.size W3 W4 := by rw [hW4]; exact (Below.refl _ _).alloc (Nat.le_refl _) _
        have hb4 : Below wr.heap.size wr W4 := hb3.trans (hb34.mono (by omega))
        have k15 : W4.heap[wr.heap.size]? = some (.cells #[.nilIface] 20 (0, 0)) := (hb34.block _ (by omega)).trans (by rw [hW3]; exact (Below.heap_alloc (wr.alloc (.cells #[.nilIface] 20)) _ _ (by simp)).trans (heap_alloc_new wr _))
        have k16 : W4.heap[wr.heap.size + 1]? = some (.cells #[.nilIface] 44 (0, 0)) := (hb34.block _ (by omega)).trans (by have := heap_alloc_new (wr.alloc (.cells #[.nilIface] 20)) (.cells #[.nilIface] 44); rw [hW3]; simpa using this)
        have kok : W4.heap[W3.heap.size]? = some (.cells #[.bool false] 4 (0, 0)) := by rw [hW4]; exact heap_alloc_new W3 _
        have hsz := HSZ.out
        have hown4 : W4.ownsRow (w2.heap.size + 2) 20 1 (.slice G i cap) i ((k :: rest).map faceT) := by rw [hW4, hW3]; exact ((HOW.out.alloc _).alloc _).alloc _
        have hlow : ∀ j, wr.heap.size ≤ j → some j ≠ (Value.slice G i cap).ownBlock := fun j hj e => by have := (HOW.out.lt j e.symm).2; omega
        have hb24 : Below w2.heap.size w2 W4 := HBW.out.trans (hb4.mono (by omega))
        have hcl := HCL.out .nilIface G cap b (w2.heap.size + 2) (w2.heap.size + 1) w1.heap.size w2.heap.size wr.heap.size (wr.heap.size + 1) .nilIface .nilIface W4 (H2.out.2.2.2.2.2.keep (fun z hz _ => ⟨by have hz' : z < w2.heap.size := hz; omega, hb24.block z hz⟩)) (GoV.keep (fun z hz _ => ⟨by have hz' : z < w2.heap.size := hz; show z < w2.heap.size + 2; omega, hb24.block z hz⟩) _ H2.out.2.2.2.2.1) HM.out.1 HM.out.2 (by omega) hown4
          (by rw [blk_cell ((hb4.block _ (by omega)).trans H12.out)]; rfl) (by rw [blk_cell ((hb24.block _ (by have := H2.out.2.2.2.1; omega)).trans H2.out.2.2.1)]; rfl) (by rw [blk_cell ((hb4.block _ (by omega)).trans H10.out)]; rfl) (by rw [blk_cell k15]; rfl) (by simp [World.frozen?, k15]) (by rw [blk_cell k16]; rfl) (by simp [World.frozen?, k16]) (by omega) (hlow _ (by omega)) (hlow _ (by omega))
        have hcell : ∀ (W : World), W.heap[W3.heap.size]? = W4.heap[W3.heap.size]? → W.cell? ⟨W3.heap.size, 0, none⟩ = some (.bool false) ∧ W.frozen? ⟨W3.heap.size, 0, none⟩ = false := fun W hW => ⟨by rw [blk_cell (hW.trans kok)]; rfl, by simp [World.frozen?, hW.trans kok]⟩
        have hQ : ∀ W, (∃ y W5, Hid (GoV W5 (fun z => z < w2.heap.size + 2) u y) ∧ Hid (W4.grownBy W5 (Value.slice G i cap).ownBlock) ∧ W = (W5.setCell ⟨wr.heap.size, 0, none⟩ y).setCell ⟨wr.heap.size + 1, 0, none⟩ .nilIface) → W.cell? ⟨W3.heap.size, 0, none⟩ = some (.bool false) ∧ W.frozen? ⟨W3.heap.size, 0, none⟩ = false := by
          rintro W ⟨y, W5, _, h5, rfl⟩
          refine hcell _ ?_
          rw [Below.heap_setCell _ _ _ _ (by show W3.heap.size ≠ wr.heap.size + 1; omega), Below.heap_setCell _ _ _ _ (by show W3.heap.size ≠ wr.heap.size; omega)]
          exact h5.out.block _ (by omega) (hlow _ (by omega))
        rw [hW4] at hcl
        have hcy := Giv.caught_yes 16 _ W3 _ (fun W => by kernel_rfl) (by rw [← hW4]; exact hQ) hcl
        rw [← hW4] at hcy
        have HCY := Lib.hid hcy
        have HW := Lib.hid (And.intro hs3 (And.intro hs4 (And.intro hb4 (And.intro k15 (And.intro k16 (And.intro kok (And.intro hb24 (And.intro hlow hown4))))))))
        clear hW3 hW4 hs3 hs4 hb3 hb34 hb4 k15 k16 kok hsz hown4 hlow hb24 hcl hcell hQ hcy
        refine (HCY.out).mono ?_
        rintro e w' ⟨rfl, W6, ⟨y, W5, HY, HG5, rfl⟩, hw'⟩
        obtain ⟨hs3, hs4, hb4, k15, k16, kok, hb24, hlow, hown4⟩ := HW.out
        have hsz := HSZ.out
        have p15 := (HG5.out.block _ (by omega) (hlow wr.heap.size (Nat.le_refl _))).trans k15
        have p16 := (HG5.out.block _ (by omega) (hlow (wr.heap.size + 1) (by omega))).trans k16
        have pok := (HG5.out.block _ (by omega) (hlow W3.heap.size (by omega))).trans kok
        have hb5 : Below (w2.heap.size + 2) W4 W5 := (Below.refl _ _).grown HG5.out (by omega) (fun j hj => (hown4.lt j hj).1)
        have hbf : Below (w2.heap.size + 2) W4 w' := by
          rw [hw']
          exact (((hb5.setCell (p := ⟨wr.heap.size, 0, none⟩) (by show w2.heap.size + 2 ≤ wr.heap.size; omega) _).setCell (p := ⟨wr.heap.size + 1, 0, none⟩) (by show w2.heap.size + 2 ≤ wr.heap.size + 1; omega) _).setCell (p := ⟨W3.heap.size, 0, none⟩) (by show w2.heap.size + 2 ≤ W3.heap.size; omega) _)
        have hb5f : Below (w2.heap.size + 2) W5 w' := by
          rw [hw']
          exact ((((Below.refl _ _).setCell (p := ⟨wr.heap.size, 0, none⟩) (by show w2.heap.size + 2 ≤ wr.heap.size; omega) _).setCell (p := ⟨wr.heap.size + 1, 0, none⟩) (by show w2.heap.size + 2 ≤ wr.heap.size + 1; omega) _).setCell (p := ⟨W3.heap.size, 0, none⟩) (by show w2.heap.size + 2 ≤ W3.heap.size; omega) _)
        have c15 : w'.cell? ⟨wr.heap.size, 0, none⟩ = some y := by
          rw [hw', Giv.cell_far _ _ (by omega), Giv.cell_far _ _ (by omega)]
          exact World.cell?_setCell_same W5 ⟨wr.heap.size, 0, none⟩ y (by rw [blk_cell p15]; rfl)
        have c16 : w'.cell? ⟨wr.heap.size + 1, 0, none⟩ = some .nilIface := by
          rw [hw', Giv.cell_far _ _ (by omega)]
          exact World.cell?_setCell_same _ ⟨wr.heap.size + 1, 0, none⟩ .nilIface (by rw [Giv.cell_far _ _ (by omega), blk_cell p16]; rfl)
        have hb2f : Below w2.heap.size w2 w' := hb24.trans (hbf.mono (by omega))
        have hrf : Box6 w' (w.heap.size + 1 + 1) (.int .i64 0) (.int .i64 0) (.float .f64 0) (.string ⟨#[]⟩) (.slice none 0 0) (.slice none 0 0) := H2.out.2.1.below hb2f
        have HC := Lib.hid (HVAL.out y (fun z => z < w2.heap.size + 2) w' (GoV.keep (fun z hz _ => ⟨hz, hb5f.block z hz⟩) _ HY.out))
        have hneq : ∀ W, (binOp .neq 44 .nilIface .nilIface).run Try.prog W = .ok (.bool false) W := fun W => by kernel_rfl
        have HF := Lib.hid (And.intro hrf (H2.out.1.trans (hb2f.mono H2.out.1.size)))
        clear hs3 hs4 hb4 k15 k16 kok hb24 hlow hown4 hsz p15 p16 pok hb5 hbf hb5f hb2f hrf hw' HY HG5 HW HCY
        go_wp2_with fail
        refine (HC.out).mono ?_
        rintro e w7 ⟨kr, lr, rfl, HV, HB7⟩
        have hbx4 := HF.out.1.below HB7.out
        obtain ⟨⟨Ak, nk, ck, rfl⟩, Al, nl, cl, rfl⟩ := rows_form HV.out
        obtain ⟨v, hv⟩ : ∃ v, v = norm u := ⟨_, rfl⟩
        rw [← hv] at HV ⊢
        obtain ⟨fk, fn, fr, ft, fks, fl⟩ := v
        simp only [V.k, V.n, V.r, V.t] at HV ⊢
        obtain ⟨d0, d1, d2, d3, d4, d5⟩ := hbx4.cells
        have fz : ∀ j, w7.frozen? ⟨w.heap.size + 1 + 1, j, none⟩ = false := fun j => by unfold Box6 at hbx4; simp [World.frozen?, hbx4]
        have HBX4 := Lib.hid (And.intro hbx4 (HF.out.2.trans (HB7.out.mono HF.out.2.size)))
        have HVV := Lib.hid hv
        have HSF := Lib.hid (And.intro HF.out.1.lt HF.out.2.size)
        clear hbx4 hv HC c15 c16
        go_wp2_with fail
        obtain ⟨w8, hw8⟩ : ∃ w8, w8 = (((((w7.setCell ⟨w.heap.size + 1 + 1, 0, none⟩ (.int .i64 fk)).setCell ⟨w.heap.size + 1 + 1, 1, none⟩ (.int .i64 fn)).setCell ⟨w.heap.size + 1 + 1, 2, none⟩ (.float .f64 fr)).setCell ⟨w.heap.size + 1 + 1, 3, none⟩ (.string ft)).setCell ⟨w.heap.size + 1 + 1, 4, none⟩ (.slice Ak nk ck)).setCell ⟨w.heap.size + 1 + 1, 5, none⟩ (.slice Al nl cl) := ⟨_, rfl⟩
        rw [← hw8]
        obtain ⟨hb2, ho2, hl2⟩ := set6 HBX4.out.1 _ _ _ _ _ _ hw8
        have e0 : w8.cell? ⟨w.heap.size + 1 + 1, 0, none⟩ = some (.int .i64 fk) := by rw [blk_cell hb2]; rfl
        have e1 : w8.cell? ⟨w.heap.size + 1 + 1, 1, none⟩ = some (.int .i64 fn) := by rw [blk_cell hb2]; rfl
        have e2 : w8.cell? ⟨w.heap.size + 1 + 1, 2, none⟩ = some (.float .f64 fr) := by rw [blk_cell hb2]; rfl
        have e3 : w8.cell? ⟨w.heap.size + 1 + 1, 3, none⟩ = some (.string ft) := by rw [blk_cell hb2]; rfl
        have e4 : w8.cell? ⟨w.heap.size + 1 + 1, 4, none⟩ = some (.slice Ak nk ck) := by rw [blk_cell hb2]; rfl
        have e5 : w8.cell? ⟨w.heap.size + 1 + 1, 5, none⟩ = some (.slice Al nl cl) := by rw [blk_cell hb2]; rfl
        refine bodyPost_ret (v := .tuple #[.agg #[.int .i64 fk, .int .i64 fn, .float .f64 fr, .string ft, .slice Ak nk ck, .slice Al nl cl], .bool true]) (by simp [results, Try.results9, go_sem, e0, e1, e2, e3, e4, e5]) rfl ?_
        have hlt := HSF.out.1
        have kk : Kept w7 w8 (fun b => w'.heap.size ≤ b) (fun b => w.heap.size ≤ b) := fun b hb _ => ⟨by have hb' : w'.heap.size ≤ b := hb; omega, ho2 b (by have hb' : w'.heap.size ≤ b := hb; omega)⟩
        unfold DigRes
        rw [← HVV.out]
        exact ⟨_, _, rfl, Lib.hid (IsV.keep kk _ HV.out), Lib.hid (HBX4.out.2.trans (hl2.mono (by omega)))⟩
      | succ mm =>
        have hi : i < m := by omega
        have hil : i < (k :: rest).length := by have := HM.out.1; simp; omega
        obtain ⟨q, hq⟩ : ∃ q, q = (k :: rest)[i] := ⟨_, rfl⟩
        have hqe : (k :: rest)[i]? = some q := by rw [hq]; exact List.getElem?_eq_getElem hil
        obtain ⟨mb, mo, hA, hmb, e0⟩ := HKE.out i q hqe
        subst hA
        have hs2 := H2.out.1.size
        have g0 : wr.cell? ⟨mb, mo + i, none⟩ = some (.string q) := ((H2.out.1.trans (HBW.out.mono hs2)).cell (p := ⟨mb, mo + i, none⟩) hmb).trans e0
        have x12 : wr.cell? ⟨w2.heap.size + 1, 0, none⟩ = some (.slice G i cap) := by rw [blk_cell H12.out]; rfl
        have htk : ((k :: rest).take (i + 1)).map faceT = ((k :: rest).take i).map faceT ++ [faceT q] := by rw [List.take_add_one, hqe, List.map_append]; rfl
        have HTK := Lib.hid htk
        have HIK := Lib.hid hik
        have hii0 : (0 : Int) ≤ (i : Int) := by omega
        have hiim : (i : Int) < (m : Int) := by omega
        have h31 : i ≤ 30 := by have := HM.out.2; omega
        clear hik hil hq hqe e0 hmb hs2 htk
        go_wp2_with (at_builtin; go_must (refine wpList_append_lies _ rfl _ _ 42 rfl (w2.heap.size + 2) 20 i0 .nilIface 1 16 Try.underlying42 hi0 hz0 hz1 hz2 rfl (by decide) (.slice G i cap) i (((k :: rest).take i).map faceT) rfl (HOW.out.alloc _) ⟨wr.heap.size, 0, none⟩ 1 1 [.iface 9 (.string q)] rfl rfl (news_cells _ _ _) (one_mem rfl) (by decide) (by unfold maxLen; omega) (by omega) (by have := HSZ.out; simp; omega) _ rfl ?_); intro g2 cap2 w3 hown2 hgrow hat hlt; refine Hid.out ?_)
        refine Lib.hid ?_
        have hsz := HSZ.out
        have hlow : ∀ j, j < w2.heap.size + 2 → some j ≠ (Value.slice G i cap).ownBlock := fun j hj e => by have := (HOW.out.lt j e.symm).1; omega
        have hk : ∀ j, j < w2.heap.size + 2 → w3.heap[j]? = wr.heap[j]? := fun j hj => (hgrow.block j (by simp; omega) (hlow j hj)).trans (Below.heap_alloc wr _ _ (by omega))
        have k12 := (hk (w2.heap.size + 1) (by omega)).trans H12.out
        have k10 := (hk w2.heap.size (by omega)).trans H10.out
        have y12 : w3.cell? ⟨w2.heap.size + 1, 0, none⟩ = some (.slice G i cap) := by rw [blk_cell k12]; rfl
        have f12 : w3.frozen? ⟨w2.heap.size + 1, 0, none⟩ = false := by simp [World.frozen?, k12]
        have hbw3 : Below w2.heap.size w2 w3 := (HBW.out.alloc (by omega) _).grown hgrow (by simp; omega) (fun j hj => by have := (HOW.out.lt j hj).1; omega)
        have hs3 : wr.heap.size ≤ w3.heap.size := Nat.le_trans (by simp) hgrow.size
        have H3 := Lib.hid (And.intro k12 (And.intro k10 (And.intro hbw3 (And.intro hs3 hown2))))
        clear hsz hlow hk k12 k10 hbw3 hs3 hown2 hgrow hat hlt x12
        go_wp2_with fail
        go_roundg mm
        case measure => exact Nat.lt_succ_self mm
        case rel =>
          obtain ⟨k12, k10, hbw3, hs3, hown2⟩ := H3.out
          have h12 := blk_set k12 0 (.slice (some ⟨g2, 0, none⟩) (i + 1) cap2)
          exact ⟨i + 1, some ⟨g2, 0, none⟩, cap2, by simp, by have := HIK.out; omega, Lib.hid (by rw [HTK.out]; exact ownsRow_setCell_below hown2 (a := ⟨w2.heap.size + 1, 0, none⟩) (by show w2.heap.size + 1 < w2.heap.size + 2; omega) _), Lib.hid ((Below.heap_setCell _ _ _ _ (by show w2.heap.size ≠ w2.heap.size + 1; omega)).trans k10), Lib.hid (by simpa using h12), Lib.hid (hbw3.setCell (p := ⟨w2.heap.size + 1, 0, none⟩) (by show w2.heap.size ≤ w2.heap.size + 1; omega) _), Lib.hid (by have := HSZ.out; simp; omega)⟩
  · obtain ⟨W1, hW1⟩ : ∃ W1, W1 = w1.alloc (.cells #[.iface tx vx] 20) := ⟨_, rfl⟩
    have hal : Below w1.heap.size w1 W1 := by rw [hW1]; exact (Below.refl _ _).alloc (Nat.le_refl _) _
    have hc8 : W1.heap[w1.heap.size]? = some (.cells #[.iface tx vx] 20 (0, 0)) := by rw [hW1]; exact heap_alloc_new w1 _
    have hs8 : W1.heap.size = w1.heap.size + 1 := by rw [hW1]; simp
    have hdw : Box6 W1 (w.heap.size + 1) (.int .i64 7) (.int .i64 n) (.float .f64 r) (.string t) kv lv := HD1.out.below hal
    have hbW1 := HBW1.out.trans (hal.mono HBW1.out.size)
    have HC := Lib.hid (HGD.out W1 hbW1)
    have HW1 := Lib.hid (And.intro hal (And.intro hc8 (And.intro hs8 hbW1)))
    obtain ⟨d0, d1, d2, d3, d4, d5⟩ := hdw.cells
    clear hal hc8 hs8 hdw hbW1
    subst hW1
    go_wp2_with fail
    refine (HC.out).mono ?_
    rintro e w2 ⟨b, rfl, HMX, HB2⟩
    obtain ⟨W1, hW1⟩ : ∃ W1, W1 = w1.alloc (.cells #[.iface tx vx] 20) := ⟨_, rfl⟩
    rw [← hW1] at HW1 HB2 HMX
    obtain ⟨hal, hc8, hs8, hbW1⟩ := HW1.out
    have hbw2 := hbW1.trans (HB2.out.mono hbW1.size)
    have hr2 : Box6 w2 (w.heap.size + 2) (.int .i64 0) (.int .i64 0) (.float .f64 0) (.string ⟨#[]⟩) (.slice none 0 0) (.slice none 0 0) := (HR1.out.below hal).below HB2.out
    have h82 : w2.heap[w1.heap.size]? = some (.cells #[.iface tx vx] 20 (0, 0)) := (HB2.out.block _ (by omega)).trans hc8
    have hs2 : w1.heap.size + 1 ≤ w2.heap.size := by have := HB2.out.size; omega
    have hgx : GoV w2 (fun z => z < w2.heap.size) (.mk ok on orr ot oks ol) (.iface tx vx) := GoV.keep (((Kept.below hal).trans (Kept.below HB2.out)).trans (Kept.mono fun _ _ h => h)) _ HX.out
    have hmx : MapIs w2 (fun z => z < w2.heap.size) ks l b := HMX.out.is.keep (Kept.mono fun _ _ h => h)
    have H2 := Lib.hid (And.intro hbw2 (And.intro hr2 (And.intro h82 (And.intro hs2 (And.intro hgx hmx)))))
    clear hal hc8 hs8 hbW1 hbw2 hr2 h82 hs2 hgx hmx hW1 HW1 HC HMX HB2 d0 d1 d2 d3 d4 d5 HX HR1 HD1
    obtain ⟨W2, hW2⟩ : ∃ W2, W2 = (w2.alloc (.cells #[.map (some b)] 39)).alloc (.cells #[.slice none 0 0] 42) := ⟨_, rfl⟩
    have hb2 : Below w2.heap.size w2 W2 := by rw [hW2]; exact ((Below.refl _ _).alloc (Nat.le_refl _) _).alloc (by simp) _
    have h10 : W2.heap[w2.heap.size]? = some (.cells #[.map (some b)] 39 (0, 0)) := by rw [hW2]; exact (Below.heap_alloc (w2.alloc (.cells #[.map (some b)] 39)) _ _ (by simp)).trans (heap_alloc_new w2 _)
    have h12 : W2.heap[w2.heap.size + 1]? = some (.cells #[.slice none 0 0] 42 (0, 0)) := by have := heap_alloc_new (w2.alloc (.cells #[.map (some b)] 39)) (.cells #[.slice none 0 0] 42); rw [hW2]; simpa using this
    have hsz : W2.heap.size = w2.heap.size + 2 := by rw [hW2]; simp
    have H3 := Lib.hid (And.intro hb2 (And.intro h10 (And.intro h12 (And.intro hsz hW2))))
    clear hb2 h10 h12 hsz hW2
    go_wp2_with fail
    go_loopg [36] m (fun kq v36 wr => ∃ (i : Nat) (G : Option Addr) (cap : Nat), v36 = .int .i64 (i : Int) ∧ i + kq = m ∧ Hid (wr.ownsRow (w2.heap.size + 2) 20 1 (.slice G i cap) i (((k :: rest).take i).map faceT)) ∧ Hid (wr.heap[w2.heap.size]? = some (.cells #[.map (some b)] 39 (0, 0))) ∧ Hid (wr.heap[w2.heap.size + 1]? = some (.cells #[.slice G i cap] 42 (0, 0))) ∧ Hid (Below w2.heap.size w2 wr) ∧ Hid (w2.heap.size + 2 ≤ wr.heap.size))
    case atStart =>
      obtain ⟨h1, h2, h3, h4, h5⟩ := H3.out
      rw [← h5]
      exact ⟨0, none, 0, rfl, by omega, Lib.hid (World.ownsRow_nil _ _ _ _), Lib.hid h2, Lib.hid h3, Lib.hid h1, Lib.hid (by omega)⟩
    case round =>
      obtain ⟨i, G, cap, rfl, hik, HOW, H10, H12, HBW, HSZ⟩ := hrel
      clear H3
      cases gk with
      | zero =>
        have hi : ¬ i < m := by omega
        obtain rfl : i = m := by omega
        have htk : (k :: rest).take i = k :: rest := List.take_of_length_le (by have := HM.out.1; simp; omega)
        rw [htk] at HOW
        clear hik htk
        go_wp2_with fail
        obtain ⟨W3, hW3⟩ : ∃ W3, W3 = (wr.alloc (.cells #[.nilIface] 20)).alloc (.cells #[.nilIface] 44) := ⟨_, rfl⟩
        obtain ⟨W4, hW4⟩ : ∃ W4, W4 = W3.alloc (.cells #[.bool false] 4) := ⟨_, rfl⟩
        rw [← hW3]
        have hs3 : W3.heap.size = wr.heap.size + 2 := by rw [hW3]; simp
        have hs4 : W4.heap.size = wr.heap.size + 3 := by rw [hW4]; simp; omega
        have hb3 : Below wr.heap.size wr W3 := by rw [hW3]; exact ((Below.refl _ _).alloc (Nat.le_refl _) _).alloc (by simp) _
        have hb34 : Below W3.heap.size W3 W4 := by rw [hW4]; exact (Below.refl _ _).alloc (Nat.le_refl _) _
        have hb4 : Below wr.heap.size wr W4 := hb3.trans (hb34.mono (by omega))
        have k15 : W4.heap[wr.heap.size]? = some (.cells #[.nilIface] 20 (0, 0)) := (hb34.block _ (by omega)).trans (by rw [hW3]; exact (Below.heap_alloc (wr.alloc (.cells #[.nilIface] 20)) _ _ (by simp)).trans (heap_alloc_new wr _))
        have k16 : W4.heap[wr.heap.size + 1]? = some (.cells #[.nilIface] 44 (0, 0)) := (hb34.block _ (by omega)).trans (by have := heap_alloc_new (wr.alloc (.cells #[.nilIface] 20)) (.cells #[.nilIface] 44); rw [hW3]; simpa using this)
        have kok : W4.heap[W3.heap.size]? = some (.cells #[.bool false] 4 (0, 0)) := by rw [hW4]; exact heap_alloc_new W3 _
        have hsz := HSZ.out
        have hown4 : W4.ownsRow (w2.heap.size + 2) 20 1 (.slice G i cap) i ((k :: rest).map faceT) := by rw [hW4, hW3]; exact ((HOW.out.alloc _).alloc _).alloc _
        have hlow : ∀ j, wr.heap.size ≤ j → some j ≠ (Value.slice G i cap).ownBlock := fun j hj e => by have := (HOW.out.lt j e.symm).2; omega
        have hb24 : Below w2.heap.size w2 W4 := HBW.out.trans (hb4.mono (by omega))
        have hcl := HCL.out (.iface tx vx) G cap b (w2.heap.size + 2) (w2.heap.size + 1) w1.heap.size w2.heap.size wr.heap.size (wr.heap.size + 1) .nilIface .nilIface W4 (H2.out.2.2.2.2.2.keep (fun z hz _ => ⟨by have hz' : z < w2.heap.size := hz; omega, hb24.block z hz⟩)) (GoV.keep (fun z hz _ => ⟨by have hz' : z < w2.heap.size := hz; show z < w2.heap.size + 2; omega, hb24.block z hz⟩) _ H2.out.2.2.2.2.1) HM.out.1 HM.out.2 (by omega) hown4
          (by rw [blk_cell ((hb4.block _ (by omega)).trans H12.out)]; rfl) (by rw [blk_cell ((hb24.block _ (by have := H2.out.2.2.2.1; omega)).trans H2.out.2.2.1)]; rfl) (by rw [blk_cell ((hb4.block _ (by omega)).trans H10.out)]; rfl) (by rw [blk_cell k15]; rfl) (by simp [World.frozen?, k15]) (by rw [blk_cell k16]; rfl) (by simp [World.frozen?, k16]) (by omega) (hlow _ (by omega)) (hlow _ (by omega))
        have hcell : ∀ (W : World), W.heap[W3.heap.size]? = W4.heap[W3.heap.size]? → W.cell? ⟨W3.heap.size, 0, none⟩ = some (.bool false) ∧ W.frozen? ⟨W3.heap.size, 0, none⟩ = false := fun W hW => ⟨by rw [blk_cell (hW.trans kok)]; rfl, by simp [World.frozen?, hW.trans kok]⟩
        have hQ : ∀ W, (∃ y W5, Hid (GoV W5 (fun z => z < w2.heap.size + 2) u y) ∧ Hid (W4.grownBy W5 (Value.slice G i cap).ownBlock) ∧ W = (W5.setCell ⟨wr.heap.size, 0, none⟩ y).setCell ⟨wr.heap.size + 1, 0, none⟩ .nilIface) → W.cell? ⟨W3.heap.size, 0, none⟩ = some (.bool false) ∧ W.frozen? ⟨W3.heap.size, 0, none⟩ = false := by
          rintro W ⟨y, W5, _, h5, rfl⟩
          refine hcell _ ?_
          rw [Below.heap_setCell _ _ _ _ (by show W3.heap.size ≠ wr.heap.size + 1; omega), Below.heap_setCell _ _ _ _ (by show W3.heap.size ≠ wr.heap.size; omega)]
          exact h5.out.block _ (by omega) (hlow _ (by omega))
        rw [hW4] at hcl
        have hcy := Giv.caught_yes 16 _ W3 _ (fun W => by kernel_rfl) (by rw [← hW4]; exact hQ) hcl
        rw [← hW4] at hcy
        have HCY := Lib.hid hcy
        have HW := Lib.hid (And.intro hs3 (And.intro hs4 (And.intro hb4 (And.intro k15 (And.intro k16 (And.intro kok (And.intro hb24 (And.intro hlow hown4))))))))
        clear hW3 hW4 hs3 hs4 hb3 hb34 hb4 k15 k16 kok hsz hown4 hlow hb24 hcl hcell hQ hcy
        refine (HCY.out).mono ?_
        rintro e w' ⟨rfl, W6, ⟨y, W5, HY, HG5, rfl⟩, hw'⟩
        obtain ⟨hs3, hs4, hb4, k15, k16, kok, hb24, hlow, hown4⟩ := HW.out
        have hsz := HSZ.out
        have p15 := (HG5.out.block _ (by omega) (hlow wr.heap.size (Nat.le_refl _))).trans k15
        have p16 := (HG5.out.block _ (by omega) (hlow (wr.heap.size + 1) (by omega))).trans k16
        have pok := (HG5.out.block _ (by omega) (hlow W3.heap.size (by omega))).trans kok
        have hb5 : Below (w2.heap.size + 2) W4 W5 := (Below.refl _ _).grown HG5.out (by omega) (fun j hj => (hown4.lt j hj).1)
        have hbf : Below (w2.heap.size + 2) W4 w' := by
          rw [hw']
          exact (((hb5.setCell (p := ⟨wr.heap.size, 0, none⟩) (by show w2.heap.size + 2 ≤ wr.heap.size; omega) _).setCell (p := ⟨wr.heap.size + 1, 0, none⟩) (by show w2.heap.size + 2 ≤ wr.heap.size + 1; omega) _).setCell (p := ⟨W3.heap.size, 0, none⟩) (by show w2.heap.size + 2 ≤ W3.heap.size; omega) _)
        have hb5f : Below (w2.heap.size + 2) W5 w' := by
          rw [hw']
          exact ((((Below.refl _ _).setCell (p := ⟨wr.heap.size, 0, none⟩) (by show w2.heap.size + 2 ≤ wr.heap.size; omega) _).setCell (p := ⟨wr.heap.size + 1, 0, none⟩) (by show w2.heap.size + 2 ≤ wr.heap.size + 1; omega) _).setCell (p := ⟨W3.heap.size, 0, none⟩) (by show w2.heap.size + 2 ≤ W3.heap.size; omega) _)
        have c15 : w'.cell? ⟨wr.heap.size, 0, none⟩ = some y := by
          rw [hw', Giv.cell_far _ _ (by omega), Giv.cell_far _ _ (by omega)]
          exact World.cell?_setCell_same W5 ⟨wr.heap.size, 0, none⟩ y (by rw [blk_cell p15]; rfl)
        have c16 : w'.cell? ⟨wr.heap.size + 1, 0, none⟩ = some .nilIface := by
          rw [hw', Giv.cell_far _ _ (by omega)]
          exact World.cell?_setCell_same _ ⟨wr.heap.size + 1, 0, none⟩ .nilIface (by rw [Giv.cell_far _ _ (by omega), blk_cell p16]; rfl)
        have hb2f : Below w2.heap.size w2 w' := hb24.trans (hbf.mono (by omega))
        have hrf : Box6 w' (w.heap.size + 1 + 1) (.int .i64 0) (.int .i64 0) (.float .f64 0) (.string ⟨#[]⟩) (.slice none 0 0) (.slice none 0 0) := H2.out.2.1.below hb2f
        have HC := Lib.hid (HVAL.out y (fun z => z < w2.heap.size + 2) w' (GoV.keep (fun z hz _ => ⟨hz, hb5f.block z hz⟩) _ HY.out))
        have hneq : ∀ W, (binOp .neq 44 .nilIface .nilIface).run Try.prog W = .ok (.bool false) W := fun W => by kernel_rfl
        have HF := Lib.hid (And.intro hrf (H2.out.1.trans (hb2f.mono H2.out.1.size)))
        clear hs3 hs4 hb4 k15 k16 kok hb24 hlow hown4 hsz p15 p16 pok hb5 hbf hb5f hb2f hrf hw' HY HG5 HW HCY
        go_wp2_with fail
        refine (HC.out).mono ?_
        rintro e w7 ⟨kr, lr, rfl, HV, HB7⟩
        have hbx4 := HF.out.1.below HB7.out
        obtain ⟨⟨Ak, nk, ck, rfl⟩, Al, nl, cl, rfl⟩ := rows_form HV.out
        obtain ⟨v, hv⟩ : ∃ v, v = norm u := ⟨_, rfl⟩
        rw [← hv] at HV ⊢
        obtain ⟨fk, fn, fr, ft, fks, fl⟩ := v
        simp only [V.k, V.n, V.r, V.t] at HV ⊢
        obtain ⟨d0, d1, d2, d3, d4, d5⟩ := hbx4.cells
        have fz : ∀ j, w7.frozen? ⟨w.heap.size + 1 + 1, j, none⟩ = false := fun j => by unfold Box6 at hbx4; simp [World.frozen?, hbx4]
        have HBX4 := Lib.hid (And.intro hbx4 (HF.out.2.trans (HB7.out.mono HF.out.2.size)))
        have HVV := Lib.hid hv
        have HSF := Lib.hid (And.intro HF.out.1.lt HF.out.2.size)
        clear hbx4 hv HC c15 c16
        go_wp2_with fail
        obtain ⟨w8, hw8⟩ : ∃ w8, w8 = (((((w7.setCell ⟨w.heap.size + 1 + 1, 0, none⟩ (.int .i64 fk)).setCell ⟨w.heap.size + 1 + 1, 1, none⟩ (.int .i64 fn)).setCell ⟨w.heap.size + 1 + 1, 2, none⟩ (.float .f64 fr)).setCell ⟨w.heap.size + 1 + 1, 3, none⟩ (.string ft)).setCell ⟨w.heap.size + 1 + 1, 4, none⟩ (.slice Ak nk ck)).setCell ⟨w.heap.size + 1 + 1, 5, none⟩ (.slice Al nl cl) := ⟨_, rfl⟩
        rw [← hw8]
        obtain ⟨hb2, ho2, hl2⟩ := set6 HBX4.out.1 _ _ _ _ _ _ hw8
        have e0 : w8.cell? ⟨w.heap.size + 1 + 1, 0, none⟩ = some (.int .i64 fk) := by rw [blk_cell hb2]; rfl
        have e1 : w8.cell? ⟨w.heap.size + 1 + 1, 1, none⟩ = some (.int .i64 fn) := by rw [blk_cell hb2]; rfl
        have e2 : w8.cell? ⟨w.heap.size + 1 + 1, 2, none⟩ = some (.float .f64 fr) := by rw [blk_cell hb2]; rfl
        have e3 : w8.cell? ⟨w.heap.size + 1 + 1, 3, none⟩ = some (.string ft) := by rw [blk_cell hb2]; rfl
        have e4 : w8.cell? ⟨w.heap.size + 1 + 1, 4, none⟩ = some (.slice Ak nk ck) := by rw [blk_cell hb2]; rfl
        have e5 : w8.cell? ⟨w.heap.size + 1 + 1, 5, none⟩ = some (.slice Al nl cl) := by rw [blk_cell hb2]; rfl
        refine bodyPost_ret (v := .tuple #[.agg #[.int .i64 fk, .int .i64 fn, .float .f64 fr, .string ft, .slice Ak nk ck, .slice Al nl cl], .bool true]) (by simp [results, Try.results9, go_sem, e0, e1, e2, e3, e4, e5]) rfl ?_
        have hlt := HSF.out.1
        have kk : Kept w7 w8 (fun b => w'.heap.size ≤ b) (fun b => w.heap.size ≤ b) := fun b hb _ => ⟨by have hb' : w'.heap.size ≤ b := hb; omega, ho2 b (by have hb' : w'.heap.size ≤ b := hb; omega)⟩
        unfold DigRes
        rw [← HVV.out]
        exact ⟨_, _, rfl, Lib.hid (IsV.keep kk _ HV.out), Lib.hid (HBX4.out.2.trans (hl2.mono (by omega)))⟩
      | succ mm =>
        have hi : i < m := by omega
        have hil : i < (k :: rest).length := by have := HM.out.1; simp; omega
        obtain ⟨q, hq⟩ : ∃ q, q = (k :: rest)[i] := ⟨_, rfl⟩
        have hqe : (k :: rest)[i]? = some q := by rw [hq]; exact List.getElem?_eq_getElem hil
        obtain ⟨mb, mo, hA, hmb, e0⟩ := HKE.out i q hqe
        subst hA
        have hs2 := H2.out.1.size
        have g0 : wr.cell? ⟨mb, mo + i, none⟩ = some (.string q) := ((H2.out.1.trans (HBW.out.mono hs2)).cell (p := ⟨mb, mo + i, none⟩) hmb).trans e0
        have x12 : wr.cell? ⟨w2.heap.size + 1, 0, none⟩ = some (.slice G i cap) := by rw [blk_cell H12.out]; rfl
        have htk : ((k :: rest).take (i + 1)).map faceT = ((k :: rest).take i).map faceT ++ [faceT q] := by rw [List.take_add_one, hqe, List.map_append]; rfl
        have HTK := Lib.hid htk
        have HIK := Lib.hid hik
        have hii0 : (0 : Int) ≤ (i : Int) := by omega
        have hiim : (i : Int) < (m : Int) := by omega
        have h31 : i ≤ 30 := by have := HM.out.2; omega
        clear hik hil hq hqe e0 hmb hs2 htk
        go_wp2_with (at_builtin; go_must (refine wpList_append_lies _ rfl _ _ 42 rfl (w2.heap.size + 2) 20 i0 .nilIface 1 16 Try.underlying42 hi0 hz0 hz1 hz2 rfl (by decide) (.slice G i cap) i (((k :: rest).take i).map faceT) rfl (HOW.out.alloc _) ⟨wr.heap.size, 0, none⟩ 1 1 [.iface 9 (.string q)] rfl rfl (news_cells _ _ _) (one_mem rfl) (by decide) (by unfold maxLen; omega) (by omega) (by have := HSZ.out; simp; omega) _ rfl ?_); intro g2 cap2 w3 hown2 hgrow hat hlt; refine Hid.out ?_)
        refine Lib.hid ?_
        have hsz := HSZ.out
        have hlow : ∀ j, j < w2.heap.size + 2 → some j ≠ (Value.slice G i cap).ownBlock := fun j hj e => by have := (HOW.out.lt j e.symm).1; omega
        have hk : ∀ j, j < w2.heap.size + 2 → w3.heap[j]? = wr.heap[j]? := fun j hj => (hgrow.block j (by simp; omega) (hlow j hj)).trans (Below.heap_alloc wr _ _ (by omega))
        have k12 := (hk (w2.heap.size + 1) (by omega)).trans H12.out
        have k10 := (hk w2.heap.size (by omega)).trans H10.out
        have y12 : w3.cell? ⟨w2.heap.size + 1, 0, none⟩ = some (.slice G i cap) := by rw [blk_cell k12]; rfl
        have f12 : w3.frozen? ⟨w2.heap.size + 1, 0, none⟩ = false := by simp [World.frozen?, k12]
        have hbw3 : Below w2.heap.size w2 w3 := (HBW.out.alloc (by omega) _).grown hgrow (by simp; omega) (fun j hj => by have := (HOW.out.lt j hj).1; omega)
        have hs3 : wr.heap.size ≤ w3.heap.size := Nat.le_trans (by simp) hgrow.size
        have H3 := Lib.hid (And.intro k12 (And.intro k10 (And.intro hbw3 (And.intro hs3 hown2))))
        clear hsz hlow hk k12 k10 hbw3 hs3 hown2 hgrow hat hlt x12
        go_wp2_with fail
        go_roundg mm
        case measure => exact Nat.lt_succ_self mm
        case rel =>
          obtain ⟨k12, k10, hbw3, hs3, hown2⟩ := H3.out
          have h12 := blk_set k12 0 (.slice (some ⟨g2, 0, none⟩) (i + 1) cap2)
          exact ⟨i + 1, some ⟨g2, 0, none⟩, cap2, by simp, by have := HIK.out; omega, Lib.hid (by rw [HTK.out]; exact ownsRow_setCell_below hown2 (a := ⟨w2.heap.size + 1, 0, none⟩) (by show w2.heap.size + 1 < w2.heap.size + 2; omega) _), Lib.hid ((Below.heap_setCell _ _ _ _ (by show w2.heap.size ≠ w2.heap.size + 1; omega)).trans k10), Lib.hid (by simpa using h12), Lib.hid (hbw3.setCell (p := ⟨w2.heap.size + 1, 0, none⟩) (by show w2.heap.size ≤ w2.heap.size + 1; omega) _), Lib.hid (by have := HSZ.out; simp; omega)⟩
end Go.Proofs.Ytaclgcpfcejplaa.Vals
