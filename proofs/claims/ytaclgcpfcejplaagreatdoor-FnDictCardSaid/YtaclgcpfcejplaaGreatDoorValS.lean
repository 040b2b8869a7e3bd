/- Walks of spec.Same and spec.SameList: whether two values are the same. -/
import Derived.Test.YtaclgcpfcejplaaGreatDoorValD
import Derived.Test.YtaclgcpfcejplaaGreatDoorNear
import Derived.Test.YtaclgcpfcejplaaGreatDoorBox6
import Derived.Deep.DeepCutAuto
namespace Go.Proofs.YtaclgcpfcejplaaGreatDoor.Vals
open Go.RowKit Go.Proofs.YtaclgcpfcejplaaGreatDoorW.PrintWords Go.Proofs.YtaclgcpfcejplaaGreatDoor.Txt
set_option linter.unusedVariables false
set_option maxRecDepth 20000

mutual
/-- Two values are the same. -/
def SameP : V → V → Prop
  | .mk k n r t ks l, b => bareB k n r t b.k b.n b.r b.t = true ∧ ks = b.ks ∧ l.length = b.l.length ∧ SamesP l b.l
def SamesP : List V → List V → Prop
  | [], m => m = []
  | a :: x, m => ∃ b y, m = b :: y ∧ SameP a b ∧ SamesP x y
end
theorem SamesP.mk : ∀ {l m : List V}, l.length = m.length → (∀ i (h : i < l.length) (h' : i < m.length), SameP l[i] m[i]) → SamesP l m
  | [], m, h, _ => by unfold SamesP; exact List.eq_nil_of_length_eq_zero (by simpa using h.symm)
  | a :: x, [], h, _ => absurd h (by simp)
  | a :: x, b :: y, h, hh => by
    unfold SamesP
    exact ⟨b, y, rfl, hh 0 (by simp) (by simp), SamesP.mk (by simpa using h) fun i hi hi' => hh (i + 1) (by simpa using hi) (by simpa using hi')⟩
theorem SamesP.at_ : ∀ {l m : List V}, SamesP l m → ∀ i (h : i < l.length) (h' : i < m.length), SameP l[i] m[i]
  | [], m, _, i, hi, _ => absurd hi (by simp)
  | a :: x, m, h, i, hi, hi' => by
    unfold SamesP at h
    obtain ⟨b, y, rfl, h1, h2⟩ := h
    cases i with
    | zero => simpa using h1
    | succ i => simpa using SamesP.at_ h2 i (by simpa using hi) (by simpa using hi')
theorem SamesP.len : ∀ {l m : List V}, SamesP l m → l.length = m.length
  | [], m, h => by unfold SamesP at h; subst h; rfl
  | a :: x, m, h => by
    unfold SamesP at h
    obtain ⟨b, y, rfl, _, h2⟩ := h
    rw [List.length_cons, List.length_cons, SamesP.len h2]
noncomputable def sameB (a b : V) : Bool := @decide (SameP a b) (Classical.propDecidable _)
noncomputable def samesB (a b : List V) : Bool := @decide (SamesP a b) (Classical.propDecidable _)
theorem sameB_no {a b : V} (h : ¬ SameP a b) : sameB a b = false := @decide_eq_false _ (Classical.propDecidable _) h
theorem sameB_yes {a b : V} (h : SameP a b) : sameB a b = true := @decide_eq_true _ (Classical.propDecidable _) h
theorem sameB_iff {a b : V} : sameB a b = true ↔ SameP a b := @decide_eq_true_iff _ (Classical.propDecidable _)
theorem samesB_no {a b : List V} (h : ¬ SamesP a b) : samesB a b = false := @decide_eq_false _ (Classical.propDecidable _) h
theorem samesB_yes {a b : List V} (h : SamesP a b) : samesB a b = true := @decide_eq_true _ (Classical.propDecidable _) h
theorem samesB_iff {a b : List V} : samesB a b = true ↔ SamesP a b := @decide_eq_true_iff _ (Classical.propDecidable _)

def SameOk (a : V) : Prop := ∀ (b : V) (ka la kb lb : Value) (P Q : Nat → Prop) (w : World), IsV w P a [.int .i64 a.k, .int .i64 a.n, .float .f64 a.r, .string a.t, ka, la] → IsV w Q b [.int .i64 b.k, .int .i64 b.n, .float .f64 b.r, .string b.t, kb, lb] →
  Calls Tryz.prog 9 #[.agg #[.int .i64 a.k, .int .i64 a.n, .float .f64 a.r, .string a.t, ka, la], .agg #[.int .i64 b.k, .int .i64 b.n, .float .f64 b.r, .string b.t, kb, lb]] w
    (TheBool (sameB a b) fun w' => Below w.heap.size w w')

set_option maxHeartbeats 4000000 in
theorem sameList_step (l m : List V) (hok : ∀ i (h : i < l.length), SameOk l[i]) (A A' : Option Addr) (c c' : Nat) (xs ys : List Value) (P Q : Nat → Prop) (w : World)
    (hl : RowIs w P 6 (.slice A l.length c) l.length xs) (hv : IsVs w P l xs) (hm : RowIs w Q 6 (.slice A' m.length c') m.length ys) (hu : IsVs w Q m ys) :
    Calls Tryz.prog 17 #[.slice A l.length c, .slice A' m.length c'] w (TheBool (samesB l m) fun w' => Below w.heap.size w w') := by
  have HEL := Lib.hid (IsVs.elem hl hv)
  have HEM := Lib.hid (IsVs.elem hm hu)
  have HOK := Lib.hid hok
  obtain ⟨hnc, hcm⟩ := hl.sizes
  obtain ⟨hnc', hcm'⟩ := hm.sizes
  unfold maxLen at hcm hcm'
  clear hok hl hv hm hu
  by_cases hlen : l.length = m.length
  · obtain ⟨n, hn⟩ : ∃ n, n = l.length := ⟨_, rfl⟩
    have hmn : m.length = n := by omega
    rw [← hn] at hnc ⊢
    rw [hmn] at hnc' ⊢
    have HN := Lib.hid (And.intro hn hmn)
    clear hn hmn hlen
    go_enter Tryz.func17, Tryz.ntmps17
    go_wp2_with fail
    go_loopg [5] n (fun kq v5 wr => ∃ i : Nat, v5 = .int .i64 (i : Int) ∧ i + kq = n ∧ Hid (Below w.heap.size w wr) ∧ Hid (∀ j (h : j < l.length) (h' : j < m.length), j < i → SameP l[j] m[j]))
    case atStart => exact ⟨0, rfl, by omega, Lib.hid (Below.refl _ _), Lib.hid (fun j _ _ hj => by omega)⟩
    case round =>
      obtain ⟨i, rfl, hik, H1, H2⟩ := hrel
      cases gk with
      | zero =>
        have hi : ¬ i < n := by omega
        have HIN := Lib.hid hik
        clear hik
        go_wp2_with fail
        go_ret
        exact ⟨_, rfl, Lib.hid (samesB_yes (SamesP.mk (by have := HN.out; omega) fun j hj hj' => H2.out j hj hj' (by have := HN.out; have := HIN.out; omega))), H1.out⟩
      | succ mm =>
        have hi : i < n := by omega
        have hi' : i < l.length := by have := HN.out; omega
        have hi'' : i < m.length := by have := HN.out; omega
        obtain ⟨eb, eo, kv, lv, hA, hebs, _, hI, e0, e1, e2, e3, e4, e5⟩ := HEL.out i hi'
        obtain ⟨fb, fo, kw, lw, hA', hfbs, _, hJ, f0, f1, f2, f3, f4, f5⟩ := HEM.out i hi''
        subst hA
        subst hA'
        have hok := HOK.out i hi'
        obtain ⟨a, ha⟩ : ∃ a, a = l[i] := ⟨_, rfl⟩
        obtain ⟨b, hb⟩ : ∃ b, b = m[i] := ⟨_, rfl⟩
        rw [← ha] at hI e0 e1 e2 e3 hok
        rw [← hb] at hJ f0 f1 f2 f3
        have hs1 := H1.out.size
        have hebw : eb < wr.heap.size := by omega
        have hfbw : fb < wr.heap.size := by omega
        have hcw : ∀ j, wr.cell? ⟨eb, j, none⟩ = w.cell? ⟨eb, j, none⟩ := fun j => H1.out.cell (p := ⟨eb, j, none⟩) hebs
        have hcf : ∀ j, wr.cell? ⟨fb, j, none⟩ = w.cell? ⟨fb, j, none⟩ := fun j => H1.out.cell (p := ⟨fb, j, none⟩) hfbs
        have g0 : ∀ x : Near wr.heap.size wr, x.W.cell? ⟨eb, eo + i * 6, none⟩ = some (.int .i64 a.k) := fun x => x.cell hebw ((hcw _).trans e0)
        have g1 : ∀ x : Near wr.heap.size wr, x.W.cell? ⟨eb, eo + i * 6 + 1, none⟩ = some (.int .i64 a.n) := fun x => x.cell hebw ((hcw _).trans e1)
        have g2 : ∀ x : Near wr.heap.size wr, x.W.cell? ⟨eb, eo + i * 6 + 2, none⟩ = some (.float .f64 a.r) := fun x => x.cell hebw ((hcw _).trans e2)
        have g3 : ∀ x : Near wr.heap.size wr, x.W.cell? ⟨eb, eo + i * 6 + 3, none⟩ = some (.string a.t) := fun x => x.cell hebw ((hcw _).trans e3)
        have g4 : ∀ x : Near wr.heap.size wr, x.W.cell? ⟨eb, eo + i * 6 + 4, none⟩ = some kv := fun x => x.cell hebw ((hcw _).trans e4)
        have g5 : ∀ x : Near wr.heap.size wr, x.W.cell? ⟨eb, eo + i * 6 + 5, none⟩ = some lv := fun x => x.cell hebw ((hcw _).trans e5)
        have d0 : ∀ x : Near wr.heap.size wr, x.W.cell? ⟨fb, fo + i * 6, none⟩ = some (.int .i64 b.k) := fun x => x.cell hfbw ((hcf _).trans f0)
        have d1 : ∀ x : Near wr.heap.size wr, x.W.cell? ⟨fb, fo + i * 6 + 1, none⟩ = some (.int .i64 b.n) := fun x => x.cell hfbw ((hcf _).trans f1)
        have d2 : ∀ x : Near wr.heap.size wr, x.W.cell? ⟨fb, fo + i * 6 + 2, none⟩ = some (.float .f64 b.r) := fun x => x.cell hfbw ((hcf _).trans f2)
        have d3 : ∀ x : Near wr.heap.size wr, x.W.cell? ⟨fb, fo + i * 6 + 3, none⟩ = some (.string b.t) := fun x => x.cell hfbw ((hcf _).trans f3)
        have d4 : ∀ x : Near wr.heap.size wr, x.W.cell? ⟨fb, fo + i * 6 + 4, none⟩ = some kw := fun x => x.cell hfbw ((hcf _).trans f4)
        have d5 : ∀ x : Near wr.heap.size wr, x.W.cell? ⟨fb, fo + i * 6 + 5, none⟩ = some lw := fun x => x.cell hfbw ((hcf _).trans f5)
        have HCALL : ∀ bu : Bool, sameB a b = bu → Hid (∀ x : Near wr.heap.size wr, Calls Tryz.prog 9 #[.agg #[.int .i64 a.k, .int .i64 a.n, .float .f64 a.r, .string a.t, kv, lv], .agg #[.int .i64 b.k, .int .i64 b.n, .float .f64 b.r, .string b.t, kw, lw]] x.W
            fun e w' => e = .returned (.bool bu) ∧ ∃ y : Near wr.heap.size wr, w' = y.W) := fun bu hbu => Lib.hid fun x =>
          (hok b kv lv kw lw P Q x.W (IsV.keep ((Kept.below H1.out).trans (Kept.below x.h)) a hI) (IsV.keep ((Kept.below H1.out).trans (Kept.below x.h)) b hJ)).mono fun e w' ⟨r, he, hr, hB⟩ => ⟨by rw [he, ← hr.out, hbu], x.of hB (Nat.le_refl _)⟩
        have HAB := Lib.hid (And.intro ha hb)
        have HIK := Lib.hid hik
        clear hcw hcf e0 e1 e2 e3 e4 e5 f0 f1 f2 f3 f4 f5 hI hJ ha hb hik hok hs1
        go_upto_region 6 with fail
        cases hru : sameB a b with
        | false =>
          have HC := HCALL _ hru
          have HRU := Lib.hid hru
          clear HCALL hru
          refine wp_region_near wr.heap.size wr (by kernel_rfl) (by kernel_rfl) (Below.refl _ _) ?_
          repeat (go_big_quiet_step ((exact HC.out _)))
          refine wpQuiet_nil ?_
          intro _ hw'
          obtain ⟨⟨W1, hW1⟩, rfl⟩ := hw'
          have HB1 := Lib.hid (H1.out.trans (hW1.mono H1.out.size))
          clear hW1
          go_wp2_with fail
          go_ret
          refine ⟨_, rfl, Lib.hid (samesB_no fun hh => ?_), HB1.out⟩
          have := SamesP.at_ hh i hi' hi''
          rw [← HAB.out.1, ← HAB.out.2] at this
          have := sameB_yes this
          rw [HRU.out] at this; cases this
        | true =>
          have HC := HCALL _ hru
          have HRU := Lib.hid (sameB_iff.1 hru)
          clear HCALL hru
          refine wp_region_near wr.heap.size wr (by kernel_rfl) (by kernel_rfl) (Below.refl _ _) ?_
          repeat (go_big_quiet_step ((exact HC.out _)))
          refine wpQuiet_nil ?_
          intro _ hw'
          obtain ⟨⟨W1, hW1⟩, rfl⟩ := hw'
          have HB1 := Lib.hid (H1.out.trans (hW1.mono H1.out.size))
          clear hW1
          go_wp2_with fail
          go_roundg mm
          case measure => exact Nat.lt_succ_self mm
          case rel =>
            refine ⟨i + 1, by simp, by have := HIK.out; omega, HB1, Lib.hid (fun j hj hj' hji => ?_)⟩
            by_cases e : j = i
            · subst e
              have := HRU.out
              rw [HAB.out.1, HAB.out.2] at this
              exact this
            · exact H2.out j hj hj' (by omega)
  · have hne : ((l.length : Int) != (m.length : Int)) = true := by simp; omega
    have hne' : ((l.length : Int) == (m.length : Int)) = false := by simp; omega
    have HLEN := Lib.hid hlen
    clear hlen
    go_enter Tryz.func17, Tryz.ntmps17
    go_wp2_with fail
    go_ret
    exact ⟨_, rfl, Lib.hid (samesB_no fun h => HLEN.out h.len), Below.refl _ _⟩

theorem keyCell {w : World} {P : Nat → Prop} {A : Option Addr} {c : Nat} {ks : List ByteArray} (hk : RowIs w P 1 (.slice A ks.length c) ks.length (ks.map Value.string)) :
    ∀ i (hi : i < ks.length), ∃ b o, A = some ⟨b, o, none⟩ ∧ b < w.heap.size ∧ w.cell? ⟨b, o + i, none⟩ = some (.string ks[i]) := fun i hi => by
  obtain ⟨b, o, hA, _, hc⟩ := hk.elem (by omega)
  have := hc i (.string ks[i]) (by simp [hi])
  exact ⟨b, o, hA, World.block_lt_of_cell? w _ this, this⟩

set_option maxHeartbeats 4000000 in
theorem same_any : ∀ (N : Nat) (a : V), SizeOf.sizeOf a < N → SameOk a := by
  intro N
  induction N with
  | zero => intro a h; omega
  | succ N ih =>
  intro a hN b ka la kb lb P Q w ha hb
  obtain ⟨xs, hk, hl, hv, _, _, _, _⟩ := ha.parts
  obtain ⟨ys, hk', hl', hv', _, _, _, _⟩ := hb.parts
  obtain ⟨A, c, rfl, hnc, hcm, _⟩ := hk.form
  obtain ⟨B, d, rfl, hnd, hdm, _⟩ := hl.form
  obtain ⟨A', c', rfl, hnc', hcm', _⟩ := hk'.form
  obtain ⟨B', d', rfl, hnd', hdm', _⟩ := hl'.form
  have hlt := a.lt_of_get
  obtain ⟨k, n, r, t, ks, l⟩ := a
  obtain ⟨k', n', r', t', ks', l'⟩ := b
  simp only [V.k, V.n, V.r, V.t, V.ks, V.l] at ha hb hk hl hv hk' hl' hv' hnc hnd hnc' hnd' hlt ⊢
  have HLIST : Hid (∀ W, Kept w W P P → Kept w W Q Q → Calls Tryz.prog 17 #[.slice B l.length d, .slice B' l'.length d'] W (TheBool (samesB l l') fun w' => Below W.heap.size W w')) :=
    Lib.hid fun W h1 h2 => sameList_step l l' (fun i hi => ih _ (by have := hlt i hi; omega)) B B' d d' xs ys P Q W (hl.keep (by omega) h1) (IsVs.keep h1 l hv) (hl'.keep (by omega) h2) (IsVs.keep h2 l' hv')
  have HK := Lib.hid (keyCell hk)
  have HK' := Lib.hid (keyCell hk')
  unfold maxLen at *
  have HNO : Hid (∀ (p : Prop), (SameP (.mk k n r t ks l) (.mk k' n' r' t' ks' l') → p) → ¬ p → sameB (.mk k n r t ks l) (.mk k' n' r' t' ks' l') = false) := Lib.hid fun p h1 h2 => sameB_no fun h => h2 (h1 h)
  clear ha hb hk hl hv hk' hl' hv' hlt ih hN
  obtain ⟨W0, hW0⟩ : ∃ W0, W0 = (w.alloc (.cells #[.int .i64 k, .int .i64 n, .float .f64 r, .string t, .slice A ks.length c, .slice B l.length d] 28)).alloc (.cells #[.int .i64 k', .int .i64 n', .float .f64 r', .string t', .slice A' ks'.length c', .slice B' l'.length d'] 28) := ⟨_, rfl⟩
  have HB0 : Hid (Below w.heap.size w W0 ∧ W0.heap.size = w.heap.size + 2 ∧ Box6 W0 w.heap.size (.int .i64 k) (.int .i64 n) (.float .f64 r) (.string t) (.slice A ks.length c) (.slice B l.length d) ∧
      Box6 W0 (w.heap.size + 1) (.int .i64 k') (.int .i64 n') (.float .f64 r') (.string t') (.slice A' ks'.length c') (.slice B' l'.length d')) := Lib.hid (by
    rw [hW0]
    refine ⟨((Below.refl _ _).alloc (Nat.le_refl _) _).alloc (by simp) _, by simp, (Box6.new w _ _ _ _ _ _).below ((Below.refl _ _).alloc (Nat.le_refl _) _), ?_⟩
    have := Box6.new (w.alloc (.cells #[.int .i64 k, .int .i64 n, .float .f64 r, .string t, .slice A ks.length c, .slice B l.length d] 28)) (.int .i64 k') (.int .i64 n') (.float .f64 r') (.string t') (.slice A' ks'.length c') (.slice B' l'.length d')
    simpa using this)
  have HW0 := Lib.hid hW0
  clear hW0
  go_enter Tryz.func9, Tryz.ntmps9
  go_wp2_with fail
  refine (bare_walk k n r t _ _ k' n' r' t' _ _ _).mono ?_
  rintro e w1 ⟨rfl, hb1⟩
  rw [← HW0.out] at hb1
  have HX : Hid (Box6 w1 w.heap.size (.int .i64 k) (.int .i64 n) (.float .f64 r) (.string t) (.slice A ks.length c) (.slice B l.length d) ∧ Box6 w1 (w.heap.size + 1) (.int .i64 k') (.int .i64 n') (.float .f64 r') (.string t') (.slice A' ks'.length c') (.slice B' l'.length d')) :=
    Lib.hid ⟨HB0.out.2.2.1.below hb1, HB0.out.2.2.2.below hb1⟩
  have HB1 := Lib.hid (HB0.out.1.trans (hb1.mono HB0.out.1.size))
  have HS1 : Hid (w.heap.size + 2 ≤ w1.heap.size) := Lib.hid (by have := hb1.size; have := HB0.out.2.1; omega)
  clear hb1
  obtain ⟨_, _, _, _, a4, a5⟩ := HX.out.1.cells
  obtain ⟨_, _, _, _, b4, b5⟩ := HX.out.2.cells
  cases hbb : bareB k n r t k' n' r' t' with
  | false =>
    have HBB := Lib.hid hbb
    clear hbb
    go_wp2_with fail
    go_ret
    exact ⟨_, rfl, Lib.hid (HNO.out (bareB k n r t k' n' r' t' = true) (fun h => by unfold SameP at h; exact h.1) (by rw [HBB.out]; exact Bool.false_ne_true)), HB1.out⟩
  | true =>
    have HBB := Lib.hid hbb
    clear hbb
    by_cases hkl : ks.length = ks'.length
    · by_cases hll : l.length = l'.length
      · have z1 : ((ks.length : Int) != (ks'.length : Int)) = false := by simp [hkl]
        have z2 : ((l.length : Int) != (l'.length : Int)) = false := by simp [hll]
        have HLN := Lib.hid (And.intro hkl hll)
        clear hkl hll
        go_wp2_with fail
        obtain ⟨nk, hnk⟩ : ∃ nk, nk = ks.length := ⟨_, rfl⟩
        have HNK := Lib.hid hnk
        clear hnk
        go_loopg [5] nk (fun kq v5 wr => ∃ i : Nat, v5 = .int .i64 (i : Int) ∧ i + kq = nk ∧ Hid (Below w1.heap.size w1 wr) ∧ Hid (∀ j, j < i → ks[j]? = ks'[j]?))
        case atStart => exact ⟨0, rfl, by omega, Lib.hid (Below.refl _ _), Lib.hid (fun j hj => by omega)⟩
        case round =>
          obtain ⟨i, rfl, hik, H1, H2⟩ := hrel
          have hX : Box6 wr w.heap.size (.int .i64 k) (.int .i64 n) (.float .f64 r) (.string t) (.slice A ks.length c) (.slice B l.length d) ∧ Box6 wr (w.heap.size + 1) (.int .i64 k') (.int .i64 n') (.float .f64 r') (.string t') (.slice A' ks'.length c') (.slice B' l'.length d') :=
            ⟨HX.out.1.below H1.out, HX.out.2.below H1.out⟩
          obtain ⟨_, _, _, _, c4, c5⟩ := hX.1.cells
          obtain ⟨_, _, _, _, d4, d5⟩ := hX.2.cells
          have HXr := Lib.hid hX
          have HBr := Lib.hid (HB1.out.trans (H1.out.mono HB1.out.size))
          clear hX a4 a5 b4 b5
          cases gk with
          | zero =>
            have hi : ¬ i < ks.length := by have := HNK.out; omega
            have HIN := Lib.hid hik
            clear hik
            go_wp2_with fail
            refine (HLIST.out _ (Kept.below HBr.out) (Kept.below HBr.out)).mono ?_
            rintro e w2 ⟨res, rfl, hres, hb2⟩
            have HB2 := Lib.hid (HBr.out.trans (hb2.mono HBr.out.size))
            clear hb2
            go_wp2_with fail
            go_ret
            refine ⟨_, rfl, Lib.hid ?_, HB2.out⟩
            have hks : ks = ks' := by
              apply List.ext_getElem?
              intro j
              by_cases hj : j < i
              · exact H2.out j hj
              · have h1 := HLN.out.1
                have h2 := HNK.out
                have h3 := HIN.out
                rw [List.getElem?_eq_none (by omega), List.getElem?_eq_none (by omega)]
            cases res with
            | false =>
              refine HNO.out (SamesP l l') (fun h => by unfold SameP at h; exact h.2.2.2) (fun h => ?_)
              have := samesB_yes h
              rw [hres.out] at this; cases this
            | true =>
              refine sameB_yes ?_
              unfold SameP
              exact ⟨HBB.out, hks, HLN.out.2, samesB_iff.1 hres.out⟩
          | succ mm =>
            have hi : i < ks.length := by have := HNK.out; omega
            have hi2 : i < ks'.length := by have := HLN.out.1; omega
            obtain ⟨eb, eo, hA, hebs, he⟩ := HK.out i hi
            obtain ⟨fb, fo, hA', hfbs, hf⟩ := HK'.out i hi2
            subst hA
            subst hA'
            have hs1 := HBr.out.size
            obtain ⟨s, hs⟩ : ∃ s, s = ks[i] := ⟨_, rfl⟩
            obtain ⟨q, hq⟩ : ∃ q, q = ks'[i] := ⟨_, rfl⟩
            rw [← hs] at he
            rw [← hq] at hf
            have g0 : ∀ x : Near wr.heap.size wr, x.W.cell? ⟨eb, eo + i, none⟩ = some (.string s) := fun x => x.cell (by omega) ((HBr.out.cell (p := ⟨eb, eo + i, none⟩) hebs).trans he)
            have g1 : ∀ x : Near wr.heap.size wr, x.W.cell? ⟨fb, fo + i, none⟩ = some (.string q) := fun x => x.cell (by omega) ((HBr.out.cell (p := ⟨fb, fo + i, none⟩) hfbs).trans hf)
            have hw2 : w.heap.size + 1 < wr.heap.size := by have := HS1.out; have := H1.out.size; omega
            have n4 : ∀ x : Near wr.heap.size wr, x.W.cell? ⟨w.heap.size, 4, none⟩ = some (.slice (some ⟨eb, eo, none⟩) ks.length c) := fun x => x.cell (by omega) c4
            have n5 : ∀ x : Near wr.heap.size wr, x.W.cell? ⟨w.heap.size + 1, 4, none⟩ = some (.slice (some ⟨fb, fo, none⟩) ks'.length c') := fun x => x.cell (by omega) d4
            have HSQ := Lib.hid (And.intro hs hq)
            have HIK := Lib.hid hik
            have hiI : (i : Int) < (ks.length : Int) := by omega
            have hiI2 : (i : Int) < (ks'.length : Int) := by omega
            have hi0I : (0 : Int) ≤ (i : Int) := by omega
            clear he hf hebs hfbs hs hq hik hs1
            go_upto_region 6 with fail
            cases heq : (s.toList == q.toList) with
            | false =>
              have heq' : (s.toList != q.toList) = true := by unfold bne; rw [heq]; rfl
              have HEQ := Lib.hid heq
              refine wp_region_near wr.heap.size wr (by kernel_rfl) (by kernel_rfl) (Below.refl _ _) ?_
              repeat (go_big_quiet_step (fail))
              refine wpQuiet_nil ?_
              intro _ hw'
              obtain ⟨⟨W1, hW1⟩, rfl⟩ := hw'
              have HBe := Lib.hid (HBr.out.trans (hW1.mono HBr.out.size))
              clear hW1
              go_wp2_with fail
              go_ret
              refine ⟨_, rfl, Lib.hid (HNO.out (ks = ks') (fun h => by unfold SameP at h; exact h.2.1) (fun h => ?_)), HBe.out⟩
              have e1 : s = q := by rw [HSQ.out.1, HSQ.out.2]; simp only [h]
              have := HEQ.out
              rw [e1, beq_self_eq_true] at this; cases this
            | true =>
              have heq' : (s.toList != q.toList) = false := by unfold bne; rw [heq]; rfl
              have HEQ : Hid (s = q) := Lib.hid (ext_eq (by simpa using heq))
              refine wp_region_near wr.heap.size wr (by kernel_rfl) (by kernel_rfl) (Below.refl _ _) ?_
              repeat (go_big_quiet_step (fail))
              refine wpQuiet_nil ?_
              intro _ hw'
              obtain ⟨⟨W1, hW1⟩, rfl⟩ := hw'
              have HBe := Lib.hid (H1.out.trans (hW1.mono H1.out.size))
              clear hW1
              go_wp2_with fail
              go_roundg mm
              case measure => exact Nat.lt_succ_self mm
              case rel =>
                refine ⟨i + 1, by simp, by have := HIK.out; omega, HBe, Lib.hid (fun j hj => ?_)⟩
                by_cases e : j = i
                · subst e
                  rw [List.getElem?_eq_getElem hi, List.getElem?_eq_getElem hi2, ← HSQ.out.1, ← HSQ.out.2, HEQ.out]
                · exact H2.out j (by omega)
      · have z1 : ((ks.length : Int) != (ks'.length : Int)) = false := by simp [hkl]
        have z2 : ((l.length : Int) != (l'.length : Int)) = true := by simp; omega
        have HLL := Lib.hid hll
        clear hkl hll
        go_wp2_with fail
        go_ret
        exact ⟨_, rfl, Lib.hid (HNO.out (l.length = l'.length) (fun h => by unfold SameP at h; exact h.2.2.1) HLL.out), HB1.out⟩
    · have z1 : ((ks.length : Int) != (ks'.length : Int)) = true := by simp; omega
      have HKL := Lib.hid hkl
      clear hkl
      go_wp2_with fail
      go_ret
      exact ⟨_, rfl, Lib.hid (HNO.out (ks = ks') (fun h => by unfold SameP at h; exact h.2.1) (fun h => HKL.out (by rw [h]))), HB1.out⟩
theorem same_walk (a : V) : SameOk a := same_any _ a (Nat.lt_succ_self _)
theorem sameList_walk (l m : List V) (A A' : Option Addr) (c c' : Nat) (xs ys : List Value) (P Q : Nat → Prop) (w : World)
    (hl : RowIs w P 6 (.slice A l.length c) l.length xs) (hv : IsVs w P l xs) (hm : RowIs w Q 6 (.slice A' m.length c') m.length ys) (hu : IsVs w Q m ys) :
    Calls Tryz.prog 17 #[.slice A l.length c, .slice A' m.length c'] w (TheBool (samesB l m) fun w' => Below w.heap.size w w') :=
  sameList_step l m (fun i hi => same_walk _) A A' c c' xs ys P Q w hl hv hm hu
end Go.Proofs.YtaclgcpfcejplaaGreatDoor.Vals
