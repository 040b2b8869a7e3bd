/- Walks of sprig.Has, impl.Has, spec.Has: whether a value is in a list. -/
import Derived.Test.YtlkfdjnkkooofaaValZ
namespace Go.Proofs.Ytlkfdjnkkooofaa.Vals
open Go.RowKit Go.Proofs.YtlkfdjnkkooofaaW.PrintWords Go.Proofs.Ytlkfdjnkkooofaa.Txt
set_option linter.unusedVariables false
set_option maxRecDepth 20000

theorem bareB_symm (k n : Int) (r : Nat) (t : ByteArray) (k' n' : Int) (r' : Nat) (t' : ByteArray) : bareB k n r t k' n' r' t' = bareB k' n' r' t' k n r t := by
  unfold bareB
  rw [feq_symm r r', Bool.and_comm (!feq r r)]
  have e1 : (t.toList == t'.toList) = (t'.toList == t.toList) := by rw [Bool.eq_iff_iff]; simp only [beq_iff_eq]; exact eq_comm
  have e2 : decide (k = k') = decide (k' = k) := by rw [Bool.eq_iff_iff]; simp only [decide_eq_true_eq]; exact eq_comm
  have e3 : decide (n = n') = decide (n' = n) := by rw [Bool.eq_iff_iff]; simp only [decide_eq_true_eq]; exact eq_comm
  rw [e1, e2, e3]
theorem same_symm_any : ∀ (N : Nat) (a : V), SizeOf.sizeOf a < N → ∀ b, SameP a b → SameP b a := by
  intro N
  induction N with
  | zero => intro a h; omega
  | succ N ih =>
    intro a hN b h
    have hch : ∀ i (h : i < a.l.length) (c : V), SameP a.l[i] c → SameP c a.l[i] := fun i h c => ih _ (by have := a.lt_of_get i h; omega) c
    obtain ⟨k, n, r, t, ks, l⟩ := a
    obtain ⟨k', n', r', t', ks', l'⟩ := b
    unfold SameP at h ⊢
    simp only [V.k, V.n, V.r, V.t, V.ks, V.l] at h hch ⊢
    obtain ⟨h1, h2, h3, h4⟩ := h
    exact ⟨by rw [bareB_symm]; exact h1, h2.symm, h3.symm, SamesP.mk h3.symm fun i hi hi' => hch i hi' _ (h4.at_ i hi' hi)⟩
theorem SameP.symm {a b : V} (h : SameP a b) : SameP b a := same_symm_any _ a (Nat.lt_succ_self _) b h
/-- A value is in a list. -/
def HasP (v : V) (l : List V) : Prop := ∃ i, ∃ h : i < l.length, SameP v l[i]
noncomputable def hasB (v : V) (l : List V) : Bool := @decide (HasP v l) (Classical.propDecidable _)
theorem hasB_no {v : V} {l : List V} (h : ¬ HasP v l) : hasB v l = false := @decide_eq_false _ (Classical.propDecidable _) h
theorem hasB_yes {v : V} {l : List V} (h : HasP v l) : hasB v l = true := @decide_eq_true _ (Classical.propDecidable _) h
theorem sameB_false {a b : V} (h : sameB a b = false) : ¬ SameP a b := fun e => by have := sameB_yes e; rw [h] at this; cases this
/-- A bool, this one, and no error. -/
def TheBoolOk (r : Bool) (Q : World → Prop) (e : Ending) (w' : World) : Prop := ∃ b, e = .returned (.tuple #[.bool b, .nilIface]) ∧ Hid (r = b) ∧ Q w'
def TheBool2 (r : Bool) (Q : World → Prop) (e : Ending) (w' : World) : Prop := ∃ b, e = .returned (.tuple #[.bool b, .bool true]) ∧ Hid (r = b) ∧ Q w'

set_option maxHeartbeats 2000000 in
theorem mustHas_walk (v : V) (x : Value) (d : Int) (l : List V) (a : Addr) (c : Nat) (xs : List Value) (P Q : Nat → Prop) (w : World) (hrv : Right v d) (hr : Rights l 8) (hg : GoV w Q v x) (h3 : l.length ≤ 100000)
    (hl : RowIs w P 1 (.slice (some a) l.length c) l.length xs) (hv : GoVs w P l xs) :
    Calls Try.prog 75 #[x, .iface 64 (.slice (some a) l.length c)] w (TheBoolOk (hasB v l) fun w' => Below w.heap.size w w') := by
  have hel : ∀ i (hi : i < l.length), ∃ b o y, a = ⟨b, o, none⟩ ∧ b < w.heap.size ∧ GoV w P l[i] y ∧ w.cell? ⟨b, o + i, none⟩ = some y := fun i hi => by
    obtain ⟨b, o, hA, hb, hc⟩ := hl.cell1 (by omega)
    obtain ⟨x, hx, hg⟩ := hv.at_ i hi
    exact ⟨b, o, x, hA, hb, hg, hc i x hx⟩
  have HEL := Lib.hid hel
  have HR := Lib.hid (And.intro hrv hr)
  have HG := Lib.hid hg
  obtain ⟨hnc, hcm⟩ := hl.sizes
  unfold maxLen at hcm
  clear hl hv hel hrv hr hg
  obtain ⟨n, hn⟩ : ∃ n, n = l.length := ⟨_, rfl⟩
  rw [← hn] at hnc h3 ⊢
  have HN := Lib.hid hn
  clear hn
  have hz := zzList_walk a n c
  have hne : ∀ w, (binOp .eql 20 (.iface 64 (.slice (some a) n c)) .nilIface).run Try.prog w = .ok (.bool false) w := fun w => by kernel_rfl
  go_enter Try.func75, Try.ntmps75
  go_wp2_with (go_at_call 94; refine (hz _).mono ?_; rintro e w' ⟨rfl, hw'⟩; subst w')
  go_loopg [8, 10] n (fun kq v8 v10 wr => ∃ (i : Nat) (z : Value), v8 = z ∧ v10 = .int .i64 (i : Int) ∧ i + kq = n ∧ Hid (Below w.heap.size w wr) ∧ Hid (∀ j (h : j < l.length), j < i → ¬ SameP v l[j]))
  case atStart => exact ⟨0, _, rfl, rfl, by omega, Lib.hid (Below.refl _ _), Lib.hid (fun j _ hj => by omega)⟩
  case round =>
    obtain ⟨i, z, rfl, rfl, hik, H1, H2⟩ := hrel
    cases gk with
    | zero =>
      have hi : ¬ i < n := by omega
      have HIN := Lib.hid hik
      clear hik
      go_wp2_with fail
      go_ret2
      exact ⟨_, rfl, Lib.hid (hasB_no fun ⟨j, hj, hs⟩ => H2.out j hj (by have := HIN.out; have := HN.out; omega) hs), H1.out⟩
    | succ mm =>
      have hi : i < n := by omega
      have hi' : i < l.length := by have := HN.out; omega
      obtain ⟨b, o, y, hA, hbs, hgy, e0⟩ := HEL.out i hi'
      subst hA
      have hrl := HR.out.2.at_ i hi'
      obtain ⟨u, hu⟩ : ∃ u, u = l[i] := ⟨_, rfl⟩
      rw [← hu] at hgy hrl
      have g0 := (H1.out.cell (p := ⟨b, o + i, none⟩) hbs).trans e0
      have HC := Lib.hid (zzEqual_walk v u d 8 x y Q P wr HR.out.1 hrl (GoV.keep (Kept.below H1.out) v HG.out) (GoV.keep (Kept.below H1.out) u hgy))
      have HU := Lib.hid hu
      have HIK := Lib.hid hik
      clear hrl hu hgy e0 hik
      go_wp2_with fail
      refine (HC.out).mono ?_
      rintro e w2 ⟨r, rfl, HRR, hb2⟩
      have HB2 := Lib.hid (H1.out.trans (hb2.mono H1.out.size))
      clear hb2
      cases r with
      | true =>
        go_wp2_with fail
        go_ret2
        exact ⟨_, rfl, Lib.hid (hasB_yes ⟨i, hi', by rw [← HU.out]; exact sameB_iff.1 HRR.out⟩), HB2.out⟩
      | false =>
        go_wp2_with fail
        go_roundg mm
        case measure => exact Nat.lt_succ_self mm
        case rel =>
          refine ⟨i + 1, _, rfl, by simp, by have := HIK.out; omega, HB2, Lib.hid (fun j hj hji => ?_)⟩
          by_cases e : j = i
          · subst e
            rw [← HU.out]; exact sameB_false HRR.out
          · exact H2.out j hj (by omega)
theorem sprigHas_walk (v : V) (x : Value) (d : Int) (l : List V) (a : Addr) (c : Nat) (xs : List Value) (P Q : Nat → Prop) (w : World) (hrv : Right v d) (hr : Rights l 8) (hg : GoV w Q v x) (h3 : l.length ≤ 100000)
    (hl : RowIs w P 1 (.slice (some a) l.length c) l.length xs) (hv : GoVs w P l xs) :
    Calls Try.prog 49 #[x, .iface 64 (.slice (some a) l.length c)] w (TheBoolOk (hasB v l) fun w' => Below w.heap.size w w') := by
  have HM := Lib.hid (mustHas_walk v x d l a c xs P Q w hrv hr hg h3 hl hv)
  obtain ⟨n, hn⟩ : ∃ n, n = l.length := ⟨_, rfl⟩
  rw [← hn] at HM ⊢
  clear hrv hr hg h3 hl hv hn
  go_enter Try.func49, Try.ntmps49
  go_wp2_with (go_at_call 75; refine HM.out.mono ?_; rintro e w' ⟨r, rfl, HR, hb⟩)
  go_ret2
  exact ⟨_, rfl, HR, hb⟩

set_option maxHeartbeats 2000000 in
theorem implHas_walk (v : V) (d : Int) (hrv : Right v d) (kv lv : Value) (l : List V) (hr : Rights l 8) (h60 : l.length ≤ 60) (A : Option Addr) (c : Nat) (xs : List Value) (P Q : Nat → Prop) (w : World)
    (hi : IsV w Q v [.int .i64 v.k, .int .i64 v.n, .float .f64 v.r, .string v.t, kv, lv]) (hl : RowIs w P 6 (.slice A l.length c) l.length xs) (hv : IsVs w P l xs) :
    Calls Try.prog 17 #[.agg #[.int .i64 v.k, .int .i64 v.n, .float .f64 v.r, .string v.t, kv, lv], .slice A l.length c] w (TheBool2 (hasB v l) fun w' => Below w.heap.size w w') := by
  have HW : Hid (∀ o, Below w.heap.size w (w.alloc o)) := Lib.hid fun o => (Below.refl _ _).alloc (Nat.le_refl _) o
  have HG1 := Lib.hid fun o => goOf_walk v d hrv kv lv Q (w.alloc o) (IsV.keep (Kept.below (HW.out o)) v hi)
  have HG2 : Hid (∀ W, Below w.heap.size w W → Calls Try.prog 48 #[.slice A l.length c] W (GoListRes l W)) := Lib.hid fun W hW => goList_walk l (by omega) (fun i h => ⟨8, hr.at_ i h⟩) A c xs P W (hl.keep (by omega) (Kept.below hW)) (IsVs.keep (Kept.below hW) l hv)
  have HRR := Lib.hid (And.intro hrv hr)
  have HH : Hid (∀ (x : Value) (a : Addr) (cap : Nat) (ys : List Value) (P Q : Nat → Prop) (W : World), GoV W Q v x → RowIs W P 1 (.slice (some a) l.length cap) l.length ys → GoVs W P l ys → Calls Try.prog 49 #[x, .iface 64 (.slice (some a) l.length cap)] W (TheBoolOk (hasB v l) fun w' => Below W.heap.size W w')) :=
    Lib.hid fun x a cap ys P Q W h1 h2 h3 => sprigHas_walk v x d l a cap ys P Q W hrv hr h1 (by omega) h2 h3
  obtain ⟨n, hn⟩ : ∃ n, n = l.length := ⟨_, rfl⟩
  have HN := Lib.hid hn
  rw [← hn] at HG2 HH h60 ⊢
  have hsf := store_float
  clear hrv hi hr hl hv hn
  go_enter Try.func17, Try.ntmps17
  go_wp2_with fail
  refine (HG1.out _).mono ?_
  rintro e w1 ⟨x, rfl, HX, HB1⟩
  have HB1' := Lib.hid ((HW.out _).trans (HB1.out.mono (by simp)))
  have HC2 := Lib.hid (HG2.out w1 HB1'.out)
  go_wp2_with fail
  refine (HC2.out).mono ?_
  rintro e w2 ⟨a, cap, ys, rfl, HY, HB2⟩
  have HB2' := Lib.hid (HB1'.out.trans (HB2.out.mono HB1'.out.size))
  rw [← HN.out] at HY ⊢
  have HC3 := Lib.hid (HH.out x a cap ys _ _ w2 (GoV.keep (Kept.below HB2.out) v HX.out) HY.out.1 HY.out.2)
  go_wp2_with fail
  refine (HC3.out).mono ?_
  rintro e w3 ⟨r, rfl, HR, hb3⟩
  have HB3' := Lib.hid (HB2'.out.trans (hb3.mono HB2'.out.size))
  clear hb3
  have hnn := nil_nil
  go_wp2_with fail
  go_quiet (fail)
  go_wp2_with fail
  go_ret2
  exact ⟨_, rfl, HR, HB3'.out.trans (c := w3.drewN nq) ⟨rfl, rfl, rfl, Nat.le_refl _, fun _ _ => rfl⟩⟩

set_option maxHeartbeats 2000000 in
theorem specHas_walk (v : V) (kv lv : Value) (l : List V) (A : Option Addr) (c : Nat) (xs : List Value) (P Q : Nat → Prop) (w : World)
    (hi : IsV w Q v [.int .i64 v.k, .int .i64 v.n, .float .f64 v.r, .string v.t, kv, lv]) (hl : RowIs w P 6 (.slice A l.length c) l.length xs) (hv : IsVs w P l xs) :
    Calls Try.prog 18 #[.slice A l.length c, .agg #[.int .i64 v.k, .int .i64 v.n, .float .f64 v.r, .string v.t, kv, lv]] w (TheBool (hasB v l) fun w' => Below w.heap.size w w') := by
  have HEL := Lib.hid (IsVs.elem hl hv)
  have HI := Lib.hid hi
  have HW : Hid (∀ o, Below w.heap.size w (w.alloc o)) := Lib.hid fun o => (Below.refl _ _).alloc (Nat.le_refl _) o
  have HB0 := Lib.hid (Box6.new w (.int .i64 v.k) (.int .i64 v.n) (.float .f64 v.r) (.string v.t) kv lv)
  obtain ⟨hnc, hcm⟩ := hl.sizes
  unfold maxLen at hcm
  clear hl hv hi
  obtain ⟨n, hn⟩ : ∃ n, n = l.length := ⟨_, rfl⟩
  rw [← hn] at hnc ⊢
  have HN := Lib.hid hn
  clear hn
  have hsf := store_float
  go_enter Try.func18, Try.ntmps18
  go_wp2_with fail
  go_loopg [5] n (fun kq v5 wr => ∃ (i : Nat), v5 = .int .i64 (i : Int) ∧ i + kq = n ∧ Hid (Below w.heap.size w wr) ∧ Hid (Box6 wr w.heap.size (.int .i64 v.k) (.int .i64 v.n) (.float .f64 v.r) (.string v.t) kv lv) ∧ Hid (∀ j (h : j < l.length), j < i → ¬ SameP v l[j]))
  case atStart => exact ⟨0, rfl, by omega, Lib.hid (HW.out _), HB0, Lib.hid (fun j _ hj => by omega)⟩
  case round =>
    obtain ⟨i, rfl, hik, H1, HBX, H2⟩ := hrel
    cases gk with
    | zero =>
      have hi : ¬ i < n := by omega
      have HIN := Lib.hid hik
      clear hik
      go_wp2_with fail
      go_ret
      exact ⟨_, rfl, Lib.hid (hasB_no fun ⟨j, hj, hs⟩ => H2.out j hj (by have := HIN.out; have := HN.out; omega) hs), H1.out⟩
    | succ mm =>
      have hi : i < n := by omega
      have hi' : i < l.length := by have := HN.out; omega
      obtain ⟨eb, eo, ke, le, hA, hebs, _, hI, e0, e1, e2, e3, e4, e5⟩ := HEL.out i hi'
      subst hA
      obtain ⟨u, hu⟩ : ∃ u, u = l[i] := ⟨_, rfl⟩
      rw [← hu] at hI e0 e1 e2 e3
      have hs1 := H1.out.size
      have hebw : eb < wr.heap.size := by omega
      have hbxl := HBX.out.lt
      obtain ⟨c0, c1, c2, c3, c4, c5⟩ := HBX.out.cells
      have hcw : ∀ j, wr.cell? ⟨eb, j, none⟩ = w.cell? ⟨eb, j, none⟩ := fun j => H1.out.cell (p := ⟨eb, j, none⟩) hebs
      have g0 : ∀ x : Near wr.heap.size wr, x.W.cell? ⟨eb, eo + i * 6, none⟩ = some _ := fun x => x.cell hebw ((hcw _).trans e0)
      have g1 : ∀ x : Near wr.heap.size wr, x.W.cell? ⟨eb, eo + i * 6 + 1, none⟩ = some _ := fun x => x.cell hebw ((hcw _).trans e1)
      have g2 : ∀ x : Near wr.heap.size wr, x.W.cell? ⟨eb, eo + i * 6 + 2, none⟩ = some _ := fun x => x.cell hebw ((hcw _).trans e2)
      have g3 : ∀ x : Near wr.heap.size wr, x.W.cell? ⟨eb, eo + i * 6 + 3, none⟩ = some _ := fun x => x.cell hebw ((hcw _).trans e3)
      have g4 : ∀ x : Near wr.heap.size wr, x.W.cell? ⟨eb, eo + i * 6 + 4, none⟩ = some _ := fun x => x.cell hebw ((hcw _).trans e4)
      have g5 : ∀ x : Near wr.heap.size wr, x.W.cell? ⟨eb, eo + i * 6 + 5, none⟩ = some _ := fun x => x.cell hebw ((hcw _).trans e5)
      have d0 : ∀ x : Near wr.heap.size wr, x.W.cell? ⟨w.heap.size, 0, none⟩ = some _ := fun x => x.cell hbxl c0
      have d1 : ∀ x : Near wr.heap.size wr, x.W.cell? ⟨w.heap.size, 1, none⟩ = some _ := fun x => x.cell hbxl c1
      have d2 : ∀ x : Near wr.heap.size wr, x.W.cell? ⟨w.heap.size, 2, none⟩ = some _ := fun x => x.cell hbxl c2
      have d3 : ∀ x : Near wr.heap.size wr, x.W.cell? ⟨w.heap.size, 3, none⟩ = some _ := fun x => x.cell hbxl c3
      have d4 : ∀ x : Near wr.heap.size wr, x.W.cell? ⟨w.heap.size, 4, none⟩ = some _ := fun x => x.cell hbxl c4
      have d5 : ∀ x : Near wr.heap.size wr, x.W.cell? ⟨w.heap.size, 5, none⟩ = some _ := fun x => x.cell hbxl c5
      have HCALL : ∀ bu : Bool, sameB u v = bu → Hid (∀ x : Near wr.heap.size wr, Calls Try.prog 22 #[.agg #[.int .i64 u.k, .int .i64 u.n, .float .f64 u.r, .string u.t, ke, le], .agg #[.int .i64 v.k, .int .i64 v.n, .float .f64 v.r, .string v.t, kv, lv]] x.W
          fun e w' => e = .returned (.bool bu) ∧ ∃ y : Near wr.heap.size wr, w' = y.W) := fun bu hbu => Lib.hid fun x =>
        (same_walk u v ke le kv lv P Q x.W (IsV.keep ((Kept.below H1.out).trans (Kept.below x.h)) u hI) (IsV.keep ((Kept.below H1.out).trans (Kept.below x.h)) v HI.out)).mono fun e w' ⟨r, he, hr, hB⟩ => ⟨by rw [he, ← hr.out, hbu], x.of hB (Nat.le_refl _)⟩
      have HU := Lib.hid hu
      have HIK := Lib.hid hik
      have hii0 : (0 : Int) ≤ (i : Int) := by omega
      have hiin : (i : Int) < (n : Int) := by omega
      clear hcw e0 e1 e2 e3 e4 e5 c0 c1 c2 c3 c4 c5 hI hu hik hs1
      go_upto_region 4 with fail
      cases hru : sameB u v with
      | true =>
        have HC := HCALL _ hru
        have HRU := Lib.hid (sameB_iff.1 hru)
        clear HCALL hru
        refine wp_region_near wr.heap.size wr (by kernel_rfl) (by kernel_rfl) (Below.refl _ _) ?_
        repeat (go_big_quiet_step ((exact HC.out _)))
        refine wpQuiet_nil ?_
        intro _ hw'
        obtain ⟨⟨W1, hW1⟩, rfl⟩ := hw'
        have HB1 := Lib.hid (H1.out.trans (hW1.mono H1.out.size))
        clear hW1
        go_wp2_with fail
        go_ret
        exact ⟨_, rfl, Lib.hid (hasB_yes ⟨i, hi', by rw [← HU.out]; exact HRU.out.symm⟩), HB1.out⟩
      | false =>
        have HC := HCALL _ hru
        have HRU := Lib.hid (sameB_false hru)
        clear HCALL hru
        refine wp_region_near wr.heap.size wr (by kernel_rfl) (by kernel_rfl) (Below.refl _ _) ?_
        repeat (go_big_quiet_step ((exact HC.out _)))
        refine wpQuiet_nil ?_
        intro _ hw'
        obtain ⟨⟨W1, hW1⟩, rfl⟩ := hw'
        have HB1 := Lib.hid (H1.out.trans (hW1.mono H1.out.size))
        have HBX1 := Lib.hid (HBX.out.below hW1)
        clear hW1
        go_wp2_with fail
        go_roundg mm
        case measure => exact Nat.lt_succ_self mm
        case rel =>
          refine ⟨i + 1, by simp, by have := HIK.out; omega, HB1, HBX1, Lib.hid (fun j hj hji hs => ?_)⟩
          by_cases e : j = i
          · subst e
            rw [← HU.out] at hs; exact HRU.out hs.symm
          · exact H2.out j hj (by omega) hs
end Go.Proofs.Ytlkfdjnkkooofaa.Vals
