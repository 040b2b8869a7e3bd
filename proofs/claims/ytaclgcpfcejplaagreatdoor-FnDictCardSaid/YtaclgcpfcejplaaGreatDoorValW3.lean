/- Walk of spec.right: what it answers. -/
import Derived.Test.YtaclgcpfcejplaaGreatDoorValD
import Derived.Deep.DeepCutAuto
import Derived.Deep.CutBlock
import Derived.Test.YtaclgcpfcejplaaGreatDoorNear
import Derived.IntWalk
namespace Go.Proofs.YtaclgcpfcejplaaGreatDoor.Vals
open Go.RowKit Go.Proofs.YtaclgcpfcejplaaGreatDoorW.PrintWords
set_option linter.unusedVariables false
set_option maxRecDepth 20000

set_option maxHeartbeats 8000000 in
theorem right_walk : ∀ (N : Nat) (v : V), SizeOf.sizeOf v < N → ∀ (kv lv : Value) (P : Nat → Prop) (w : World) (deep : Int), IsV w P v [.int .i64 v.k, .int .i64 v.n, .float .f64 v.r, .string v.t, kv, lv] →
    0 ≤ deep → deep ≤ 8 →
    Calls Tryz.prog 11 #[.agg #[.int .i64 v.k, .int .i64 v.n, .float .f64 v.r, .string v.t, kv, lv], .int .i64 deep] w
      (TheBool (rightB v deep) fun w' => Below w.heap.size w w') := by
  intro N
  induction N with
  | zero => intro v h; omega
  | succ N ih =>
  intro v hN kv lv P w deep h hd0 hd8
  have IH := Lib.hid ih
  clear ih
  obtain ⟨xs, hk, hl, hv, _, _, ht, _⟩ := h.parts
  obtain ⟨A, c, rfl, hnc, hcm, _⟩ := hk.form
  obtain ⟨A', c', rfl, hnc', hcm', _⟩ := hl.form
  obtain ⟨k, n, r, t, ks, l⟩ := v
  simp only [V.k, V.n, V.r, V.t, V.ks, V.l] at h hk hl hv ht hnc hnc' ⊢
  have hel := IsVs.elem hl hv
  have hke : ∀ i (hi : i < ks.length), ∃ b o, A = some ⟨b, o, none⟩ ∧ b < w.heap.size ∧ w.cell? ⟨b, o + i, none⟩ = some (.string ks[i]) := fun i hi => by
    obtain ⟨b, o, hA, _, hc⟩ := hk.elem (by omega)
    have := hc i (.string ks[i]) (by simp [hi])
    exact ⟨b, o, hA, World.block_lt_of_cell? w _ this, this⟩
  have hlt : ∀ i (hi : i < l.length), SizeOf.sizeOf l[i] < N := fun i hi => by
    have h1 : SizeOf.sizeOf l[i] < SizeOf.sizeOf (V.mk k n r t ks l) := V.lt_of_get (.mk k n r t ks l) i hi
    omega
  have HEL := Lib.hid hel
  have HKE := Lib.hid hke
  have HLT0 := Lib.hid hlt
  clear h hk hl hv hel hke hlt hN
  have hsf := store_float
  go_enter Tryz.func11, Tryz.ntmps11
  go_upto_block 0 with fail
  go_cut [] (fun wx => ∃ n' r' t', BareOf k n r t n' r' t' ∧ wx = ((w.alloc (.cells #[.int .i64 k, .int .i64 n, .float .f64 r, .string t, .slice A ks.length c, .slice A' l.length c'] 28)).alloc
      (.cells #[.int .i64 k, .int .i64 n, .float .f64 r, .string t, .slice none 0 0, .slice none 0 0] 28)).alloc (.cells #[.int .i64 k, .int .i64 n', .float .f64 r', .string t', .slice none 0 0, .slice none 0 0] 28))
  case first =>
    by_cases k0 : k = 0
    · subst k0
      as_aux_lemma =>
        go_wp2_with fail
        go_meet
        exact ⟨0, 0, ⟨#[]⟩, by simp [BareOf], rfl⟩
    by_cases k1 : k = 1
    · subst k1
      as_aux_lemma =>
        go_wp2_with fail
        go_meet
        exact ⟨_, 0, ⟨#[]⟩, by simp [BareOf], rfl⟩
    by_cases k2 : k = 2
    · subst k2
      as_aux_lemma =>
        go_wp2_with fail
        go_meet
        exact ⟨n, 0, ⟨#[]⟩, by simp [BareOf], rfl⟩
    by_cases k3 : k = 3
    · subst k3
      as_aux_lemma =>
        go_wp2_with fail
        go_meet
        exact ⟨n, 0, ⟨#[]⟩, by simp [BareOf], rfl⟩
    by_cases k4 : k = 4
    · subst k4
      as_aux_lemma =>
        go_wp2_with fail
        go_meet
        exact ⟨0, r, ⟨#[]⟩, by simp [BareOf], rfl⟩
    by_cases k5 : k = 5
    · subst k5
      as_aux_lemma =>
        go_wp2_with fail
        go_meet
        exact ⟨0, 0, t, by simp [BareOf], rfl⟩
    by_cases k6 : k = 6
    · subst k6
      as_aux_lemma =>
        go_wp2_with fail
        go_meet
        exact ⟨0, 0, ⟨#[]⟩, by simp [BareOf], rfl⟩
    by_cases k7 : k = 7
    · subst k7
      as_aux_lemma =>
        go_wp2_with fail
        go_meet
        exact ⟨0, 0, ⟨#[]⟩, by simp [BareOf], rfl⟩
    have d0 : (k == 0) = false := by simpa using k0
    have d1 : (k == 1) = false := by simpa using k1
    have d2 : (k == 2) = false := by simpa using k2
    have d3 : (k == 3) = false := by simpa using k3
    have d4 : (k == 4) = false := by simpa using k4
    have d5 : (k == 5) = false := by simpa using k5
    have d6 : (k == 6) = false := by simpa using k6
    have d7 : (k == 7) = false := by simpa using k7
    as_aux_lemma =>
      go_wp2_with fail
      go_ret
      refine ⟨_, rfl, Lib.hid (rightB_no fun hR => ?_), below3 _ _ _ _⟩
      unfold Right at hR
      obtain ⟨⟨_, _, _, hb, _⟩, _⟩ := hR
      have := hb.1
      omega
  case rest =>
    obtain ⟨n', r', t', hB, hwc⟩ := hcut
    obtain ⟨wA, rfl⟩ : ∃ wA : World, wA = wc := ⟨_, rfl⟩
    have b0 : wA.cell? ⟨w.heap.size, 0, none⟩ = some (.int .i64 k) := by rw [hwc]; simp [go_sem]
    have b2 : wA.cell? ⟨w.heap.size, 2, none⟩ = some (.float .f64 r) := by rw [hwc]; simp [go_sem]
    have b3 : wA.cell? ⟨w.heap.size, 3, none⟩ = some (.string t) := by rw [hwc]; simp [go_sem]
    have b4 : wA.cell? ⟨w.heap.size, 4, none⟩ = some (.slice A ks.length c) := by rw [hwc]; simp [go_sem]
    have b5 : wA.cell? ⟨w.heap.size, 5, none⟩ = some (.slice A' l.length c') := by rw [hwc]; simp [go_sem]
    have hsz : wA.heap.size = w.heap.size + 3 := by rw [hwc]; simp
    have HBX : Hid ((wA.cell? ⟨w.heap.size, 0, none⟩ = some (.int .i64 k) ∧ wA.cell? ⟨w.heap.size, 2, none⟩ = some (.float .f64 r) ∧ wA.cell? ⟨w.heap.size, 3, none⟩ = some (.string t) ∧
        wA.cell? ⟨w.heap.size, 4, none⟩ = some (.slice A ks.length c) ∧ wA.cell? ⟨w.heap.size, 5, none⟩ = some (.slice A' l.length c')) ∧ wA.heap.size = w.heap.size + 3) := Lib.hid ⟨⟨b0, b2, b3, b4, b5⟩, hsz⟩
    have HBW : Hid (Below w.heap.size w wA) := Lib.hid (by rw [hwc]; exact below3 _ _ _ _)
    have HBO := Lib.hid hB
    clear hB b0 b2 b3 b4 b5 hsz
    have hno : ∀ (p : Prop), (Right (.mk k n r t ks l) deep → p) → ¬ p → rightB (.mk k n r t ks l) deep = false := fun p h1 h2 => rightB_no fun hR => h2 (h1 hR)
    have HNO := Lib.hid hno
    clear hno
    go_upto_region 18 with fail
    go_cut [85] (fun s85 wx => ∃ bad, s85 = .bool bad ∧ Hid (Below wA.heap.size wA wx) ∧ Hid (bad = true → rightB (.mk k n r t ks l) deep = false) ∧
        Hid (bad = false → bareB k n r t k n' r' t' = true ∧ finB r = true ∧ t.size ≤ 300 ∧ (k ≠ 6 → k ≠ 7 → l.length = 0) ∧ l.length ≤ 300 ∧ deep ≠ 0))
    case first =>
      have c50 : wA.cell? ⟨w.heap.size + 1, 0, none⟩ = some (.int .i64 k) := by rw [hwc]; simp [go_sem]
      have c51 : wA.cell? ⟨w.heap.size + 1, 1, none⟩ = some (.int .i64 n) := by rw [hwc]; simp [go_sem]
      have c52 : wA.cell? ⟨w.heap.size + 1, 2, none⟩ = some (.float .f64 r) := by rw [hwc]; simp [go_sem]
      have c53 : wA.cell? ⟨w.heap.size + 1, 3, none⟩ = some (.string t) := by rw [hwc]; simp [go_sem]
      have c54 : wA.cell? ⟨w.heap.size + 1, 4, none⟩ = some (.slice none 0 0) := by rw [hwc]; simp [go_sem]
      have c55 : wA.cell? ⟨w.heap.size + 1, 5, none⟩ = some (.slice none 0 0) := by rw [hwc]; simp [go_sem]
      have c60 : wA.cell? ⟨w.heap.size + 1 + 1, 0, none⟩ = some (.int .i64 k) := by rw [hwc]; simp [go_sem]
      have c61 : wA.cell? ⟨w.heap.size + 1 + 1, 1, none⟩ = some (.int .i64 n') := by rw [hwc]; simp [go_sem]
      have c62 : wA.cell? ⟨w.heap.size + 1 + 1, 2, none⟩ = some (.float .f64 r') := by rw [hwc]; simp [go_sem]
      have c63 : wA.cell? ⟨w.heap.size + 1 + 1, 3, none⟩ = some (.string t') := by rw [hwc]; simp [go_sem]
      have c64 : wA.cell? ⟨w.heap.size + 1 + 1, 4, none⟩ = some (.slice none 0 0) := by rw [hwc]; simp [go_sem]
      have c65 : wA.cell? ⟨w.heap.size + 1 + 1, 5, none⟩ = some (.slice none 0 0) := by rw [hwc]; simp [go_sem]
      clear hwc
      go_wp2_with fail
      refine (bare_walk k n r t _ _ k n' r' t' _ _ _).mono ?_
      rintro e w' ⟨rfl, hb'⟩
      have HB' := Lib.hid hb'
      have b0 := (hb'.cell (p := ⟨w.heap.size, 0, none⟩) (by rw [HBX.out.2]; show w.heap.size < w.heap.size + 3; omega)).trans HBX.out.1.1
      have b2 := (hb'.cell (p := ⟨w.heap.size, 2, none⟩) (by rw [HBX.out.2]; show w.heap.size < w.heap.size + 3; omega)).trans HBX.out.1.2.1
      have b3 := (hb'.cell (p := ⟨w.heap.size, 3, none⟩) (by rw [HBX.out.2]; show w.heap.size < w.heap.size + 3; omega)).trans HBX.out.1.2.2.1
      have b5 := (hb'.cell (p := ⟨w.heap.size, 5, none⟩) (by rw [HBX.out.2]; show w.heap.size < w.heap.size + 3; omega)).trans HBX.out.1.2.2.2.2
      clear hb' c50 c51 c52 c53 c54 c55 c60 c61 c62 c63 c64 c65
      cases hbb : bareB k n r t k n' r' t' with
      | false =>
        have HBB := Lib.hid hbb
        clear hbb
        as_aux_lemma =>
          go_wp2_with fail
          go_meet
          exact ⟨_, rfl, HB', Lib.hid (fun _ => HNO.out (bareB k n r t k n' r' t' = true) (fun hR => by
            unfold Right at hR
            obtain ⟨⟨x, y, z, h1, h2⟩, _⟩ := hR
            obtain ⟨rfl, rfl, rfl⟩ := h1.uniq HBO.out
            exact h2) (by rw [HBB.out]; exact Bool.false_ne_true)), Lib.hid (fun h => by cases h)⟩
      | true =>
        by_cases h1 : t.size > 300
        · have HT := Lib.hid h1
          as_aux_lemma =>
            go_wp2_with fail
            go_meet
            exact ⟨_, rfl, HB', Lib.hid (fun _ => HNO.out (t.size ≤ 300) (fun hR => by unfold Right at hR; exact hR.2.2.1) (by have := HT.out; omega)), Lib.hid (fun h => by cases h)⟩
        cases hs : floatBits .sub .f64 r r with
        | none =>
          obtain ⟨q, hq, hqn⟩ := run_sub_none (P := Tryz.prog) 26 r hs w'
          have q1 : (FloatKind.f64.format.order q 0 == some Ordering.eq) = false := hqn 0
          have q2 : (FloatKind.f64.format.order q 0 != some Ordering.eq) = true := by unfold bne; rw [q1]; rfl
          have HFN : Hid (finB r ≠ true) := Lib.hid (by unfold finB; rw [hs]; exact Bool.false_ne_true)
          clear hqn hs
          as_aux_lemma =>
            go_wp2_with fail
            go_meet
            exact ⟨_, rfl, Lib.hid (HB'.out.drew), Lib.hid (fun _ => HNO.out (finB r = true) (fun hR => by unfold Right at hR; exact hR.2.1) HFN.out), Lib.hid (fun h => by cases h)⟩
        | some q =>
          have hq := run_float_arith (P := Tryz.prog) w' .sub 26 .f64 r r q hs
          have HFQ : Hid (finB r = feq q 0) := Lib.hid (by unfold finB; rw [hs])
          have hbb' := Lib.hid hbb
          clear hs hbb
          cases hz : feq q 0 with
          | false =>
            have q1 : (FloatKind.f64.format.order q 0 == some Ordering.eq) = false := hz
            have q2 : (FloatKind.f64.format.order q 0 != some Ordering.eq) = true := by unfold bne; rw [q1]; rfl
            have HZ := Lib.hid hz
            clear hz
            as_aux_lemma =>
              go_wp2_with fail
              go_meet
              exact ⟨_, rfl, HB', Lib.hid (fun _ => HNO.out (finB r = true) (fun hR => by unfold Right at hR; exact hR.2.1) (by rw [HFQ.out, HZ.out]; exact Bool.false_ne_true)), Lib.hid (fun h => by cases h)⟩
          | true =>
            have q1 : (FloatKind.f64.format.order q 0 == some Ordering.eq) = true := hz
            have q2 : (FloatKind.f64.format.order q 0 != some Ordering.eq) = false := by unfold bne; rw [q1]; rfl
            have HZ := Lib.hid (HFQ.out.trans hz)
            clear hz HFQ
            by_cases k6 : k = 6
            · subst k6
              by_cases hl3 : l.length > 300
              · have HL3 := Lib.hid hl3
                as_aux_lemma =>
                  go_wp2_with fail
                  go_meet
                  exact ⟨_, rfl, HB', Lib.hid (fun _ => HNO.out (l.length ≤ 300) (fun hR => by unfold Right at hR; exact hR.2.2.2.2.1) (by have := HL3.out; omega)), Lib.hid (fun h => by cases h)⟩
              · as_aux_lemma =>
                  go_wp2_with fail
                  go_meet
                  refine ⟨_, rfl, HB', Lib.hid (fun h => HNO.out (deep ≠ 0) (fun hR => by unfold Right at hR; exact hR.2.2.2.2.2.1) (by simp at h; omega)), Lib.hid (fun h => ⟨hbb'.out, HZ.out, by omega, by omega, by omega, by simp at h; omega⟩)⟩
            · have d6 : (k == 6) = false := by simpa using k6
              have e6 : (k != 6) = true := by simpa using k6
              by_cases k7 : k = 7
              · subst k7
                by_cases hl3 : l.length > 300
                · have HL3 := Lib.hid hl3
                  as_aux_lemma =>
                    go_wp2_with fail
                    go_meet
                    exact ⟨_, rfl, HB', Lib.hid (fun _ => HNO.out (l.length ≤ 300) (fun hR => by unfold Right at hR; exact hR.2.2.2.2.1) (by have := HL3.out; omega)), Lib.hid (fun h => by cases h)⟩
                · as_aux_lemma =>
                    go_wp2_with fail
                    go_meet
                    refine ⟨_, rfl, HB', Lib.hid (fun h => HNO.out (deep ≠ 0) (fun hR => by unfold Right at hR; exact hR.2.2.2.2.2.1) (by simp at h; omega)), Lib.hid (fun h => ⟨hbb'.out, HZ.out, by omega, by omega, by omega, by simp at h; omega⟩)⟩
              · have d7 : (k == 7) = false := by simpa using k7
                have e7 : (k != 7) = true := by simpa using k7
                by_cases hl0 : 0 < l.length
                · have HL0 := Lib.hid hl0
                  have HK6 := Lib.hid k6
                  have HK7 := Lib.hid k7
                  as_aux_lemma =>
                    go_wp2_with fail
                    go_meet
                    exact ⟨_, rfl, HB', Lib.hid (fun _ => HNO.out (l.length = 0) (fun hR => by unfold Right at hR; exact hR.2.2.2.1 HK6.out HK7.out) (by have := HL0.out; omega)), Lib.hid (fun h => by cases h)⟩
                · have hl3 : ¬ l.length > 300 := by omega
                  as_aux_lemma =>
                    go_wp2_with fail
                    go_meet
                    refine ⟨_, rfl, HB', Lib.hid (fun h => HNO.out (deep ≠ 0) (fun hR => by unfold Right at hR; exact hR.2.2.2.2.2.1) (by simp at h; omega)), Lib.hid (fun h => ⟨hbb'.out, HZ.out, by omega, by omega, by omega, by simp at h; omega⟩)⟩
    case rest =>
      obtain ⟨bad, rfl, HB1, HX1, HF1⟩ := hcut
      obtain ⟨wB, rfl⟩ : ∃ wB : World, wB = wc := ⟨_, rfl⟩
      clear hwc
      cases bad with
      | true =>
        as_aux_lemma =>
          go_wp2_with fail
          go_ret
          exact ⟨_, rfl, Lib.hid (HX1.out (by simp)), HBW.out.trans (HB1.out.mono HBW.out.size)⟩
      | false =>
        obtain ⟨f1, f2, f3, f4, f5, f6⟩ := HF1.out (by simp)
        have hlt : ∀ j, (⟨w.heap.size, j, none⟩ : Addr).block < wA.heap.size := fun j => by rw [HBX.out.2]; show w.heap.size < w.heap.size + 3; omega
        have b0 := (HB1.out.cell (hlt 0)).trans HBX.out.1.1
        have b4 := (HB1.out.cell (hlt 4)).trans HBX.out.1.2.2.2.1
        have b5 := (HB1.out.cell (hlt 5)).trans HBX.out.1.2.2.2.2
        have HFA := Lib.hid (And.intro f1 (And.intro f2 (And.intro f3 (And.intro f4 f6))))
        have HLT := Lib.hid hlt
        have hd1 : 1 ≤ deep := by omega
        clear f1 f2 f3 f4 f6 HF1 HX1 hlt
        go_upto_region 20 with fail
        go_cut [108] (fun s108 wx => ∃ bad, s108 = .bool bad ∧ wx = wB ∧ Hid (bad = true → rightB (.mk k n r t ks l) deep = false) ∧ Hid (bad = false → (k ≠ 7 → ks.length = 0) ∧ (k = 7 → ks.length = l.length)))
        case first =>
          by_cases k7 : k = 7
          · subst k7
            by_cases hkl : ks.length = l.length
            · have z1 : ((ks.length : Int) != (l.length : Int)) = false := by simp [hkl]
              have HKL := Lib.hid hkl
              clear hkl
              as_aux_lemma =>
                go_wp2_with fail
                go_meet
                exact ⟨_, rfl, rfl, Lib.hid (fun h => by cases h), Lib.hid (fun h => ⟨by omega, fun _ => HKL.out⟩)⟩
            · have z1 : ((ks.length : Int) != (l.length : Int)) = true := by simp; omega
              have HKL := Lib.hid hkl
              as_aux_lemma =>
                go_wp2_with fail
                go_meet
                exact ⟨_, rfl, rfl, Lib.hid (fun _ => HNO.out (ks.length = l.length) (fun hR => by unfold Right at hR; exact hR.2.2.2.2.2.2.2.1 rfl) HKL.out), Lib.hid (fun h => by cases h)⟩
          · have d7 : (k == 7) = false := by simpa using k7
            have e7 : (k != 7) = true := by simpa using k7
            have HK7 := Lib.hid k7
            by_cases hk0 : 0 < ks.length
            · have HK0 := Lib.hid hk0
              as_aux_lemma =>
                go_wp2_with fail
                go_meet
                exact ⟨_, rfl, rfl, Lib.hid (fun _ => HNO.out (ks.length = 0) (fun hR => by unfold Right at hR; exact hR.2.2.2.2.2.2.1 HK7.out) (by have := HK0.out; omega)), Lib.hid (fun h => by cases h)⟩
            · as_aux_lemma =>
                go_wp2_with fail
                go_meet
                exact ⟨_, rfl, rfl, Lib.hid (fun h => by cases h), Lib.hid (fun h => ⟨by omega, by omega⟩)⟩
        case rest =>
          obtain ⟨bad, rfl, rfl, HX2, HF2⟩ := hcut
          obtain ⟨wB, rfl⟩ : ∃ wB : World, wB = wc := ⟨_, rfl⟩
          cases bad with
          | true =>
            as_aux_lemma =>
              go_wp2_with fail
              go_ret
              exact ⟨_, rfl, Lib.hid (HX2.out (by simp)), HBW.out.trans (HB1.out.mono HBW.out.size)⟩
          | false =>
            obtain ⟨g1, g2⟩ := HF2.out (by simp)
            have HF := Lib.hid (And.intro g1 g2)
            have hsB : wB.heap.size ≥ w.heap.size + 3 := by have := HB1.out.size; rw [HBX.out.2] at this; exact this
            have HSB := Lib.hid hsB
            have hBB : Hid (Below w.heap.size w wB) := Lib.hid (HBW.out.trans (HB1.out.mono HBW.out.size))
            clear g1 g2 HF2 HX2 hsB
            obtain ⟨nl, hnl⟩ : ∃ nl, nl = l.length := ⟨_, rfl⟩
            have HNL := Lib.hid hnl
            have h300 : nl ≤ 300 := by omega
            rw [← hnl] at b5
            clear hnl f5
            go_wp2_with fail
            go_loopg [7] nl (fun kq v7 wr => ∃ i : Nat, v7 = .int .i64 (i : Int) ∧ i + kq = nl ∧ Hid (Below wB.heap.size wB wr) ∧ Hid (∀ j (h : j < l.length), j < i → Right l[j] (deep - 1) ∧ (k = 7 → KeyOk ks j)))
            case atStart => exact ⟨0, rfl, by omega, Lib.hid (Below.refl _ _), Lib.hid (fun j _ hj => by omega)⟩
            case round =>
              obtain ⟨i, rfl, hik, H1, H2⟩ := hrel
              have bb : ∀ j, wr.cell? ⟨w.heap.size, j, none⟩ = wB.cell? ⟨w.heap.size, j, none⟩ := fun j => H1.out.cell (p := ⟨w.heap.size, j, none⟩) (by have := HSB.out; show w.heap.size < _; omega)
              have r0 := (bb 0).trans b0
              have r4 := (bb 4).trans b4
              have r5 := (bb 5).trans b5
              have hbel : Hid (Below w.heap.size w wr) := Lib.hid (hBB.out.trans (H1.out.mono hBB.out.size))
              clear bb
              cases gk with
              | zero =>
                have hi : ¬ i < nl := by omega
                as_aux_lemma =>
                  go_wp2_with fail
                  go_ret
                  refine ⟨_, rfl, Lib.hid (rightB_yes ?_), hbel.out⟩
                  unfold Right
                  obtain ⟨q1, q2, q3, q4, q5⟩ := HFA.out
                  have hin : i = l.length := by have := HNL.out; omega
                  exact ⟨⟨_, _, _, HBO.out, q1⟩, q2, q3, q4, by have := HNL.out; omega, q5, HF.out.1, HF.out.2, fun h7 j hj => (H2.out j hj (by omega)).2 h7, Rights.mk fun j hj => (H2.out j hj (by omega)).1⟩
              | succ m =>
                have hi : i < nl := by omega
                have hi' : i < l.length := by have := HNL.out; omega
                obtain ⟨eb, eo, kv', lv', hA', hebs, _, hI, e0, e1, e2, e3, e4, e5⟩ := HEL.out i hi'
                subst hA'
                obtain ⟨u, hu⟩ : ∃ u, u = l[i] := ⟨_, rfl⟩
                rw [← hu] at hI e0 e1 e2 e3
                have hszu : SizeOf.sizeOf u < N := by rw [hu]; exact HLT0.out i hi'
                have HL2 : w.heap.size < wr.heap.size := by have a1 := HSB.out; have a2 := H1.out.size; omega
                have HL3 : eb < wr.heap.size := Nat.lt_of_lt_of_le hebs hbel.out.size
                have hcw : ∀ j, wr.cell? ⟨eb, j, none⟩ = w.cell? ⟨eb, j, none⟩ := fun j => hbel.out.cell (p := ⟨eb, j, none⟩) hebs
                have n0 : ∀ x : Near wr.heap.size wr, x.W.cell? ⟨w.heap.size, 0, none⟩ = some (.int .i64 k) := fun x => x.cell HL2 r0
                have n4 : ∀ x : Near wr.heap.size wr, x.W.cell? ⟨w.heap.size, 4, none⟩ = some (.slice A ks.length c) := fun x => x.cell HL2 r4
                have n5 : ∀ x : Near wr.heap.size wr, x.W.cell? ⟨w.heap.size, 5, none⟩ = some (.slice (some ⟨eb, eo, none⟩) nl c') := fun x => x.cell HL2 r5
                have g0 : ∀ x : Near wr.heap.size wr, x.W.cell? ⟨eb, eo + i * 6, none⟩ = some (.int .i64 u.k) := fun x => x.cell HL3 ((hcw _).trans e0)
                have g1 : ∀ x : Near wr.heap.size wr, x.W.cell? ⟨eb, eo + i * 6 + 1, none⟩ = some (.int .i64 u.n) := fun x => x.cell HL3 ((hcw _).trans e1)
                have g2 : ∀ x : Near wr.heap.size wr, x.W.cell? ⟨eb, eo + i * 6 + 2, none⟩ = some (.float .f64 u.r) := fun x => x.cell HL3 ((hcw _).trans e2)
                have g3 : ∀ x : Near wr.heap.size wr, x.W.cell? ⟨eb, eo + i * 6 + 3, none⟩ = some (.string u.t) := fun x => x.cell HL3 ((hcw _).trans e3)
                have g4 : ∀ x : Near wr.heap.size wr, x.W.cell? ⟨eb, eo + i * 6 + 4, none⟩ = some kv' := fun x => x.cell HL3 ((hcw _).trans e4)
                have g5 : ∀ x : Near wr.heap.size wr, x.W.cell? ⟨eb, eo + i * 6 + 5, none⟩ = some lv' := fun x => x.cell HL3 ((hcw _).trans e5)
                have HCALL : ∀ bu : Bool, rightB u (deep - 1) = bu → Hid (∀ x : Near wr.heap.size wr, Calls Tryz.prog 11 #[.agg #[.int .i64 u.k, .int .i64 u.n, .float .f64 u.r, .string u.t, kv', lv'], .int .i64 (deep - 1)] x.W
                    fun e w' => e = .returned (.bool bu) ∧ ∃ y : Near wr.heap.size wr, w' = y.W) := fun bu hbu => Lib.hid fun x =>
                  (IH.out u hszu kv' lv' P x.W (deep - 1) (IsV.keep ((Kept.below hbel.out).trans (Kept.below x.h)) u hI) (by omega) (by omega)).mono fun e w' ⟨b, he, hb, hB⟩ => ⟨by rw [he, ← hb.out, hbu], x.of hB (Nat.le_refl _)⟩
                have HU := Lib.hid hu
                have HIK := Lib.hid hik
                clear hcw e0 e1 e2 e3 e4 e5 hI hszu hu hik HL2
                have key0 : ∀ i (h : i < ks.length), ∃ kb ko, A = some ⟨kb, ko, none⟩ ∧ kb < wr.heap.size ∧ ∀ x : Near wr.heap.size wr, x.W.cell? ⟨kb, ko + i, none⟩ = some (.string (ks.getD i ⟨#[]⟩)) := fun i h => by
                  obtain ⟨kb, ko, hA, hb, hc⟩ := HKE.out i h
                  exact ⟨kb, ko, hA, Nat.lt_of_lt_of_le hb hbel.out.size, fun x => x.cell (Nat.lt_of_lt_of_le hb hbel.out.size) ((hbel.out.cell (p := ⟨kb, ko + i, none⟩) hb).trans (by rw [hc]; simp [List.getD, h]))⟩
                have HKEY := Lib.hid key0
                clear key0
                go_upto_region 25 with fail
                go_cut [156] (fun s wx => ∃ bad, s = .bool bad ∧ Hid (Below wr.heap.size wr wx) ∧ Hid (bad = true → ¬ (Right u (deep - 1) ∧ (k = 7 → KeyOk ks i))) ∧ Hid (bad = false → Right u (deep - 1) ∧ (k = 7 → KeyOk ks i)))
                case first =>
                  cases hru : rightB u (deep - 1) with
                  | false =>
                    have HC := HCALL _ hru
                    have HRU := Lib.hid hru
                    clear HCALL hru r0 r4 r5
                    refine wp_region_near wr.heap.size wr (by kernel_rfl) (by kernel_rfl) (Below.refl _ _) ?_
                    repeat (go_big_quiet_step ((exact HC.out _)))
                    refine wpQuiet_nil ?_
                    intro _ hw'
                    obtain ⟨⟨W1, hW1⟩, rfl⟩ := hw'
                    as_aux_lemma =>
                      go_wp2_with fail
                      go_meet
                      exact ⟨_, rfl, Lib.hid hW1, Lib.hid (fun _ hh => by have := rightB_yes hh.1; rw [HRU.out] at this; cases this), Lib.hid (fun h => by cases h)⟩
                  | true =>
                    have HC := HCALL _ hru
                    have HRU := Lib.hid (rightB_iff.1 hru)
                    clear HCALL hru r0 r4 r5
                    by_cases k7 : k = 7
                    · subst k7
                      have hik : i < ks.length := by have := HF.out.2 rfl; omega
                      have hikI : (i : Int) < (ks.length : Int) := by omega
                      have hi0I : (0 : Int) ≤ (i : Int) := by omega
                      obtain ⟨kb, ko, hA, hkb, kc⟩ := HKEY.out i hik
                      subst hA
                      obtain ⟨s, hs⟩ : ∃ s, s = ks.getD i ⟨#[]⟩ := ⟨_, rfl⟩
                      rw [← hs] at kc
                      have HS := Lib.hid hs
                      clear hs
                      by_cases hsz : s.size > 300
                      · have HSZ := Lib.hid hsz
                        have hszI : decide ((300 : Int) < (s.size : Int)) = true := decide_eq_true (by omega)
                        refine wp_region_near wr.heap.size wr (by kernel_rfl) (by kernel_rfl) (Below.refl _ _) ?_
                        repeat (go_big_quiet_step ((exact HC.out _)))
                        refine wpQuiet_nil ?_
                        intro _ hw'
                        obtain ⟨⟨W1, hW1⟩, rfl⟩ := hw'
                        as_aux_lemma =>
                          go_wp2_with fail
                          go_meet
                          exact ⟨_, rfl, Lib.hid hW1, Lib.hid (fun _ hh => by have := (hh.2 (by simp)).1; rw [← HS.out] at this; have := HSZ.out; omega), Lib.hid (fun h => by cases h)⟩
                      · have hsz' : s.size ≤ 300 := by omega
                        have hszI : decide ((300 : Int) < (s.size : Int)) = false := decide_eq_false (by omega)
                        by_cases hi0 : i = 0
                        · have hipD : decide (0 < i) = false := decide_eq_false (by omega)
                          have HI0 := Lib.hid hi0
                          clear hi0
                          refine wp_region_near wr.heap.size wr (by kernel_rfl) (by kernel_rfl) (Below.refl _ _) ?_
                          repeat (go_big_quiet_step ((exact HC.out _)))
                          refine wpQuiet_nil ?_
                          intro _ hw'
                          obtain ⟨⟨W1, hW1⟩, rfl⟩ := hw'
                          as_aux_lemma =>
                            go_wp2_with fail
                            go_meet
                            exact ⟨_, rfl, Lib.hid hW1, Lib.hid (fun h => by cases h), Lib.hid (fun _ => ⟨HRU.out, fun _ => ⟨by rw [← HS.out]; exact hsz', fun h => by have := HI0.out; omega⟩⟩)⟩
                        · have hip : (0 : Int) < (i : Int) := by omega
                          have hipD : decide (0 < i) = true := decide_eq_true (by omega)
                          have hik1 : i - 1 < ks.length := by omega
                          obtain ⟨kb', ko', hA', _, kp⟩ := HKEY.out (i - 1) hik1
                          injection hA' with hA'
                          injection hA' with hA1 hA2
                          subst hA1; subst hA2
                          obtain ⟨q, hq⟩ : ∃ q, q = ks.getD (i - 1) ⟨#[]⟩ := ⟨_, rfl⟩
                          rw [← hq] at kp
                          have HQ := Lib.hid hq
                          clear hq
                          have wi : IntKind.i64.wrap ((i : Int) - 1) = ((i - 1 : Nat) : Int) := by rw [IntWalk.i64_in _ (by omega)]; omega
                          cases hle : leqB s q with
                          | false =>
                            have l1 : (Op.bytesLess s.toList q.toList || s.toList == q.toList) = false := hle
                            have HLE := Lib.hid hle
                            clear hle
                            refine wp_region_near wr.heap.size wr (by kernel_rfl) (by kernel_rfl) (Below.refl _ _) ?_
                            repeat (go_big_quiet_step ((exact HC.out _)))
                            refine wpQuiet_nil ?_
                            intro _ hw'
                            obtain ⟨⟨W1, hW1⟩, rfl⟩ := hw'
                            as_aux_lemma =>
                              go_wp2_with fail
                              go_meet
                              exact ⟨_, rfl, Lib.hid hW1, Lib.hid (fun h => by cases h), Lib.hid (fun _ => ⟨HRU.out, fun _ => ⟨by rw [← HS.out]; exact hsz', fun _ => by rw [← HS.out, ← HQ.out]; exact HLE.out⟩⟩)⟩
                          | true =>
                            have l1 : (Op.bytesLess s.toList q.toList || s.toList == q.toList) = true := hle
                            have HLE := Lib.hid hle
                            clear hle
                            refine wp_region_near wr.heap.size wr (by kernel_rfl) (by kernel_rfl) (Below.refl _ _) ?_
                            repeat (go_big_quiet_step ((exact HC.out _)))
                            refine wpQuiet_nil ?_
                            intro _ hw'
                            obtain ⟨⟨W1, hW1⟩, rfl⟩ := hw'
                            as_aux_lemma =>
                              go_wp2_with fail
                              go_meet
                              exact ⟨_, rfl, Lib.hid hW1, Lib.hid (fun _ hh => by have := (hh.2 (by simp)).2 (by omega); rw [← HS.out, ← HQ.out, HLE.out] at this; cases this), Lib.hid (fun h => by cases h)⟩
                    · have d7 : (k == 7) = false := by simpa using k7
                      have HK7 := Lib.hid k7
                      refine wp_region_near wr.heap.size wr (by kernel_rfl) (by kernel_rfl) (Below.refl _ _) ?_
                      repeat (go_big_quiet_step ((exact HC.out _)))
                      refine wpQuiet_nil ?_
                      intro _ hw'
                      obtain ⟨⟨W1, hW1⟩, rfl⟩ := hw'
                      as_aux_lemma =>
                        go_wp2_with fail
                        go_meet
                        exact ⟨_, rfl, Lib.hid hW1, Lib.hid (fun h => by cases h), Lib.hid (fun _ => ⟨HRU.out, fun h => absurd h HK7.out⟩)⟩
                case rest =>
                  obtain ⟨bad, rfl, HB3, HX3, HF3⟩ := hcut
                  have HBn : Hid (Below wB.heap.size wB wc) := Lib.hid (H1.out.trans (HB3.out.mono H1.out.size))
                  cases bad with
                  | true =>
                    as_aux_lemma =>
                      go_wp2_with fail
                      go_ret
                      refine ⟨_, rfl, Lib.hid (HNO.out (Right u (deep - 1) ∧ (k = 7 → KeyOk ks i)) (fun hR => ?_) (HX3.out (by simp))), hBB.out.trans (HBn.out.mono hBB.out.size)⟩
                      unfold Right at hR
                      exact ⟨by rw [HU.out]; exact Rights.at_ hR.2.2.2.2.2.2.2.2.2 i hi', fun h7 => hR.2.2.2.2.2.2.2.2.1 h7 i hi'⟩
                  | false =>
                    go_wp2_with fail
                    go_roundg m
                    case measure => exact Nat.lt_succ_self m
                    case rel =>
                      refine ⟨i + 1, by simp, by have := HIK.out; omega, HBn, Lib.hid (fun j hj hji => ?_)⟩
                      by_cases e : j = i
                      · subst e
                        have := HF3.out (by simp)
                        rw [HU.out] at this
                        exact this
                      · exact H2.out j hj (by omega)
end Go.Proofs.YtaclgcpfcejplaaGreatDoor.Vals
