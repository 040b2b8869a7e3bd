/- Walk of the law FnDict: it answers true. -/
import Derived.Test.YtaclgcpfcejplaaGreatDoorValDt
import Derived.Test.YtaclgcpfcejplaaGreatDoorValPtZ
import Derived.Test.YtaclgcpfcejplaaGreatDoorValTe
import Derived.Test.YtaclgcpfcejplaaGreatDoorValA
import Derived.Test.YtaclgcpfcejplaaGreatDoorNearT
import Derived.Test.YtaclgcpfcejplaaGreatDoorValOt
namespace Go.Proofs.YtaclgcpfcejplaaGreatDoor.Vals
open Go.RowKit Go.Proofs.YtaclgcpfcejplaaGreatDoorW.PrintWords
set_option linter.unusedVariables false
set_option maxRecDepth 20000

/-- A value's two rows, by their forms. -/
theorem rows_form' {w : World} {P : Nat → Prop} {v : V} {c0 c1 c2 c3 kv lv : Value} (h : IsV w P v [c0, c1, c2, c3, kv, lv]) : (∃ A n c, kv = .slice A n c) ∧ ∃ A n c, lv = .slice A n c := by
  cases v
  unfold IsV at h
  obtain ⟨kv', lv', xs, e, _, _, _, _, h1, h2, _⟩ := h
  simp only [List.cons.injEq, and_true] at e
  obtain ⟨_, _, _, _, rfl, rfl⟩ := e
  obtain ⟨A, c, e1, _⟩ := h1
  obtain ⟨A', c', e2, _⟩ := h2
  exact ⟨⟨A, _, c, e1⟩, A', _, c', e2⟩
theorem dK_allD {ms : List ByteArray} {p : ByteArray → Prop} : ∀ i, (∀ j, j < i → p (ms.getD j ⟨#[]⟩)) → ∀ x ∈ dK ms i, p x
  | 0, _, x, hx => absurd hx (by simp [dK])
  | i + 1, h, x, hx => putK_all (p := p) (dK_allD i (fun j hj => h j (by omega))) (h i (by omega)) x hx
theorem textIs {w : World} {P : Nat → Prop} {q : ByteArray} (h : q.size ≤ maxLen) : IsV w P (textV q) [.int .i64 5, .int .i64 0, .float .f64 0, .string q, .slice none 0 0, .slice none 0 0] := by
  unfold textV IsV
  exact ⟨_, _, [], rfl, i64_small (by omega) (by omega), i64_small (by omega) (by omega), h, by simp, ⟨none, 0, rfl, Nat.le_refl _, by unfold maxLen; omega, rfl, fun h => absurd h (by simp)⟩, ⟨none, 0, rfl, Nat.le_refl _, by unfold maxLen; omega, rfl, fun h => absurd h (by simp)⟩, by unfold IsVs; rfl⟩
theorem specText_walk (s : ByteArray) (w : World) : Calls Tryz.prog 7 #[.string s] w fun e w' => e = .returned (.agg #[.int .i64 5, .int .i64 0, .float .f64 0, .string s, .slice none 0 0, .slice none 0 0]) ∧ Hid (Below w.heap.size w w') := by
  have hsf := store_float
  go_enter Tryz.func7, Tryz.ntmps7
  go_wp2_with fail
  have hn := heap_alloc_new w (.cells #[.int .i64 5, .int .i64 0, .float .f64 0, .string s, .slice none 0 0, .slice none 0 0] 28)
  obtain ⟨w5, hw5⟩ : ∃ w5, w5 = w.alloc (.cells #[.int .i64 5, .int .i64 0, .float .f64 0, .string s, .slice none 0 0, .slice none 0 0] 28) := ⟨_, rfl⟩
  have hbw : Below w.heap.size w w5 := by rw [hw5]; exact (Below.refl _ _).alloc (Nat.le_refl _) _
  rw [← hw5] at hn ⊢
  have e0 : w5.cell? ⟨w.heap.size, 0, none⟩ = some (.int .i64 5) := by rw [blk_cell hn]; rfl
  have e1 : w5.cell? ⟨w.heap.size, 1, none⟩ = some (.int .i64 0) := by rw [blk_cell hn]; rfl
  have e2 : w5.cell? ⟨w.heap.size, 2, none⟩ = some (.float .f64 0) := by rw [blk_cell hn]; rfl
  have e3 : w5.cell? ⟨w.heap.size, 3, none⟩ = some (.string s) := by rw [blk_cell hn]; rfl
  have e4 : w5.cell? ⟨w.heap.size, 4, none⟩ = some (.slice none 0 0) := by rw [blk_cell hn]; rfl
  have e5 : w5.cell? ⟨w.heap.size, 5, none⟩ = some (.slice none 0 0) := by rw [blk_cell hn]; rfl
  refine bodyPost_ret (v := .agg #[.int .i64 5, .int .i64 0, .float .f64 0, .string s, .slice none 0 0, .slice none 0 0]) (by simp [results, Tryz.results7, go_sem, e0, e1, e2, e3, e4, e5]) rfl ⟨rfl, Lib.hid hbw⟩

set_option maxHeartbeats 16000000 in
theorem fnDict_walk (A : Option Addr) (c : Nat) (ms : List ByteArray) (P1 : Nat → Prop) (A' : Option Addr) (c' : Nat) (l : List V) (xs : List Value) (P2 : Nat → Prop) (w : World) (hk : RowIs w P1 1 (.slice A ms.length c) ms.length (ms.map Value.string)) (hl : RowIs w P2 6 (.slice A' l.length c') l.length xs) (hv : IsVs w P2 l xs) :
    Calls Tryz.prog 3 #[.slice A ms.length c, .slice A' l.length c'] w fun e w' => e = .returned (.bool true) ∧ Below w.heap.size w w' := by
  obtain ⟨hnc, hcm⟩ := hk.sizes
  obtain ⟨hnc', hcm'⟩ := hl.sizes
  unfold maxLen at hcm hcm'
  have hke : ∀ i s, ms[i]? = some s → ∃ mb mo, A = some ⟨mb, mo, none⟩ ∧ mb < w.heap.size ∧ w.cell? ⟨mb, mo + i, none⟩ = some (.string s) := fun i s hi => by
    have hil := (List.getElem?_eq_some_iff.1 hi).1
    obtain ⟨mb, mo, hA, _, hc⟩ := hk.elem (by omega)
    have := hc i (.string s) (by rw [List.getElem?_map, hi]; rfl)
    exact ⟨mb, mo, hA, World.block_lt_of_cell? w _ this, this⟩
  have HKE := Lib.hid hke
  have HEL := Lib.hid (IsVs.elem hl hv)
  have HF2 := Lib.hid (fits2_walk A c ms P1 w hk)
  have HAR := Lib.hid (allRight_walk l A' c' xs P2 w hl hv)
  have HLV := Lib.hid (And.intro hl hv)
  have hsf := store_float
  obtain ⟨nm, hnm⟩ : ∃ m, m = ms.length := ⟨_, rfl⟩
  obtain ⟨m, hm⟩ : ∃ m, m = l.length := ⟨_, rfl⟩
  rw [← hnm] at hnc HF2 ⊢
  rw [← hm] at hnc' HAR ⊢
  have HM := Lib.hid (And.intro hnm hm)
  clear hk hl hv hke hnm hm
  go_enter Tryz.func3, Tryz.ntmps3
  go_wp2_with fail
  refine (HF2.out).mono ?_
  rintro e w1 ⟨b, rfl, hw1⟩
  subst w1
  clear HF2
  cases b with
  | false =>
    go_wp2_with fail
    go_ret
    exact ⟨rfl, Below.refl _ _⟩
  | true =>
  by_cases hbig : m > 2147483647
  · go_wp2_with fail
    go_ret
    exact ⟨rfl, Below.refl _ _⟩
  by_cases hne : nm = m
  case neg =>
    have hne' : ((nm : Int) != (m : Int)) = true := by simp; omega
    go_wp2_with fail
    go_ret
    exact ⟨rfl, Below.refl _ _⟩
  subst hne
  by_cases h30 : nm > 30
  · go_wp2_with fail
    go_ret
    exact ⟨rfl, Below.refl _ _⟩
  go_wp2_with fail
  refine (HAR.out).mono ?_
  rintro e w1 ⟨b, rfl, HR, hb1⟩
  have HB1 := Lib.hid hb1
  clear hb1 HAR
  cases b with
  | false =>
    go_wp2_with fail
    go_ret
    exact ⟨rfl, HB1.out⟩
  | true =>
  obtain ⟨hr, h60⟩ := HR.out rfl
  have HRI := Lib.hid hr
  clear hr h60 HR hbig
  go_wp2_with fail
  have H0 : Hid (∃ W0, W0 = w1.alloc (box6 (.int .i64 7) (.int .i64 0) (.float .f64 0) (.string ⟨#[]⟩) (.slice none 0 0) (.slice none 0 0)) ∧ Box6 W0 w1.heap.size (.int .i64 7) (.int .i64 0) (.float .f64 0) (.string ⟨#[]⟩) (.slice none 0 0) (.slice none 0 0) ∧ Below w.heap.size w W0 ∧ w1.heap.size + 1 ≤ W0.heap.size) :=
    Lib.hid ⟨_, rfl, Box6.new w1 _ _ _ _ _ _, HB1.out.trans (((Below.refl _ _).alloc (Nat.le_refl _) _).mono HB1.out.size), by simp⟩
  have HB1S := Lib.hid HB1.out.size
  obtain ⟨i0, hi0, hz0, hz1, hz2⟩ := info_parts valueInfo
  go_loopg [6, 7] nm (fun kq v6 v7 wr => ∃ (i kk cap nk nl ck cl : Nat) (G Ak Al : Option Addr), v6 = .slice G kk cap ∧ v7 = .int .i64 (i : Int) ∧ i + kq = nm ∧ Hid (kk = 2 * i ∧ nk = (dK ms i).length ∧ nl = (dL ms l i).length ∧ ∀ j, j < i → (ms.getD j ⟨#[]⟩).size ≤ 100) ∧
    Hid (Box6 wr w1.heap.size (.int .i64 7) (.int .i64 0) (.float .f64 0) (.string ⟨#[]⟩) (.slice Ak nk ck) (.slice Al nl cl)) ∧
    Hid (IsV wr (fun b => b < w.heap.size ∨ (w1.heap.size < b ∧ some b ≠ (Value.slice G kk cap).ownBlock)) (.mk 7 0 0 ⟨#[]⟩ (dK ms i) (dL ms l i)) [.int .i64 7, .int .i64 0, .float .f64 0, .string ⟨#[]⟩, .slice Ak nk ck, .slice Al nl cl]) ∧
    Hid (∃ zs, wr.ownsRow (w1.heap.size + 1) 28 6 (.slice G kk cap) kk zs ∧ IsVs wr (fun b => b < w.heap.size) (pairsV (ms.take i) (l.take i)) zs) ∧ Hid (Below w.heap.size w wr) ∧ Hid (w1.heap.size + 1 ≤ wr.heap.size))
  case atStart =>
    obtain ⟨W0, h1, h2, h3, h4⟩ := H0.out
    rw [← h1]
    refine ⟨0, 0, 0, 0, 0, 0, 0, none, none, none, rfl, rfl, by omega, Lib.hid ⟨rfl, rfl, rfl, fun j hj => by omega⟩, Lib.hid h2, Lib.hid ?_, Lib.hid ⟨[], World.ownsRow_nil _ _ _ _, ?_⟩, Lib.hid h3, Lib.hid h4⟩
    · unfold dK dL IsV
      refine ⟨_, _, [], rfl, i64_small (by omega) (by omega), i64_small (by omega) (by omega), by show 0 ≤ maxLen; omega, by simp, ⟨none, 0, rfl, Nat.le_refl _, by unfold maxLen; omega, rfl, fun h => absurd h (by simp)⟩, ⟨none, 0, rfl, Nat.le_refl _, by unfold maxLen; omega, rfl, fun h => absurd h (by simp)⟩, by unfold IsVs; rfl⟩
    · simp only [List.take_zero, pairsV]; unfold IsVs; rfl
  case round =>
    obtain ⟨i, kk, cap, nk, nl, ck, cl, G, Ak, Al, rfl, rfl, hik, HS, HBX, HIW, HOW, HBW, HSZ⟩ := hrel
    clear H0
    cases gk with
    | zero =>
      have hi : ¬ i < nm := by omega
      have him : i = nm := by omega
      have HIN := Lib.hid him
      obtain ⟨zs, hzo, hzv⟩ := HOW.out
      obtain ⟨hk2, hnk, hnl, hsz⟩ := HS.out
      have hml : ms.length = l.length := by have := HM.out; omega
      have hme : i = ms.length := by have := HM.out; omega
      have hle : i = l.length := by have := HM.out; omega
      have hpl : kk = (pairsV ms l).length := by rw [pairsV_len ms l hml]; omega
      rw [hme, List.take_length, ← hme, hle, List.take_length] at hzv
      have hms : ∀ k ∈ ms, k.size ≤ 300 := fun k hk => by
        obtain ⟨j, hj, rfl⟩ := List.mem_iff_getElem.1 hk
        have := hsz j (by omega)
        rw [List.getD_eq_getElem?_getD, List.getElem?_eq_getElem hj] at this
        simp only [Option.getD_some] at this
        omega
      have hcd := implDict_walk ms l hml (by omega) hms HRI.out G cap zs (fun _ => True) wr (by rw [← hpl]; exact RowIs.of_own hzo (fun _ _ => trivial)) (IsVs.keep (Kept.mono fun _ _ _ => trivial) _ hzv)
      rw [← hpl, ← hle] at hcd
      have hmem : ∀ x ∈ dL ms l i, ∃ d, Right x d := dL_mem (p := fun x => ∃ d, Right x d) (fun x hx => ⟨8, HRI.out.mem x hx⟩) i (by omega)
      have HSM := Lib.hid (sameB_yes (same_puts (ks := dK ms i) hmem))
      have HC := Lib.hid hcd
      have HNN := Lib.hid (And.intro hnk hnl)
      clear hik him hzo hzv hk2 hnk hnl hsz hml hme hle hpl hms hcd hmem
      go_wp2_with fail
      refine (HC.out).mono ?_
      rintro e wa ⟨kr, lr, rfl, HV, HBa⟩
      obtain ⟨⟨Ak', nk', ck', rfl⟩, Al', nl', cl', rfl⟩ := rows_form' HV.out
      obtain ⟨ks, hks⟩ : ∃ ks, ks = dK ms i := ⟨_, rfl⟩
      obtain ⟨ls, hls⟩ : ∃ ls, ls = dL ms l i := ⟨_, rfl⟩
      rw [← hks, ← hls] at HV HIW HSM
      have hwx := (HBX.out.below HBa.out).below ((Below.refl wa.heap.size wa).alloc (Nat.le_refl _) (box6 (.int .i64 7) (.int .i64 0) (.float .f64 0) (.string ⟨#[]⟩) (.slice Ak' nk' ck') (.slice Al' nl' cl')))
      have hbx := Box6.new wa (.int .i64 7) (.int .i64 0) (.float .f64 0) (.string ⟨#[]⟩) (.slice Ak' nk' ck') (.slice Al' nl' cl')
      have hal : Below wa.heap.size wa (wa.alloc (box6 (.int .i64 7) (.int .i64 0) (.float .f64 0) (.string ⟨#[]⟩) (.slice Ak' nk' ck') (.slice Al' nl' cl'))) := (Below.refl _ _).alloc (Nat.le_refl _) _
      have hba : Below w.heap.size w (wa.alloc (box6 (.int .i64 7) (.int .i64 0) (.float .f64 0) (.string ⟨#[]⟩) (.slice Ak' nk' ck') (.slice Al' nl' cl'))) := (HBW.out.trans (HBa.out.mono HBW.out.size)).alloc (Nat.le_trans HBW.out.size HBa.out.size) _
      have HSA := Lib.hid (same_walk (.mk 7 0 0 ⟨#[]⟩ ks (norms ls)) (.mk 7 0 0 ⟨#[]⟩ ks ls) _ _ _ _ _ _ _ (IsV.keep (Kept.below hal) _ HV.out) (IsV.keep ((Kept.below HBa.out).trans (Kept.below hal)) _ HIW.out))
      simp only [V.k, V.n, V.r, V.t] at HSA
      have HBA := Lib.hid hba
      clear HC hks hls hba hal
      obtain ⟨d0, d1, d2, d3, d4, d5⟩ := hwx.cells
      obtain ⟨g0, g1, g2, g3, g4, g5⟩ := hbx.cells
      clear hwx hbx
      go_wp2_with fail
      refine (HSA.out).mono ?_
      rintro e wz ⟨b, rfl, hb, hbd⟩
      obtain rfl := hb.out.symm.trans HSM.out
      have HBZ := Lib.hid (HBA.out.trans (hbd.mono HBA.out.size))
      clear hb hbd HSA
      go_wp2_with fail
      go_ret
      exact ⟨rfl, HBZ.out⟩
    | succ mm =>
      have hi : i < nm := by omega
      have hil : i < l.length := by have := HM.out.2; omega
      have hikl : i < ms.length := by have := HM.out.1; omega
      obtain ⟨q, hq⟩ : ∃ q, q = ms[i] := ⟨_, rfl⟩
      have hqe : ms[i]? = some q := by rw [hq]; exact List.getElem?_eq_getElem hikl
      obtain ⟨mb, mo, hA, hmb, e0⟩ := HKE.out i q hqe
      subst hA
      have g0 := (HBW.out.cell (p := ⟨mb, mo + i, none⟩) hmb).trans e0
      have HQ := Lib.hid hqe
      have HIK := Lib.hid hik
      have hii0 : (0 : Int) ≤ (i : Int) := by omega
      have hiim : (i : Int) < (nm : Int) := by omega
      clear hq hqe hik e0 hikl
      by_cases hq100 : q.size > 100
      · go_wp2_with fail
        go_ret
        exact ⟨rfl, HBW.out⟩
      obtain ⟨eb, eo, ku, lu, hA', hebs, _, hI, e0, e1, e2, e3, e4, e5⟩ := HEL.out i hil
      subst hA'
      obtain ⟨u, hu⟩ : ∃ u, u = l[i] := ⟨_, rfl⟩
      have hue : l[i]? = some u := by rw [hu]; exact List.getElem?_eq_getElem hil
      rw [← hu] at hI e0 e1 e2 e3
      obtain ⟨⟨Au, nu, cu, rfl⟩, Bu, mu, du, rfl⟩ := rows_form' hI
      have hcw : ∀ j, wr.cell? ⟨eb, j, none⟩ = w.cell? ⟨eb, j, none⟩ := fun j => HBW.out.cell (p := ⟨eb, j, none⟩) hebs
      have f0 := (hcw (eo + i * 6)).trans e0
      have f1 := (hcw (eo + i * 6 + 1)).trans e1
      have f2 := (hcw (eo + i * 6 + 2)).trans e2
      have f3 := (hcw (eo + i * 6 + 3)).trans e3
      have f4 := (hcw (eo + i * 6 + 4)).trans e4
      have f5 := (hcw (eo + i * 6 + 5)).trans e5
      have HUE := Lib.hid (And.intro hue (And.intro hI hebs))
      have HMB := Lib.hid hmb
      obtain ⟨d0, d1, d2, d3, d4, d5⟩ := HBX.out.cells
      obtain ⟨uk, un, ur, ut, uks, ul⟩ := u
      simp only [V.k, V.n, V.r, V.t] at f0 f1 f2 f3 e0 e1 e2 e3 HUE
      have HE6 := Lib.hid (And.intro e0 (And.intro e1 (And.intro e2 (And.intro e3 (And.intro e4 (And.intro e5 hebs))))))
      have hput : ∀ W, Below wr.heap.size wr W → Calls Tryz.prog 6 #[.agg #[.int .i64 7, .int .i64 0, .float .f64 0, .string ⟨#[]⟩, .slice Ak nk ck, .slice Al nl cl], .string q, .agg #[.int .i64 uk, .int .i64 un, .float .f64 ur, .string ut, .slice Au nu cu, .slice Bu mu du]] W
          (DictSpecZ (fun b => (b < w.heap.size ∨ (w1.heap.size < b ∧ some b ≠ (Value.slice G kk cap).ownBlock)) ∨ b < w.heap.size ∨ W.heap.size ≤ b) (putK (dK ms i) q) (putL (dK ms i) (dL ms l i) q (.mk uk un ur ut uks ul)) W) := fun W hdr => by
        obtain ⟨hk2, hnk, hnl, hsz⟩ := HS.out
        have hiw := IsV.keep (Kept.below hdr) _ HIW.out
        obtain ⟨ys, h1, h2, h3, _⟩ := hiw.parts
        simp only [V.ks, V.l] at h1 h2 h3
        have hiu : IsV W (fun b => b < w.heap.size) (.mk uk un ur ut uks ul) [.int .i64 uk, .int .i64 un, .float .f64 ur, .string ut, .slice Au nu cu, .slice Bu mu du] := IsV.keep (((Kept.mono (Q := fun b => b < w.heap.size) fun b _ hb => hb).trans (Kept.below HBW.out)).trans (Kept.below hdr)) _ HUE.out.2.1
        have hl1 := dLen ms l i
        have hl2 := dLe ms l i
        have hkz : ∀ x ∈ dK ms i, x.size ≤ maxLen := dK_allD (p := fun k => k.size ≤ maxLen) i (fun j hj => by have := hsz j hj; unfold maxLen; omega)
        have := specPutZ_walk 0 0 ⟨#[]⟩ (dK ms i) (dL ms l i) hl1 (by omega) hkz q (by unfold maxLen; omega) (.mk uk un ur ut uks ul) Ak Al ck cl (.slice Au nu cu) (.slice Bu mu du) ys _ _ W (by rw [← hnk]; rw [← hnk] at h1; exact h1) (by rw [← hnl]; rw [← hnl] at h2; exact h2) h3 hiu
        rw [← hnk, ← hnl] at this
        exact this
      have HPUT := Lib.hid hput
      have hwl := HBX.out.lt
      have hebw : eb < wr.heap.size := Nat.lt_of_lt_of_le hebs HBW.out.size
      have hmbw : mb < wr.heap.size := Nat.lt_of_lt_of_le hmb HBW.out.size
      have j0 : ∀ x : Near wr.heap.size wr, x.W.cell? ⟨w1.heap.size, 0, none⟩ = some _ := fun x => x.cell hwl d0
      have j1 : ∀ x : Near wr.heap.size wr, x.W.cell? ⟨w1.heap.size, 1, none⟩ = some _ := fun x => x.cell hwl d1
      have j2 : ∀ x : Near wr.heap.size wr, x.W.cell? ⟨w1.heap.size, 2, none⟩ = some _ := fun x => x.cell hwl d2
      have j3 : ∀ x : Near wr.heap.size wr, x.W.cell? ⟨w1.heap.size, 3, none⟩ = some _ := fun x => x.cell hwl d3
      have j4 : ∀ x : Near wr.heap.size wr, x.W.cell? ⟨w1.heap.size, 4, none⟩ = some _ := fun x => x.cell hwl d4
      have j5 : ∀ x : Near wr.heap.size wr, x.W.cell? ⟨w1.heap.size, 5, none⟩ = some _ := fun x => x.cell hwl d5
      have p0 : ∀ x : Near wr.heap.size wr, x.W.cell? ⟨eb, eo + i * 6, none⟩ = some _ := fun x => x.cell hebw f0
      have p1 : ∀ x : Near wr.heap.size wr, x.W.cell? ⟨eb, eo + i * 6 + 1, none⟩ = some _ := fun x => x.cell hebw f1
      have p2 : ∀ x : Near wr.heap.size wr, x.W.cell? ⟨eb, eo + i * 6 + 2, none⟩ = some _ := fun x => x.cell hebw f2
      have p3 : ∀ x : Near wr.heap.size wr, x.W.cell? ⟨eb, eo + i * 6 + 3, none⟩ = some _ := fun x => x.cell hebw f3
      have p4 : ∀ x : Near wr.heap.size wr, x.W.cell? ⟨eb, eo + i * 6 + 4, none⟩ = some _ := fun x => x.cell hebw f4
      have p5 : ∀ x : Near wr.heap.size wr, x.W.cell? ⟨eb, eo + i * 6 + 5, none⟩ = some _ := fun x => x.cell hebw f5
      have jq : ∀ x : Near wr.heap.size wr, x.W.cell? ⟨mb, mo + i, none⟩ = some _ := fun x => x.cell hmbw g0
      go_upto_region 12 with fail
      clear hcw e0 e1 e2 e3 e4 e5 hI hu hue hebs hmb d0 d1 d2 d3 d4 d5 f0 f1 f2 f3 f4 f5 g0
      refine Split.wp_region_neartail 9 (fun W => ∃ x : Near wr.heap.size wr, W = x.W) (by kernel_rfl) (by kernel_rfl) (by kernel_rfl) ⟨⟨wr.drew, below_drewn (Below.refl _ _)⟩, rfl⟩ ?_
      simp only [List.take_succ_cons, List.take_zero, List.drop_succ_cons, List.drop_zero]
      repeat (go_big_quiet_step (fail))
      refine wpQuiet_nil ?_
      intro wa hw'
      obtain ⟨⟨wa', hwa⟩, rfl⟩ := hw'
      have HWA := Lib.hid hwa
      have HPA := Lib.hid (HPUT.out wa hwa)
      have HLT := Lib.hid (And.intro hwl (And.intro hebw hmbw))
      clear j0 j1 j2 j3 j4 j5 p0 p1 p2 p3 p4 p5 jq hput hwa hwl hebw hmbw HPUT
      go_wp2_with fail
      refine (HPA.out).mono ?_
      rintro e wb ⟨kp, lp, rfl, HPV, hpb⟩
      obtain ⟨⟨Ap, np, cp, rfl⟩, Bp, mp, dp, rfl⟩ := rows_form' HPV.out
      have hb1 : Below wr.heap.size wr wb := HWA.out.trans (hpb.out.mono HWA.out.size)
      have hbxa := HBX.out.below hb1
      have HBXA := Lib.hid (And.intro hb1 hbxa)
      obtain ⟨d0, d1, d2, d3, d4, d5⟩ := hbxa.cells
      have fz : ∀ j, wb.frozen? ⟨w1.heap.size, j, none⟩ = false := fun j => by unfold Box6 at hbxa; simp [World.frozen?, hbxa]
      clear hb1 hbxa HPA
      go_upto_region 13 with fail
      obtain ⟨ws, hws⟩ : ∃ ws, ws = (((((wb.setCell ⟨w1.heap.size, 0, none⟩ (.int .i64 7)).setCell ⟨w1.heap.size, 1, none⟩ (.int .i64 0)).setCell ⟨w1.heap.size, 2, none⟩ (.float .f64 0)).setCell ⟨w1.heap.size, 3, none⟩ (.string ⟨#[]⟩)).setCell ⟨w1.heap.size, 4, none⟩ (.slice Ap np cp)).setCell ⟨w1.heap.size, 5, none⟩ (.slice Bp mp dp) := ⟨_, rfl⟩
      rw [← hws]
      obtain ⟨zs, hzo, hzv⟩ := HOW.out
      have hown : ws.ownsRow (w1.heap.size + 1) 28 6 (.slice G kk cap) kk zs := by
        have h1 : wb.ownsRow (w1.heap.size + 1) 28 6 (.slice G kk cap) kk zs := World.ownsRow.kept (w := wr) hzo (grown_of_below HBXA.out.1 none) (by cases G <;> simp [Value.ownBlock])
        rw [hws]
        exact ownsRow_setCell_below (ownsRow_setCell_below (ownsRow_setCell_below (ownsRow_setCell_below (ownsRow_setCell_below (ownsRow_setCell_below h1 (a := ⟨w1.heap.size, 0, none⟩) (Nat.lt_succ_self _) _) (a := ⟨w1.heap.size, 1, none⟩) (Nat.lt_succ_self _) _) (a := ⟨w1.heap.size, 2, none⟩) (Nat.lt_succ_self _) _) (a := ⟨w1.heap.size, 3, none⟩) (Nat.lt_succ_self _) _) (a := ⟨w1.heap.size, 4, none⟩) (Nat.lt_succ_self _) _) (a := ⟨w1.heap.size, 5, none⟩) (Nat.lt_succ_self _) _
      obtain ⟨q1, q2, q3⟩ := set6 HBXA.out.2 _ _ _ _ _ _ hws
      have hwbs := HBXA.out.1.size
      have hwsb : ws.heap.size = wb.heap.size := by rw [hws]; simp
      have hbs : Below w.heap.size w ws := (HBW.out.trans (HBXA.out.1.mono HBW.out.size)).trans (q3.mono HB1S.out)
      have hcw : ∀ b j, b < w.heap.size → ws.cell? ⟨b, j, none⟩ = w.cell? ⟨b, j, none⟩ := fun b j hb => hbs.cell (p := ⟨b, j, none⟩) hb
      obtain ⟨e0, e1, e2, e3, e4, e5, hebs⟩ := HE6.out
      have HSS : Hid (∀ W, Below ws.heap.size ws W → W.cell? ⟨mb, mo + i, none⟩ = some (.string q) ∧ W.cell? ⟨eb, eo + i * 6, none⟩ = some (.int .i64 uk) ∧ W.cell? ⟨eb, eo + i * 6 + 1, none⟩ = some (.int .i64 un) ∧ W.cell? ⟨eb, eo + i * 6 + 2, none⟩ = some (.float .f64 ur) ∧ W.cell? ⟨eb, eo + i * 6 + 3, none⟩ = some (.string ut) ∧ W.cell? ⟨eb, eo + i * 6 + 4, none⟩ = some (.slice Au nu cu) ∧ W.cell? ⟨eb, eo + i * 6 + 5, none⟩ = some (.slice Bu mu du)) := Lib.hid fun W hW => by
        have hbw : Below w.heap.size w W := hbs.trans (hW.mono hbs.size)
        have hc : ∀ b j, b < w.heap.size → W.cell? ⟨b, j, none⟩ = w.cell? ⟨b, j, none⟩ := fun b j hb => hbw.cell (p := ⟨b, j, none⟩) hb
        obtain ⟨mb', mo', hA', hmb', k0⟩ := HKE.out i q HQ.out
        injection hA' with hA'
        injection hA' with hA1 hA2
        subst hA1
        subst hA2
        exact ⟨(hc _ _ hmb').trans k0, (hc _ _ hebs).trans e0, (hc _ _ hebs).trans e1, (hc _ _ hebs).trans e2, (hc _ _ hebs).trans e3, (hc _ _ hebs).trans e4, (hc _ _ hebs).trans e5⟩
      obtain ⟨b6, b0, b1, b2, b3, b4, b5⟩ := HSS.out ws.drew (below_drewn (Below.refl _ _))
      have hone : ∀ x ∈ ([.int .i64 5, .int .i64 0, .float .f64 0, .string q, .slice none 0 0, .slice none 0 0, .int .i64 uk, .int .i64 un, .float .f64 ur, .string ut, .slice Au nu cu, .slice Bu mu du] : List Value), x.oneCell' = true := fun x hx => by
        have hx' : x ∈ ([.int .i64 5, .int .i64 0, .float .f64 0, .string q, .slice none 0 0, .slice none 0 0] : List Value) ++ [.int .i64 uk, .int .i64 un, .float .f64 ur, .string ut, .slice Au nu cu, .slice Bu mu du] := hx
        rcases List.mem_append.1 hx' with h | h
        · exact (textIs (w := w) (P := fun _ => True) (q := q) (by unfold maxLen; omega)).one x h
        · exact HUE.out.2.1.one x h
      have HONE := Lib.hid hone
      have HOWN := Lib.hid hown
      have hkk : kk ≤ 60 := by have := HS.out.1; omega
      have HWS := Lib.hid (And.intro q1 (And.intro q2 (And.intro q3 (And.intro hwbs (And.intro hwsb (And.intro hbs hzv))))))
      have HTX := Lib.hid (fun W => specText_walk q W)
      clear hcw e0 e1 e2 e3 e4 e5 hebs hone hown q1 q2 q3 hwbs hwsb hbs hzv hzo hws d0 d1 d2 d3 d4 d5 fz
      go_region_law (first
        | (refine step_append_lies _ rfl (.tmp 56) (.tmp 66) 23 rfl (w1.heap.size + 1) 28 i0 _ 6 88 Tryz.underlying23 hi0 hz0 hz1 hz2 rfl (by decide) (.slice G kk cap) kk zs (by simp [Act.eval]) (HOWT.out.alloc _) ⟨wt.heap.size, 0, none⟩ 2 2 [.int .i64 5, .int .i64 0, .float .f64 0, .string q, .slice none 0 0, .slice none 0 0, .int .i64 uk, .int .i64 un, .float .f64 ur, .string ut, .slice Au nu cu, .slice Bu mu du] (by simp [Act.eval]) rfl (news_cells _ _ _) HONE.out (by decide) (by unfold maxLen; omega) (by omega) HC5.out _ rfl ?_; intro g2 cap2 wz hown2 hgrow hat hlt; have HZ := Lib.hid (And.intro hown2 (And.intro hgrow hat)); clear hown2 hgrow hat hlt)
        | (go_simp; go_at_call 7; refine (HTX.out _).mono ?_; rintro e wt ⟨rfl, hbt⟩
           have hbt' : Below ws.heap.size ws wt := Below.trans (b := ws.drew) (below_drewn (Below.refl _ _)) hbt.out
           have HBT := Lib.hid hbt'
           have HOWT : Hid (wt.ownsRow (w1.heap.size + 1) 28 6 (.slice G kk cap) kk zs) := Lib.hid (World.ownsRow.kept (w := ws) HOWN.out (grown_of_below hbt' none) (by cases G <;> simp [Value.ownBlock]))
           have HC5 : Hid (w1.heap.size + 1 ≤ (wt.alloc (.cells #[.int .i64 5, .int .i64 0, .float .f64 0, .string q, .slice none 0 0, .slice none 0 0, .int .i64 uk, .int .i64 un, .float .f64 ur, .string ut, .slice Au nu cu, .slice Bu mu du] 28)).heap.size) := Lib.hid (by have := HWS.out.2.2.2.1; have := HWS.out.2.2.2.2.1; have := hbt'.size; have := HSZ.out; simp; omega)
           obtain ⟨_, a0, a1, a2, a3, a4, a5⟩ := HSS.out wt hbt'
           clear hbt hbt'))
      all_goals (
        go_wp2_with fail
        go_roundg mm
        case measure => exact Nat.lt_succ_self mm
        case rel =>
          obtain ⟨hown2, hgrow, hat⟩ := HZ.out
          obtain ⟨q1, q2, q3, hwbs, hwsb, hbs, hzv⟩ := HWS.out
          obtain ⟨hk2, hnk, hnl, hsz⟩ := HS.out
          have hml : ms.length = l.length := by have := HM.out; omega
          have hqd : ms.getD i ⟨#[]⟩ = q := by rw [List.getD_eq_getElem?_getD, HQ.out]; rfl
          have hud : l.getD i V.nil = .mk uk un ur ut uks ul := by rw [List.getD_eq_getElem?_getD, HUE.out.1]; rfl
          have hob : ∀ b, (Value.slice G kk cap).ownBlock = some b → w1.heap.size + 1 ≤ b ∧ b < ws.heap.size := fun b hb => HOWN.out.lt b hb
          have hbts := HBT.out.size
          have hws0 := HB1S.out
          have hszw := HSZ.out
          have hga := hgrow.size
          have hkeep : ∀ b, b < ws.heap.size → some b ≠ (Value.slice G kk cap).ownBlock → wz.heap[b]? = ws.heap[b]? := fun b hb hne => (hgrow.block b (by simp; omega) hne).trans ((Below.heap_alloc wt _ _ (by omega)).trans (HBT.out.block b hb))
          have hg2 : ∀ b, b < ws.heap.size → some b ≠ (Value.slice G kk cap).ownBlock → b ≠ g2 := fun b hb hne e => by
            subst e
            rcases hat with h | h
            · exact hne h.symm
            · simp at h; omega
          have hlow : ∀ b, b ≤ w1.heap.size → some b ≠ (Value.slice G kk cap).ownBlock := fun b hb e => by have := (hob b e.symm).1; omega
          have hbz : Below w.heap.size w wz := ((hbs.trans (HBT.out.mono (by omega))).alloc (by omega) _).grown hgrow (by simp; omega) (fun b hb => by have := (hob b hb).1; omega)
          obtain ⟨ys, hp1, hp2, _⟩ := HPV.out.parts
          obtain ⟨_, _, hf1, _⟩ := hp1.form
          obtain ⟨_, _, hf2, _⟩ := hp2.form
          injection hf1 with _ hf1 _
          injection hf2 with _ hf2 _
          refine ⟨i + 1, kk + 2, cap2, np, mp, cp, dp, some ⟨g2, 0, none⟩, Ap, Bp, rfl, by simp, by have := HIK.out; omega, Lib.hid ⟨by omega, ?_, ?_, fun j hj => ?_⟩, Lib.hid ?_, Lib.hid ?_, Lib.hid ⟨_, hown2, ?_⟩, Lib.hid hbz, Lib.hid (by simp at hga; omega)⟩
          · rw [hf1]; show _ = (putK (dK ms i) (ms.getD i ⟨#[]⟩)).length; rw [hqd]; rfl
          · rw [hf2]; show _ = (putL (dK ms i) (dL ms l i) (ms.getD i ⟨#[]⟩) (l.getD i V.nil)).length; rw [hqd, hud]; rfl
          · rcases Nat.lt_or_ge j i with h | h
            · exact hsz j h
            · have : j = i := by omega
              rw [this, hqd]; omega
          · exact (hkeep _ (by omega) (hlow _ (Nat.le_refl _))).trans q1
          · show IsV wz _ (.mk 7 0 0 ⟨#[]⟩ (putK (dK ms i) (ms.getD i ⟨#[]⟩)) (putL (dK ms i) (dL ms l i) (ms.getD i ⟨#[]⟩) (l.getD i V.nil))) _
            rw [hqd, hud]
            refine IsV.keep (fun b hb hlt => ?_) _ HPV.out
            have hwas := HWA.out.size
            have hnb : b ≠ w1.heap.size := by
              rcases hb with (h | h) | h | h
              · have h' : b < w.heap.size := h; omega
              · have := h.1; omega
              · have h' : b < w.heap.size := h; omega
              · have := HLT.out.1; omega
            have hne : some b ≠ (Value.slice G kk cap).ownBlock := by
              rcases hb with (h | h) | h | h
              · exact hlow b (by have h' : b < w.heap.size := h; omega)
              · exact h.2
              · exact hlow b (by have h' : b < w.heap.size := h; omega)
              · intro e
                obtain ⟨zs', hzo', _⟩ := HOW.out
                have := (hzo'.lt b e.symm).2; omega
            refine ⟨?_, (hkeep b (by omega) hne).trans (q2 b hnb)⟩
            rcases hb with (h | h) | h | h
            · exact Or.inl h
            · exact Or.inr ⟨h.1, fun e => hg2 b (by omega) hne (by simpa [Value.ownBlock] using e)⟩
            · exact Or.inl h
            · exact Or.inr ⟨by have := HLT.out.1; omega, fun e => hg2 b (by omega) hne (by simpa [Value.ownBlock] using e)⟩
          · have htk : ms.take (i + 1) = ms.take i ++ [q] := by rw [List.take_add_one, HQ.out]; rfl
            have htl : l.take (i + 1) = l.take i ++ [.mk uk un ur ut uks ul] := by rw [List.take_add_one, HUE.out.1]; rfl
            rw [htk, htl, pairsV_snoc _ _ _ _ (by simp [hml])]
            have hvz : IsVs wz (fun b => b < w.heap.size) (pairsV (ms.take i) (l.take i)) zs := IsVs.keep (fun b hb hlt => by
              have hb' : b < w.heap.size := hb
              have e1 := HBW.out.block b hb'
              exact ⟨hb, (hbz.block b hb').trans e1.symm⟩) _ hzv
            have huz : IsV wz (fun b => b < w.heap.size) (.mk uk un ur ut uks ul) [.int .i64 uk, .int .i64 un, .float .f64 ur, .string ut, .slice Au nu cu, .slice Bu mu du] := IsV.keep ((Kept.mono (Q := fun b => b < w.heap.size) fun b _ hb => hb).trans (Kept.below hbz)) _ HUE.out.2.1
            have := IsVs.snoc (IsVs.snoc hvz (textIs (w := wz) (P := fun b => b < w.heap.size) (q := q) (by unfold maxLen; omega))) huz
            simpa using this)
end Go.Proofs.YtaclgcpfcejplaaGreatDoor.Vals
