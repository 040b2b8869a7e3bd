/- Walk of the law FnDig: it answers true. -/
import Derived.Test.YtaclgcpfcejplaaValDj
import Derived.Test.YtaclgcpfcejplaaValTe
import Derived.Test.YtaclgcpfcejplaaValOt
import Derived.Test.YtaclgcpfcejplaaValA
namespace Go.Proofs.Ytaclgcpfcejplaa.Vals
open Go.RowKit Go.Proofs.YtaclgcpfcejplaaW.PrintWords
set_option linter.unusedVariables false
set_option maxRecDepth 20000

set_option maxHeartbeats 32000000 in
theorem fnDig_walk (A : Option Addr) (c : Nat) (ms : List ByteArray) (P1 : Nat → Prop) (o : V) (ko lo : Value) (P2 : Nat → Prop) (v : V) (kv lv : Value) (P3 : Nat → Prop) (w : World) (hk : RowIs w P1 1 (.slice A ms.length c) ms.length (ms.map Value.string))
    (ho : IsV w P2 o [.int .i64 o.k, .int .i64 o.n, .float .f64 o.r, .string o.t, ko, lo]) (hd : IsV w P3 v [.int .i64 v.k, .int .i64 v.n, .float .f64 v.r, .string v.t, kv, lv]) :
    Calls Try.prog 3 #[.slice A ms.length c, .agg #[.int .i64 o.k, .int .i64 o.n, .float .f64 o.r, .string o.t, ko, lo], .agg #[.int .i64 v.k, .int .i64 v.n, .float .f64 v.r, .string v.t, kv, lv]] w fun e w' => e = .returned (.bool true) ∧ Below w.heap.size w w' := by
  obtain ⟨⟨Ao, no, co, rfl⟩, Bo, mo, do', rfl⟩ := rows_form ho
  obtain ⟨⟨Ad, nd, cd, rfl⟩, Bd, md, dd', rfl⟩ := rows_form hd
  obtain ⟨ok, on, orr, ot, oks, ol⟩ := o
  obtain ⟨k7, n, r, t, ks, l⟩ := v
  simp only [V.k, V.n, V.r, V.t] at ho hd ⊢
  obtain ⟨hnc, hcm⟩ := hk.sizes
  unfold maxLen at hcm
  have hke : ∀ i s, ms[i]? = some s → ∃ mb mo, A = some ⟨mb, mo, none⟩ ∧ mb < w.heap.size ∧ w.cell? ⟨mb, mo + i, none⟩ = some (.string s) := fun i s hi => by
    have hil := (List.getElem?_eq_some_iff.1 hi).1
    obtain ⟨mb, mo, hA, _, hc⟩ := hk.elem (by omega)
    have := hc i (.string s) (by rw [List.getElem?_map, hi]; rfl)
    exact ⟨mb, mo, hA, World.block_lt_of_cell? w _ this, this⟩
  have HKE := Lib.hid hke
  have HB0 := Lib.hid (box2 w (.int .i64 ok) (.int .i64 on) (.float .f64 orr) (.string ot) (.slice Ao no co) (.slice Bo mo do') (.int .i64 k7) (.int .i64 n) (.float .f64 r) (.string t) (.slice Ad nd cd) (.slice Bd md dd'))
  obtain ⟨W0, hW0⟩ : ∃ W0, W0 = (w.alloc (box6 (.int .i64 ok) (.int .i64 on) (.float .f64 orr) (.string ot) (.slice Ao no co) (.slice Bo mo do'))).alloc (box6 (.int .i64 k7) (.int .i64 n) (.float .f64 r) (.string t) (.slice Ad nd cd) (.slice Bd md dd')) := ⟨_, rfl⟩
  rw [← hW0] at HB0
  have HF2 := Lib.hid (fits2_walk A c ms P1 W0 (hk.keep (by omega) (Kept.below HB0.out.2.2)))
  have HFO : Hid (∀ W, Below w.heap.size w W → Calls Try.prog 5 #[.agg #[.int .i64 ok, .int .i64 on, .float .f64 orr, .string ot, .slice Ao no co, .slice Bo mo do']] W (SomeBool fun _ w' => Below W.heap.size W w')) := Lib.hid fun W hW => fits1_walk (.mk ok on orr ot oks ol) _ _ P2 W (IsV.keep (Kept.below hW) _ ho)
  have HFD : Hid (∀ W, Below w.heap.size w W → Calls Try.prog 5 #[.agg #[.int .i64 k7, .int .i64 n, .float .f64 r, .string t, .slice Ad nd cd, .slice Bd md dd']] W (SomeBool fun _ w' => Below W.heap.size W w')) := Lib.hid fun W hW => fits1_walk (.mk k7 n r t ks l) _ _ P3 W (IsV.keep (Kept.below hW) _ hd)
  have HDI : Hid (∀ W, Below w.heap.size w W → Calls Try.prog 6 #[.agg #[.int .i64 k7, .int .i64 n, .float .f64 r, .string t, .slice Ad nd cd, .slice Bd md dd']] W (SomeBool fun b w' => Hid (b = true → k7 = 7 ∧ Right (.mk k7 n r t ks l) 8) ∧ Below W.heap.size W w')) := Lib.hid fun W hW => dictionary_walk (.mk k7 n r t ks l) _ _ P3 W (IsV.keep (Kept.below hW) _ hd)
  have HRO : Hid (∀ W, Below w.heap.size w W → Calls Try.prog 7 #[.agg #[.int .i64 ok, .int .i64 on, .float .f64 orr, .string ot, .slice Ao no co, .slice Bo mo do']] W (SomeBool fun b w' => Hid (b = true → Right (.mk ok on orr ot oks ol) 8) ∧ Below W.heap.size W w')) := Lib.hid fun W hW => Right_walk (.mk ok on orr ot oks ol) _ _ P2 W (IsV.keep (Kept.below hW) _ ho)
  have HH := Lib.hid (And.intro hk (And.intro ho hd))
  have hsf := store_float
  obtain ⟨m, hm⟩ : ∃ m, m = ms.length := ⟨_, rfl⟩
  rw [← hm] at hnc HF2 ⊢
  have HM := Lib.hid hm
  clear hk ho hd hke hm
  go_enter Try.func3, Try.ntmps3
  go_wp2_with fail
  rw [← hW0]
  refine (HF2.out).mono ?_
  rintro e w1 ⟨b, rfl, hw1⟩
  subst hw1
  clear hW0 HF2
  cases b with
  | false =>
    go_wp2_with fail
    go_ret
    exact ⟨rfl, HB0.out.2.2⟩
  | true =>
  obtain ⟨d0, d1, d2, d3, d4, d5⟩ := HB0.out.1.cells
  have HC := Lib.hid (HFO.out w1 HB0.out.2.2)
  go_wp2_with fail
  refine (HC.out).mono ?_
  rintro e w2 ⟨b, rfl, hb⟩
  have HO2 := Lib.hid (HB0.out.1.below hb)
  have HD2 := Lib.hid (HB0.out.2.1.below hb)
  have HB2 := Lib.hid (HB0.out.2.2.trans (hb.mono HB0.out.2.2.size))
  clear hb HC d0 d1 d2 d3 d4 d5 HB0 HFO
  cases b with
  | false =>
    go_wp2_with fail
    go_ret
    exact ⟨rfl, HB2.out⟩
  | true =>
  obtain ⟨d0, d1, d2, d3, d4, d5⟩ := HD2.out.cells
  have HC := Lib.hid (HFD.out w2 HB2.out)
  go_wp2_with fail
  refine (HC.out).mono ?_
  rintro e w3 ⟨b, rfl, hb⟩
  have HO3 := Lib.hid (HO2.out.below hb)
  have HD3 := Lib.hid (HD2.out.below hb)
  have HB3 := Lib.hid (HB2.out.trans (hb.mono HB2.out.size))
  clear hb HC d0 d1 d2 d3 d4 d5 HO2 HD2 HB2 HFD
  cases b with
  | false =>
    go_wp2_with fail
    go_ret
    exact ⟨rfl, HB3.out⟩
  | true =>
  obtain ⟨d0, d1, d2, d3, d4, d5⟩ := HD3.out.cells
  have HC := Lib.hid (HDI.out w3 HB3.out)
  go_wp2_with fail
  refine (HC.out).mono ?_
  rintro e w4 ⟨b, rfl, HDD, hb⟩
  have HO4 := Lib.hid (HO3.out.below hb)
  have HD4 := Lib.hid (HD3.out.below hb)
  have HB4 := Lib.hid (HB3.out.trans (hb.mono HB3.out.size))
  clear hb HC d0 d1 d2 d3 d4 d5 HO3 HD3 HB3 HDI
  cases b with
  | false =>
    go_wp2_with fail
    go_ret
    exact ⟨rfl, HB4.out⟩
  | true =>
  by_cases hm0 : m = 0
  · subst hm0
    go_wp2_with fail
    go_ret
    exact ⟨rfl, HB4.out⟩
  have hz : ((m : Int) == 0) = false := by simp; omega
  by_cases hm6 : m > 6
  · go_wp2_with fail
    go_ret
    exact ⟨rfl, HB4.out⟩
  obtain ⟨d0, d1, d2, d3, d4, d5⟩ := HO4.out.cells
  have HC := Lib.hid (HRO.out w4 HB4.out)
  go_wp2_with fail
  refine (HC.out).mono ?_
  rintro e w5 ⟨b, rfl, HRR, hb⟩
  have HO5 := Lib.hid (HO4.out.below hb)
  have HD5 := Lib.hid (HD4.out.below hb)
  have HB5 := Lib.hid (HB4.out.trans (hb.mono HB4.out.size))
  clear hb HC d0 d1 d2 d3 d4 d5 HO4 HD4 HB4 HRO
  cases b with
  | false =>
    go_wp2_with fail
    go_ret
    exact ⟨rfl, HB5.out⟩
  | true =>
  obtain ⟨hk7, hR⟩ := HDD.out (by first | trivial | rfl)
  subst hk7
  have hRO := HRR.out (by first | trivial | rfl)
  have hdig : ∀ u, dug (.mk ok on orr ot oks ol) ms (.mk 7 n r t ks l) = some u → ∀ W, Below w.heap.size w W → Calls Try.prog 9 #[.slice A m c, .agg #[.int .i64 ok, .int .i64 on, .float .f64 orr, .string ot, .slice Ao no co, .slice Bo mo do'], .agg #[.int .i64 7, .int .i64 n, .float .f64 r, .string t, .slice Ad nd cd, .slice Bd md dd']] W (DigRes u W) := fun u hu W hW => by
    obtain ⟨k, rest, hms⟩ : ∃ k rest, ms = k :: rest := by
      cases hms : ms with
      | nil => have := HM.out; rw [hms] at this; exact absurd this hm0
      | cons k rest => exact ⟨k, rest, rfl⟩
    rw [hms] at hu
    obtain ⟨hk, ho, hd⟩ := HH.out
    rw [← HM.out, hms] at hk
    exact implDig_walk (.mk ok on orr ot oks ol) hRO _ _ _ _ rest k n r t ks l hR u hu A c m P1 P2 P3 W (hk.keep (by omega) (Kept.below hW)) (IsV.keep (Kept.below hW) _ ho) (IsV.keep (Kept.below hW) _ hd) (by rw [HM.out, hms]; rfl) (by omega)
  have HDIG := Lib.hid hdig
  have HROK := Lib.hid hRO
  have HRD := Lib.hid hR
  obtain ⟨W5, hW5⟩ : ∃ W5, W5 = w5.alloc (box6 (.int .i64 7) (.int .i64 n) (.float .f64 r) (.string t) (.slice Ad nd cd) (.slice Bd md dd')) := ⟨_, rfl⟩
  have hal : Below w5.heap.size w5 W5 := by rw [hW5]; exact (Below.refl _ _).alloc (Nat.le_refl _) _
  have H5 : Hid (Box6 W5 w5.heap.size (.int .i64 7) (.int .i64 n) (.float .f64 r) (.string t) (.slice Ad nd cd) (.slice Bd md dd') ∧ Box6 W5 w.heap.size (.int .i64 ok) (.int .i64 on) (.float .f64 orr) (.string ot) (.slice Ao no co) (.slice Bo mo do') ∧ Box6 W5 (w.heap.size + 1) (.int .i64 7) (.int .i64 n) (.float .f64 r) (.string t) (.slice Ad nd cd) (.slice Bd md dd') ∧ Below w.heap.size w W5) := Lib.hid ⟨by rw [hW5]; exact Box6.new w5 _ _ _ _ _ _, HO5.out.below hal, HD5.out.below hal, HB5.out.trans (hal.mono HB5.out.size)⟩
  have HS5 : Hid (w.heap.size + 1 < w5.heap.size) := Lib.hid HD5.out.lt
  obtain ⟨d0, d1, d2, d3, d4, d5⟩ := HD5.out.cells
  clear hal hdig hRO hR HRR HDD HO5 HB5
  go_wp2_with fail
  rw [← hW5]
  clear hW5 d0 d1 d2 d3 d4 d5 HD5
  go_loopg [8] m (fun kq v8 wr => ∃ (i : Nat) (kk cn : Int) (cr : Nat) (ct : ByteArray) (cks : List ByteArray) (cl : List V) (Ac Bc : Option Addr) (nc mc cc dc : Nat), v8 = .int .i64 (i : Int) ∧ i + kq = m ∧ Hid (Box6 wr w5.heap.size (.int .i64 kk) (.int .i64 cn) (.float .f64 cr) (.string ct) (.slice Ac nc cc) (.slice Bc mc dc)) ∧ Hid (IsV w P3 (.mk kk cn cr ct cks cl) [.int .i64 kk, .int .i64 cn, .float .f64 cr, .string ct, .slice Ac nc cc, .slice Bc mc dc]) ∧
    Hid (dug (.mk ok on orr ot oks ol) ms (.mk 7 n r t ks l) = dug (.mk ok on orr ot oks ol) (ms.drop i) (.mk kk cn cr ct cks cl)) ∧ Hid (∃ dd, Right (.mk kk cn cr ct cks cl) dd) ∧ Hid (Box6 wr w.heap.size (.int .i64 ok) (.int .i64 on) (.float .f64 orr) (.string ot) (.slice Ao no co) (.slice Bo mo do')) ∧ Hid (Box6 wr (w.heap.size + 1) (.int .i64 7) (.int .i64 n) (.float .f64 r) (.string t) (.slice Ad nd cd) (.slice Bd md dd')) ∧ Hid (Below w.heap.size w wr))
  case atStart =>
    obtain ⟨h1, h2, h3, h4⟩ := H5.out
    exact ⟨0, 7, n, r, t, ks, l, Ad, Bd, nd, md, cd, dd', rfl, by omega, Lib.hid h1, Lib.hid HH.out.2.2, Lib.hid rfl, Lib.hid ⟨8, HRD.out⟩, Lib.hid h2, Lib.hid h3, Lib.hid h4⟩
  case round =>
    obtain ⟨i, kk, cn, cr, ct, cks, cl, Ac, Bc, nc, mc, cc, dc, rfl, hik, HXW, HIU, HDU, HRU, HXO, HXD, HBW⟩ := hrel
    cases gk with
    | zero =>
      have hi : ¬ i < m := by omega
      have HU : Hid (dug (.mk ok on orr ot oks ol) ms (.mk 7 n r t ks l) = some (.mk kk cn cr ct cks cl)) := Lib.hid (by rw [HDU.out, List.drop_of_length_le (by have := HM.out; omega)]; rfl)
      clear hik
      have HC := Lib.hid (HDIG.out (.mk kk cn cr ct cks cl) HU.out wr HBW.out)
      obtain ⟨d0, d1, d2, d3, d4, d5⟩ := HXO.out.cells
      obtain ⟨g0, g1, g2, g3, g4, g5⟩ := HXD.out.cells
      go_wp2_with fail
      refine (HC.out).mono ?_
      rintro e wa ⟨kr, lr, rfl, HV, HBa⟩
      obtain ⟨⟨Ak, nk, ck', rfl⟩, Al, nl, cl', rfl⟩ := rows_form HV.out
      obtain ⟨v, hv⟩ : ∃ v, v = norm (.mk kk cn cr ct cks cl) := ⟨_, rfl⟩
      have hsm : sameB v (.mk kk cn cr ct cks cl) = true := by rw [hv]; obtain ⟨d', hd'⟩ := HRU.out; exact sameB_yes (same_of hd')
      have HSM := Lib.hid hsm
      rw [← hv] at HV ⊢
      obtain ⟨fk, fn, fr, ft, fks, fl⟩ := v
      simp only [V.k, V.n, V.r, V.t] at HV ⊢
      have hwx := (HXW.out.below HBa.out).below ((Below.refl wa.heap.size wa).alloc (Nat.le_refl _) (box6 (.int .i64 fk) (.int .i64 fn) (.float .f64 fr) (.string ft) (.slice Ak nk ck') (.slice Al nl cl')))
      have hbx := Box6.new wa (.int .i64 fk) (.int .i64 fn) (.float .f64 fr) (.string ft) (.slice Ak nk ck') (.slice Al nl cl')
      have hba : Below w.heap.size w (wa.alloc (box6 (.int .i64 fk) (.int .i64 fn) (.float .f64 fr) (.string ft) (.slice Ak nk ck') (.slice Al nl cl'))) := (HBW.out.trans (HBa.out.mono HBW.out.size)).alloc (Nat.le_trans HBW.out.size HBa.out.size) _
      have HS := Lib.hid (same_walk (.mk fk fn fr ft fks fl) (.mk kk cn cr ct cks cl) _ _ _ _ _ _ _ (IsV.keep (Kept.below ((Below.refl _ _).alloc (Nat.le_refl _) (box6 (.int .i64 fk) (.int .i64 fn) (.float .f64 fr) (.string ft) (.slice Ak nk ck') (.slice Al nl cl')))) _ HV.out) (IsV.keep (Kept.below hba) _ HIU.out))
      simp only [V.k, V.n, V.r, V.t] at HS
      have HBA := Lib.hid hba
      clear d0 d1 d2 d3 d4 d5 g0 g1 g2 g3 g4 g5 HC hv hsm hba
      obtain ⟨d0, d1, d2, d3, d4, d5⟩ := hwx.cells
      obtain ⟨g0, g1, g2, g3, g4, g5⟩ := hbx.cells
      clear hwx hbx
      go_wp2_with fail
      refine (HS.out).mono ?_
      rintro e wz ⟨b, rfl, hb, hbd⟩
      obtain rfl := hb.out.symm.trans HSM.out
      have HBZ := Lib.hid (HBA.out.trans (hbd.mono HBA.out.size))
      clear hb hbd HS
      go_wp2_with fail
      go_ret
      exact ⟨rfl, HBZ.out⟩
    | succ mm =>
      have hi : i < m := by omega
      have hil : i < ms.length := by have := HM.out; omega
      obtain ⟨q, hq⟩ : ∃ q, q = ms[i] := ⟨_, rfl⟩
      have hqe : ms[i]? = some q := by rw [hq]; exact List.getElem?_eq_getElem hil
      have hdr : ms.drop i = q :: ms.drop (i + 1) := by rw [hq]; exact List.drop_eq_getElem_cons hil
      obtain ⟨mb, mo2, hA, hmb, e0⟩ := HKE.out i q hqe
      subst hA
      have g0 := (HBW.out.cell (p := ⟨mb, mo2 + i, none⟩) hmb).trans e0
      have hmb2 : mb < wr.heap.size := by have := HBW.out.size; omega
      rw [hdr] at HDU
      have HIK := Lib.hid hik
      have hii0 : (0 : Int) ≤ (i : Int) := by omega
      have hiim : (i : Int) < (m : Int) := by omega
      clear hq hqe hdr e0 hik hil hmb
      obtain ⟨d0, d1, d2, d3, d4, d5⟩ := HXW.out.cells
      by_cases hk7 : kk = 7
      · subst hk7
        go_upto_region 11 with fail
        have hpart := HIU.out
        obtain ⟨xs, r1, r2, r3, _⟩ := hpart.parts
        obtain ⟨A1, c1, e1, _⟩ := r1.form
        obtain ⟨A2, c2, e2, _⟩ := r2.form
        injection e1 with e1a e1b e1c
        injection e2 with e2a e2b e2c
        subst e1a e1b e1c e2a e2b e2c
        try simp only [V.ks, V.l] at HIU
        try simp only [V.ks, V.l] at HXW
        try simp only [V.ks] at d4
        try simp only [V.l] at d5
        try simp only [V.ks] at r1
        try simp only [V.l] at r2
        try simp only [V.l] at r3
        obtain ⟨dd, hrd⟩ := HRU.out
        obtain ⟨hasc, hrl, hlen, h300⟩ := dict_parts hrd
        have HC : Hid (∀ x : Near wr.heap.size wr, Calls Try.prog 8 #[.agg #[.int .i64 7, .int .i64 cn, .float .f64 cr, .string ct, .slice Ac cks.length cc, .slice Bc cl.length dc], .string q] x.W
            fun e w' => e = .returned (.tuple #[.int .i64 (atD cks q : Int), .bool (isD cks q)]) ∧ ∃ y : Near wr.heap.size wr, w' = y.W) := Lib.hid fun x =>
          (specAt_walk 7 cn cr ct cks Ac cc (.slice Bc cl.length dc) q P3 x.W (r1.keep (by omega) ((Kept.below HBW.out).trans (Kept.below x.h)))).mono fun e w' ⟨he, hB⟩ => ⟨he, x.of hB (Nat.le_refl _)⟩
        have hwl := HXW.out.lt
        have j0 : ∀ x : Near wr.heap.size wr, x.W.cell? ⟨w5.heap.size, 0, none⟩ = some _ := fun x => x.cell hwl d0
        have j1 : ∀ x : Near wr.heap.size wr, x.W.cell? ⟨w5.heap.size, 1, none⟩ = some _ := fun x => x.cell hwl d1
        have j2 : ∀ x : Near wr.heap.size wr, x.W.cell? ⟨w5.heap.size, 2, none⟩ = some _ := fun x => x.cell hwl d2
        have j3 : ∀ x : Near wr.heap.size wr, x.W.cell? ⟨w5.heap.size, 3, none⟩ = some _ := fun x => x.cell hwl d3
        have j4 : ∀ x : Near wr.heap.size wr, x.W.cell? ⟨w5.heap.size, 4, none⟩ = some _ := fun x => x.cell hwl d4
        have j5 : ∀ x : Near wr.heap.size wr, x.W.cell? ⟨w5.heap.size, 5, none⟩ = some _ := fun x => x.cell hwl d5
        have jq : ∀ x : Near wr.heap.size wr, x.W.cell? ⟨mb, mo2 + i, none⟩ = some _ := fun x => x.cell hmb2 g0
        have HEL := Lib.hid (IsVs.elem r2 r3)
        have HLN := Lib.hid (And.intro hlen (And.intro hrl h300))
        have hal2 := atD_le cks q
        have h2s : cl.length ≤ dc ∧ dc ≤ 2 ^ 63 - 1 := by have h := r2.sizes; unfold maxLen at h; exact h
        obtain ⟨a, ha⟩ : ∃ a, a = atD cks q := ⟨_, rfl⟩
        have HA := Lib.hid ha
        rw [← ha] at HC hal2
        obtain ⟨lc, hlc⟩ : ∃ lc, lc = cl.length := ⟨_, rfl⟩
        obtain ⟨lk, hlk⟩ : ∃ lk, lk = cks.length := ⟨_, rfl⟩
        have HLC := Lib.hid (And.intro hlc hlk)
        rw [← hlc, ← hlk] at HC
        rw [← hlc] at h2s HIU HXW j5
        rw [← hlk] at HIU HXW j4
        clear hpart r1 r2 r3 hrd hasc hrl hlen h300 d0 d1 d2 d3 d4 d5 ha g0 hlc hlk
        cases hda : isD cks q with
        | false =>
          rw [hda] at HC
          have HU2 : Hid (dug (.mk ok on orr ot oks ol) ms (.mk 7 n r t ks l) = some (.mk ok on orr ot oks ol)) := Lib.hid (by
            rw [HDU.out]; unfold dug; simp only [V.k, V.ks, hda, if_true, Bool.false_eq_true, if_false])
          refine wp_region_near wr.heap.size wr (by kernel_rfl) (by kernel_rfl) (Below.refl _ _) ?_
          repeat (go_big_quiet_step ((exact HC.out _)))
          refine wpQuiet_nil ?_
          intro W1 hw'
          obtain ⟨⟨W1', hW1⟩, rfl⟩ := hw'
          have HXW1 := Lib.hid (HXW.out.below hW1)
          have HXO1 := Lib.hid (HXO.out.below hW1)
          have HXD1 := Lib.hid (HXD.out.below hW1)
          have HBW1 := Lib.hid (HBW.out.trans (hW1.mono HBW.out.size))
          clear hW1 HXW HXO HXD HBW j0 j1 j2 j3 j4 j5 jq HC
          obtain ⟨d0, d1, d2, d3, d4, d5⟩ := HXW1.out.cells
          have fz : ∀ j, W1.frozen? ⟨w5.heap.size, j, none⟩ = false := fun j => by have h := HXW1.out; unfold Box6 at h; simp [World.frozen?, h]
          obtain ⟨g0, g1, g2, g3, g4, g5⟩ := HXO1.out.cells
          go_upto_region 15 with fail
          obtain ⟨w6, hw6⟩ : ∃ w6, w6 = (((((W1.setCell ⟨w5.heap.size, 0, none⟩ (.int .i64 ok)).setCell ⟨w5.heap.size, 1, none⟩ (.int .i64 on)).setCell ⟨w5.heap.size, 2, none⟩ (.float .f64 orr)).setCell ⟨w5.heap.size, 3, none⟩ (.string ot)).setCell ⟨w5.heap.size, 4, none⟩ (.slice Ao no co)).setCell ⟨w5.heap.size, 5, none⟩ (.slice Bo mo do') := ⟨_, rfl⟩
          rw [← hw6]
          obtain ⟨hb2, ho2, hl2⟩ := set6 HXW1.out _ _ _ _ _ _ hw6
          have hs5 := HS5.out
          have HXO := Lib.hid (show Box6 w6 w.heap.size (.int .i64 ok) (.int .i64 on) (.float .f64 orr) (.string ot) (.slice Ao no co) (.slice Bo mo do') from (ho2 _ (by omega)).trans HXO1.out)
          have HXD := Lib.hid (show Box6 w6 (w.heap.size + 1) (.int .i64 7) (.int .i64 n) (.float .f64 r) (.string t) (.slice Ad nd cd) (.slice Bd md dd') from (ho2 _ (by omega)).trans HXD1.out)
          have HXW := Lib.hid (show Box6 w6 w5.heap.size (.int .i64 ok) (.int .i64 on) (.float .f64 orr) (.string ot) (.slice Ao no co) (.slice Bo mo do') from hb2)
          have HBW := Lib.hid (HBW1.out.trans (hl2.mono (by omega)))
          have HU := HU2
          have HRU := Lib.hid (show ∃ dd, Right (.mk ok on orr ot oks ol) dd from ⟨8, HROK.out⟩)
          have HIU := Lib.hid HH.out.2.1
          clear hb2 ho2 hl2 hs5 hw6 d0 d1 d2 d3 d4 d5 fz g0 g1 g2 g3 g4 g5
          have HC := Lib.hid (HDIG.out (.mk ok on orr ot oks ol) HU.out w6 HBW.out)
          obtain ⟨d0, d1, d2, d3, d4, d5⟩ := HXO.out.cells
          obtain ⟨g0, g1, g2, g3, g4, g5⟩ := HXD.out.cells
          go_wp2_with fail
          refine (HC.out).mono ?_
          rintro e wa ⟨kr, lr, rfl, HV, HBa⟩
          obtain ⟨⟨Ak, nk, ck', rfl⟩, Al, nl, cl', rfl⟩ := rows_form HV.out
          obtain ⟨v, hv⟩ : ∃ v, v = norm (.mk ok on orr ot oks ol) := ⟨_, rfl⟩
          have hsm : sameB v (.mk ok on orr ot oks ol) = true := by rw [hv]; obtain ⟨d', hd'⟩ := HRU.out; exact sameB_yes (same_of hd')
          have HSM := Lib.hid hsm
          rw [← hv] at HV ⊢
          obtain ⟨fk, fn, fr, ft, fks, fl⟩ := v
          simp only [V.k, V.n, V.r, V.t] at HV ⊢
          have hwx := (HXW.out.below HBa.out).below ((Below.refl wa.heap.size wa).alloc (Nat.le_refl _) (box6 (.int .i64 fk) (.int .i64 fn) (.float .f64 fr) (.string ft) (.slice Ak nk ck') (.slice Al nl cl')))
          have hbx := Box6.new wa (.int .i64 fk) (.int .i64 fn) (.float .f64 fr) (.string ft) (.slice Ak nk ck') (.slice Al nl cl')
          have hba : Below w.heap.size w (wa.alloc (box6 (.int .i64 fk) (.int .i64 fn) (.float .f64 fr) (.string ft) (.slice Ak nk ck') (.slice Al nl cl'))) := (HBW.out.trans (HBa.out.mono HBW.out.size)).alloc (Nat.le_trans HBW.out.size HBa.out.size) _
          have HS := Lib.hid (same_walk (.mk fk fn fr ft fks fl) (.mk ok on orr ot oks ol) _ _ _ _ _ _ _ (IsV.keep (Kept.below ((Below.refl _ _).alloc (Nat.le_refl _) (box6 (.int .i64 fk) (.int .i64 fn) (.float .f64 fr) (.string ft) (.slice Ak nk ck') (.slice Al nl cl')))) _ HV.out) (IsV.keep (Kept.below hba) _ HIU.out))
          simp only [V.k, V.n, V.r, V.t] at HS
          have HBA := Lib.hid hba
          clear d0 d1 d2 d3 d4 d5 g0 g1 g2 g3 g4 g5 HC hv hsm hba
          obtain ⟨d0, d1, d2, d3, d4, d5⟩ := hwx.cells
          obtain ⟨g0, g1, g2, g3, g4, g5⟩ := hbx.cells
          clear hwx hbx
          go_wp2_with fail
          refine (HS.out).mono ?_
          rintro e wz ⟨b, rfl, hb, hbd⟩
          obtain rfl := hb.out.symm.trans HSM.out
          have HBZ := Lib.hid (HBA.out.trans (hbd.mono HBA.out.size))
          clear hb hbd HS
          go_wp2_with fail
          go_ret
          exact ⟨rfl, HBZ.out⟩
        | true =>
          rw [hda] at HC
          obtain ⟨dd, hrd⟩ := HRU.out
          obtain ⟨hk1, hk2, hk3⟩ := kid_right hrd rfl (s := q) hda (.mk ok on orr ot oks ol)
          simp only [V.ks, V.l] at hk1 hk2 hk3
          have hacl : a < cl.length := by rw [HA.out]; exact hk1
          have hal3 : a < lc := by rw [HLC.out.1]; exact hacl
          obtain ⟨eb, eo, ke, le, hA', hebs, _, hI, e0, e1, e2, e3, e4, e5⟩ := HEL.out a hacl
          subst hA'
          obtain ⟨u, hu⟩ : ∃ u, u = cl[a] := ⟨_, rfl⟩
          have hua : u = cl[atD cks q] := by rw [hu]; simp only [HA.out]
          rw [← hu] at hI e0 e1 e2 e3
          rw [← hua] at hk2 hk3
          have HNX : Hid (dug (.mk ok on orr ot oks ol) ms (.mk 7 n r t ks l) = dug (.mk ok on orr ot oks ol) (ms.drop (i + 1)) u) := Lib.hid (by
            rw [HDU.out]
            show (if (7 : Int) = 7 then (if isD cks q = true then dug (.mk ok on orr ot oks ol) (ms.drop (i + 1)) (cl.getD (atD cks q) (.mk ok on orr ot oks ol)) else some (.mk ok on orr ot oks ol)) else none) = _
            rw [if_pos rfl, if_pos hda, hk2])
          have HRN := Lib.hid (show ∃ dd, Right u dd from ⟨_, hk3⟩)
          obtain ⟨⟨Ae, ne, ce, rfl⟩, Be, me, de, rfl⟩ := rows_form hI
          have HIN := Lib.hid hI
          have h00 : (0 : Int) ≤ (a : Int) := by omega
          have hai : (a : Int) < (lc : Int) := by omega
          obtain ⟨fk, fn, fr, ft, fks, fl⟩ := u
          simp only [V.k, V.n, V.r, V.t] at HIN e0 e1 e2 e3
          have HEE := Lib.hid (And.intro e0 (And.intro e1 (And.intro e2 (And.intro e3 (And.intro e4 (And.intro e5 hebs))))))
          clear hrd hk1 hk2 hk3 hacl hI e0 e1 e2 e3 e4 e5 hebs hu hua
          refine wp_region_near wr.heap.size wr (by kernel_rfl) (by kernel_rfl) (Below.refl _ _) ?_
          repeat (go_big_quiet_step ((exact HC.out _)))
          refine wpQuiet_nil ?_
          intro W1 hw'
          obtain ⟨⟨W1', hW1⟩, rfl⟩ := hw'
          have HXW1 := Lib.hid (HXW.out.below hW1)
          have HXO1 := Lib.hid (HXO.out.below hW1)
          have HXD1 := Lib.hid (HXD.out.below hW1)
          have HBW1 := Lib.hid (HBW.out.trans (hW1.mono HBW.out.size))
          clear hW1 HXW HXO HXD HBW j0 j1 j2 j3 j4 j5 jq HC
          obtain ⟨d0, d1, d2, d3, d4, d5⟩ := HXW1.out.cells
          have fz : ∀ j, W1.frozen? ⟨w5.heap.size, j, none⟩ = false := fun j => by have h := HXW1.out; unfold Box6 at h; simp [World.frozen?, h]
          obtain ⟨p0, p1, p2, p3, p4, p5, hebs⟩ := HEE.out
          have g0 := (HBW1.out.cell (p := ⟨eb, eo + a * 6, none⟩) hebs).trans p0
          have g1 := (HBW1.out.cell (p := ⟨eb, eo + a * 6 + 1, none⟩) hebs).trans p1
          have g2 := (HBW1.out.cell (p := ⟨eb, eo + a * 6 + 2, none⟩) hebs).trans p2
          have g3 := (HBW1.out.cell (p := ⟨eb, eo + a * 6 + 3, none⟩) hebs).trans p3
          have g4 := (HBW1.out.cell (p := ⟨eb, eo + a * 6 + 4, none⟩) hebs).trans p4
          have g5 := (HBW1.out.cell (p := ⟨eb, eo + a * 6 + 5, none⟩) hebs).trans p5
          clear p0 p1 p2 p3 p4 p5 hebs
          go_wp2_with fail
          obtain ⟨w6, hw6⟩ : ∃ w6, w6 = (((((W1.setCell ⟨w5.heap.size, 0, none⟩ (.int .i64 fk)).setCell ⟨w5.heap.size, 1, none⟩ (.int .i64 fn)).setCell ⟨w5.heap.size, 2, none⟩ (.float .f64 fr)).setCell ⟨w5.heap.size, 3, none⟩ (.string ft)).setCell ⟨w5.heap.size, 4, none⟩ (.slice Ae ne ce)).setCell ⟨w5.heap.size, 5, none⟩ (.slice Be me de) := ⟨_, rfl⟩
          rw [← hw6]
          obtain ⟨hb2, ho2, hl2⟩ := set6 HXW1.out _ _ _ _ _ _ hw6
          go_roundg mm
          case measure => exact Nat.lt_succ_self mm
          case rel =>
            have hs5 := HS5.out
            exact ⟨i + 1, fk, fn, fr, ft, fks, fl, Ae, Be, ne, me, ce, de, by simp, by have := HIK.out; omega, Lib.hid hb2, HIN, HNX, HRN, Lib.hid ((ho2 _ (by omega)).trans HXO1.out), Lib.hid ((ho2 _ (by omega)).trans HXD1.out), Lib.hid (HBW1.out.trans (hl2.mono (by omega)))⟩
      · have hd : ((kk : Int) != 7) = true := by simp [hk7]
        go_wp2_with fail
        go_ret
        exact ⟨rfl, HBW.out⟩
end Go.Proofs.Ytaclgcpfcejplaa.Vals
