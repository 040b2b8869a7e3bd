/- Walk of the law FnPick: it answers true. -/
import Derived.Test.YtlkfdjnkkooofaaValPo
import Derived.Test.YtlkfdjnkkooofaaValOt
import Derived.Test.YtlkfdjnkkooofaaValA
namespace Go.Proofs.Ytlkfdjnkkooofaa.Vals
open Go.RowKit Go.Proofs.YtlkfdjnkkooofaaW.PrintWords
set_option linter.unusedVariables false
set_option maxRecDepth 20000

set_option maxHeartbeats 16000000 in
/-- What is left once the dictionary is right. -/
theorem fnPick_rest (n : Int) (r : Nat) (t : ByteArray) (ks : List ByteArray) (l : List V) (hR : Right (.mk 7 n r t ks l) 8) (ms : List ByteArray) (Am : Option Addr) (cm : Nat) (kv lv : Value) (P Q : Nat → Prop) (w : World)
    (h : IsV w P (.mk 7 n r t ks l) [.int .i64 7, .int .i64 n, .float .f64 r, .string t, kv, lv]) (hm : RowIs w Q 1 (.slice Am ms.length cm) ms.length (ms.map Value.string)) :
    (∀ W, Below w.heap.size w W → Calls Try.prog 26 #[.agg #[.int .i64 7, .int .i64 n, .float .f64 r, .string t, kv, lv], .slice Am ms.length cm] W (DictTwo (pickI (fun i => amongB (ks.getD i ⟨#[]⟩) ms == true) ks ks.length) (pickI (fun i => amongB (ks.getD i ⟨#[]⟩) ms == true) l ks.length) W)) ∧
    (∀ W, Below w.heap.size w W → Calls Try.prog 27 #[.agg #[.int .i64 7, .int .i64 n, .float .f64 r, .string t, kv, lv], .slice Am ms.length cm] W (DictTwo (pickI (fun i => amongB (ks.getD i ⟨#[]⟩) ms == false) ks ks.length) (pickI (fun i => amongB (ks.getD i ⟨#[]⟩) ms == false) l ks.length) W)) ∧
    (∀ W, Below w.heap.size w W → Calls Try.prog 28 #[.agg #[.int .i64 7, .int .i64 n, .float .f64 r, .string t, kv, lv], .slice Am ms.length cm, .bool true] W (DictSpec (pickI (fun i => amongB (ks.getD i ⟨#[]⟩) ms == true) ks ks.length) (pickI (fun i => amongB (ks.getD i ⟨#[]⟩) ms == true) l ks.length) W)) ∧
    (∀ W, Below w.heap.size w W → Calls Try.prog 28 #[.agg #[.int .i64 7, .int .i64 n, .float .f64 r, .string t, kv, lv], .slice Am ms.length cm, .bool false] W (DictSpec (pickI (fun i => amongB (ks.getD i ⟨#[]⟩) ms == false) ks ks.length) (pickI (fun i => amongB (ks.getD i ⟨#[]⟩) ms == false) l ks.length) W)) ∧
    sameB (.mk 7 0 0 ⟨#[]⟩ (pickI (fun i => amongB (ks.getD i ⟨#[]⟩) ms == true) ks ks.length) (norms (pickI (fun i => amongB (ks.getD i ⟨#[]⟩) ms == true) l ks.length))) (.mk 7 0 0 ⟨#[]⟩ (pickI (fun i => amongB (ks.getD i ⟨#[]⟩) ms == true) ks ks.length) (pickI (fun i => amongB (ks.getD i ⟨#[]⟩) ms == true) l ks.length)) = true ∧
    sameB (.mk 7 0 0 ⟨#[]⟩ (pickI (fun i => amongB (ks.getD i ⟨#[]⟩) ms == false) ks ks.length) (norms (pickI (fun i => amongB (ks.getD i ⟨#[]⟩) ms == false) l ks.length))) (.mk 7 0 0 ⟨#[]⟩ (pickI (fun i => amongB (ks.getD i ⟨#[]⟩) ms == false) ks ks.length) (pickI (fun i => amongB (ks.getD i ⟨#[]⟩) ms == false) l ks.length)) = true := by
  obtain ⟨hasc, hrl, hlen, h300⟩ := dict_parts hR
  have hkz := keys_size hR
  have hk : ∀ W, Below w.heap.size w W → IsV W P (.mk 7 n r t ks l) [.int .i64 7, .int .i64 n, .float .f64 r, .string t, kv, lv] := fun W hW => IsV.keep (Kept.below hW) _ h
  have hku : ∀ W, Below w.heap.size w W → RowIs W Q 1 (.slice Am ms.length cm) ms.length (ms.map Value.string) := fun W hW => hm.keep (by omega) (Kept.below hW)
  have hkp : ∀ bin W, Below w.heap.size w W → Calls Try.prog 28 #[.agg #[.int .i64 7, .int .i64 n, .float .f64 r, .string t, kv, lv], .slice Am ms.length cm, .bool bin] W (DictSpec (pickI (fun i => amongB (ks.getD i ⟨#[]⟩) ms == bin) ks ks.length) (pickI (fun i => amongB (ks.getD i ⟨#[]⟩) ms == bin) l ks.length) W) := fun bin W hW => by
    obtain ⟨xs, h1, h2, h3, _⟩ := (hk W hW).parts
    obtain ⟨A, c, rfl, _⟩ := h1.form
    obtain ⟨A', c', rfl, _⟩ := h2.form
    exact specKept_walk n r t ks l hlen h300 hkz ms bin Am cm Q A A' c c' xs P W h1 h2 h3 (hku W hW)
  exact ⟨fun W hW => implPickOf_walk n r t ks l hR ms Am cm kv lv P Q W (hk W hW) (hku W hW), fun W hW => implOmit_walk n r t ks l hR ms Am cm kv lv P Q W (hk W hW) (hku W hW), hkp true, hkp false, sameB_yes (same_puts (pick_right hrl _)), sameB_yes (same_puts (pick_right hrl _))⟩

set_option maxHeartbeats 32000000 in
theorem fnPick_walk (v : V) (kv lv : Value) (Q : Nat → Prop) (Am : Option Addr) (cm : Nat) (ms : List ByteArray) (P : Nat → Prop) (w : World) (h : IsV w Q v [.int .i64 v.k, .int .i64 v.n, .float .f64 v.r, .string v.t, kv, lv]) (hm : RowIs w P 1 (.slice Am ms.length cm) ms.length (ms.map Value.string)) :
    Calls Try.prog 6 #[.agg #[.int .i64 v.k, .int .i64 v.n, .float .f64 v.r, .string v.t, kv, lv], .slice Am ms.length cm] w fun e w' => e = .returned (.bool true) ∧ Below w.heap.size w w' := by
  obtain ⟨k, n, r, t, ks, l⟩ := v
  simp only [V.k, V.n, V.r, V.t] at h ⊢
  obtain ⟨hnm, hcm⟩ := hm.sizes
  unfold maxLen at hcm
  have HB0 := Lib.hid (Box6.new w (.int .i64 k) (.int .i64 n) (.float .f64 r) (.string t) kv lv)
  obtain ⟨W0, hW0⟩ : ∃ W0, W0 = w.alloc (box6 (.int .i64 k) (.int .i64 n) (.float .f64 r) (.string t) kv lv) := ⟨_, rfl⟩
  have hbw : Below w.heap.size w W0 := by rw [hW0]; exact (Below.refl _ _).alloc (Nat.le_refl _) _
  have HBW := Lib.hid hbw
  rw [← hW0] at HB0
  have HKV : Hid (∀ W, Below w.heap.size w W → IsV W Q (.mk k n r t ks l) [.int .i64 k, .int .i64 n, .float .f64 r, .string t, kv, lv]) := Lib.hid fun W hW => IsV.keep (Kept.below hW) _ h
  have HKU : Hid (∀ W, Below w.heap.size w W → RowIs W P 1 (.slice Am ms.length cm) ms.length (ms.map Value.string)) := Lib.hid fun W hW => hm.keep (by omega) (Kept.below hW)
  have HF1 := Lib.hid (fits1_walk (.mk k n r t ks l) kv lv Q W0 (HKV.out _ hbw))
  have HF2 : Hid (∀ W, Below w.heap.size w W → Calls Try.prog 25 #[.slice Am ms.length cm] W (SomeBool fun _ w' => w' = W)) := Lib.hid fun W hW => fits2_walk Am cm ms P W (HKU.out W hW)
  have HHH := Lib.hid (And.intro h hm)
  have HREST := Lib.hid (fun (hR : Right (.mk 7 n r t ks l) 8) (h7 : IsV w Q (.mk 7 n r t ks l) [.int .i64 7, .int .i64 n, .float .f64 r, .string t, kv, lv]) => fnPick_rest n r t ks l hR ms Am cm kv lv Q P w h7 hm)
  have hsf := store_float
  obtain ⟨lm, hlm⟩ : ∃ lm, lm = ms.length := ⟨_, rfl⟩
  rw [← hlm] at hnm HF2 HREST ⊢
  simp only [V.k, V.n, V.r, V.t] at HF1
  clear h hm hbw hlm HKU
  go_enter Try.func6, Try.ntmps6
  go_wp2_with fail
  rw [← hW0]
  refine (HF1.out).mono ?_
  rintro e w1 ⟨b, rfl, hb1⟩
  have HX1 := Lib.hid (HB0.out.below hb1)
  have HB1 := Lib.hid (HBW.out.trans (hb1.mono HBW.out.size))
  clear hb1 HF1 hW0 HB0
  cases b with
  | false =>
    go_wp2_with fail
    go_ret
    exact ⟨rfl, HB1.out⟩
  | true =>
  have HF3 := Lib.hid (HF2.out w1 HB1.out)
  go_wp2_with fail
  refine (HF3.out).mono ?_
  rintro e w2 ⟨b, rfl, hw2⟩
  subst hw2
  clear HF3
  cases b with
  | false =>
    go_wp2_with fail
    go_ret
    exact ⟨rfl, HB1.out⟩
  | true =>
  obtain ⟨d0, d1, d2, d3, d4, d5⟩ := HX1.out.cells
  have HF3 := Lib.hid (dictionary_walk (.mk k n r t ks l) kv lv Q w2 (HKV.out _ HB1.out))
  simp only [V.k, V.n, V.r, V.t] at HF3
  go_wp2_with fail
  refine (HF3.out).mono ?_
  rintro e w4 ⟨b, rfl, HD, hb3⟩
  have HX4 := Lib.hid (HX1.out.below hb3)
  have HB4 := Lib.hid (HB1.out.trans (hb3.mono HB1.out.size))
  clear hb3 HF3 d0 d1 d2 d3 d4 d5 HX1 HB1
  cases b with
  | false =>
    go_wp2_with fail
    go_ret
    exact ⟨rfl, HB4.out⟩
  | true =>
  by_cases hbig3 : lm > 30
  · go_wp2_with fail
    go_ret
    exact ⟨rfl, HB4.out⟩
  obtain ⟨hk7, hR⟩ := HD.out (by first | trivial | rfl)
  subst hk7
  obtain ⟨q1, q2, q3, q4, q5, q6⟩ := HREST.out hR HHH.out.1
  obtain ⟨⟨Ad, cd, rfl⟩, Bd, dd, rfl⟩ : (∃ A c, kv = .slice A ks.length c) ∧ ∃ A c, lv = .slice A l.length c := by
    obtain ⟨_, h1, h2, _⟩ := HHH.out.1.parts
    obtain ⟨A, c, h1, _⟩ := h1.form
    obtain ⟨A', c', h2, _⟩ := h2.form
    exact ⟨⟨A, c, h1⟩, A', c', h2⟩
  clear HKV hR HD HHH HREST HF2
  obtain ⟨K1, hK1⟩ : ∃ K, K = (pickI (fun i => amongB (ks.getD i ⟨#[]⟩) ms == true) ks ks.length) := ⟨_, rfl⟩
  obtain ⟨L1, hL1⟩ : ∃ K, K = (pickI (fun i => amongB (ks.getD i ⟨#[]⟩) ms == true) l ks.length) := ⟨_, rfl⟩
  obtain ⟨K2, hK2⟩ : ∃ K, K = (pickI (fun i => amongB (ks.getD i ⟨#[]⟩) ms == false) ks ks.length) := ⟨_, rfl⟩
  obtain ⟨L2, hL2⟩ : ∃ K, K = (pickI (fun i => amongB (ks.getD i ⟨#[]⟩) ms == false) l ks.length) := ⟨_, rfl⟩
  rw [← hK1, ← hL1] at q1 q3 q5
  rw [← hK2, ← hL2] at q2 q4 q6
  clear hK1 hL1 hK2 hL2
  obtain ⟨nk, hnk⟩ : ∃ nk, nk = ks.length := ⟨_, rfl⟩
  obtain ⟨nl, hnl⟩ : ∃ nl, nl = l.length := ⟨_, rfl⟩
  rw [← hnk, ← hnl] at q1 q2 q3 q4
  rw [← hnk, ← hnl] at HX4 ⊢
  clear hnk hnl
  have Q1 := Lib.hid q1
  have Q2 := Lib.hid q2
  have Q3 := Lib.hid q3
  have Q4 := Lib.hid q4
  have Q5 := Lib.hid q5
  have Q6 := Lib.hid q6
  clear q1 q2 q3 q4 q5 q6
  obtain ⟨d0, d1, d2, d3, d4, d5⟩ := HX4.out.cells
  have HC := Lib.hid (Q1.out w4 HB4.out)
  go_wp2_with fail
  refine (HC.out).mono ?_
  rintro e w5 ⟨ka, la, rfl, HA, hb5⟩
  obtain ⟨⟨Aa, na, ca, rfl⟩, Ba, ma, da, rfl⟩ : (∃ A n c, ka = .slice A n c) ∧ ∃ A n c, la = .slice A n c := by
    obtain ⟨_, h1, h2, _⟩ := HA.out.parts
    obtain ⟨A, c, h1, _⟩ := h1.form
    obtain ⟨A', c', h2, _⟩ := h2.form
    exact ⟨⟨A, _, c, h1⟩, A', _, c', h2⟩
  obtain ⟨W5, hW5⟩ : ∃ W5, W5 = w5.alloc (box6 (.int .i64 7) (.int .i64 0) (.float .f64 0) (.string ⟨#[]⟩) (.slice Aa na ca) (.slice Ba ma da)) := ⟨_, rfl⟩
  have hal : Below w5.heap.size w5 W5 := by rw [hW5]; exact (Below.refl _ _).alloc (Nat.le_refl _) _
  have HA5 : Hid (Box6 W5 w5.heap.size (.int .i64 7) (.int .i64 0) (.float .f64 0) (.string ⟨#[]⟩) (.slice Aa na ca) (.slice Ba ma da)) := Lib.hid (by rw [hW5]; exact Box6.new w5 _ _ _ _ _ _)
  have HX5 := Lib.hid ((HX4.out.below hb5.out).below hal)
  have hb5' := HB4.out.trans (hb5.out.mono HB4.out.size)
  have HB5 := Lib.hid (hb5'.trans (hal.mono hb5'.size))
  have HIA : Hid (∀ W, Below W5.heap.size W5 W → IsV W (fun _ => True) (.mk 7 0 0 ⟨#[]⟩ K1 (norms L1)) [.int .i64 7, .int .i64 0, .float .f64 0, .string ⟨#[]⟩, .slice Aa na ca, .slice Ba ma da]) := Lib.hid fun W hW => IsV.keep (((Kept.below hal).trans (Kept.below hW)).trans (Kept.mono fun _ _ _ => trivial)) _ HA.out
  clear d0 d1 d2 d3 d4 d5 HC hb5 hb5' hal HX4
  obtain ⟨d0, d1, d2, d3, d4, d5⟩ := HX5.out.cells
  have HC := Lib.hid (Q2.out W5 HB5.out)
  have HW5 := Lib.hid hW5
  subst hW5
  go_wp2_with fail
  refine (HC.out).mono ?_
  rintro e w6 ⟨kb, lb, rfl, HBB, hb6⟩
  obtain ⟨⟨Ab, nb, cb, rfl⟩, Bb, mb, db, rfl⟩ : (∃ A n c, kb = .slice A n c) ∧ ∃ A n c, lb = .slice A n c := by
    obtain ⟨_, h1, h2, _⟩ := HBB.out.parts
    obtain ⟨A, c, h1, _⟩ := h1.form
    obtain ⟨A', c', h2, _⟩ := h2.form
    exact ⟨⟨A, _, c, h1⟩, A', _, c', h2⟩
  obtain ⟨W6, hW6⟩ : ∃ W6, W6 = w6.alloc (box6 (.int .i64 7) (.int .i64 0) (.float .f64 0) (.string ⟨#[]⟩) (.slice Ab nb cb) (.slice Bb mb db)) := ⟨_, rfl⟩
  have hal : Below w6.heap.size w6 W6 := by rw [hW6]; exact (Below.refl _ _).alloc (Nat.le_refl _) _
  have HZ6 : Hid (Box6 W6 w6.heap.size (.int .i64 7) (.int .i64 0) (.float .f64 0) (.string ⟨#[]⟩) (.slice Ab nb cb) (.slice Bb mb db)) := Lib.hid (by rw [hW6]; exact Box6.new w6 _ _ _ _ _ _)
  have HX6 := Lib.hid ((HX5.out.below hb6.out).below hal)
  have HA6 := Lib.hid ((HA5.out.below hb6.out).below hal)
  have hb6' := HB5.out.trans (hb6.out.mono HB5.out.size)
  have HB6 := Lib.hid (hb6'.trans (hal.mono hb6'.size))
  have HIA6 : Hid (∀ W, Below W6.heap.size W6 W → IsV W (fun _ => True) (.mk 7 0 0 ⟨#[]⟩ K1 (norms L1)) [.int .i64 7, .int .i64 0, .float .f64 0, .string ⟨#[]⟩, .slice Aa na ca, .slice Ba ma da]) := Lib.hid fun W hW => HIA.out W ((hb6.out.trans (hal.mono hb6.out.size)).trans (hW.mono (Nat.le_trans hb6.out.size hal.size)))
  have HIB6 : Hid (∀ W, Below W6.heap.size W6 W → IsV W (fun _ => True) (.mk 7 0 0 ⟨#[]⟩ K2 (norms L2)) [.int .i64 7, .int .i64 0, .float .f64 0, .string ⟨#[]⟩, .slice Ab nb cb, .slice Bb mb db]) := Lib.hid fun W hW => IsV.keep (((Kept.below hal).trans (Kept.below hW)).trans (Kept.mono fun _ _ _ => trivial)) _ HBB.out
  clear d0 d1 d2 d3 d4 d5 HC hb6 hb6' hal HX5 HA5 HBB HA HIA HB5 HW5
  have HKEEP : Hid (∀ W, Below W6.heap.size W6 W → W.cell? ⟨w.heap.size, 0, none⟩ = some (.int .i64 7) ∧ W.cell? ⟨w.heap.size, 1, none⟩ = some (.int .i64 n) ∧ W.cell? ⟨w.heap.size, 2, none⟩ = some (.float .f64 r) ∧ W.cell? ⟨w.heap.size, 3, none⟩ = some (.string t) ∧ W.cell? ⟨w.heap.size, 4, none⟩ = some (.slice Ad nk cd) ∧ W.cell? ⟨w.heap.size, 5, none⟩ = some (.slice Bd nl dd) ∧ W.cell? ⟨w5.heap.size, 0, none⟩ = some (.int .i64 7) ∧ W.cell? ⟨w5.heap.size, 1, none⟩ = some (.int .i64 0) ∧ W.cell? ⟨w5.heap.size, 2, none⟩ = some (.float .f64 0) ∧ W.cell? ⟨w5.heap.size, 3, none⟩ = some (.string ⟨#[]⟩) ∧ W.cell? ⟨w5.heap.size, 4, none⟩ = some (.slice Aa na ca) ∧ W.cell? ⟨w5.heap.size, 5, none⟩ = some (.slice Ba ma da) ∧ W.cell? ⟨w6.heap.size, 0, none⟩ = some (.int .i64 7) ∧ W.cell? ⟨w6.heap.size, 1, none⟩ = some (.int .i64 0) ∧ W.cell? ⟨w6.heap.size, 2, none⟩ = some (.float .f64 0) ∧ W.cell? ⟨w6.heap.size, 3, none⟩ = some (.string ⟨#[]⟩) ∧ W.cell? ⟨w6.heap.size, 4, none⟩ = some (.slice Ab nb cb) ∧ W.cell? ⟨w6.heap.size, 5, none⟩ = some (.slice Bb mb db)) := Lib.hid fun W hW => by
    obtain ⟨d0, d1, d2, d3, d4, d5⟩ := (HX6.out.below hW).cells
    obtain ⟨a0, a1, a2, a3, a4, a5⟩ := (HA6.out.below hW).cells
    obtain ⟨b0, b1, b2, b3, b4, b5⟩ := (HZ6.out.below hW).cells
    exact ⟨d0, d1, d2, d3, d4, d5, a0, a1, a2, a3, a4, a5, b0, b1, b2, b3, b4, b5⟩
  go_upto_region 7 with fail
  rw [← hW6]
  clear HX6 HA6 HZ6 hW6
  have hdr : Below W6.heap.size W6 W6.drew := below_drewn (Below.refl _ _)
  have HDR := Lib.hid hdr
  clear hdr
  go_region_held3 (fun W => W.cell? ⟨w.heap.size, 0, none⟩ = some (.int .i64 7) ∧ W.cell? ⟨w.heap.size, 1, none⟩ = some (.int .i64 n) ∧ W.cell? ⟨w.heap.size, 2, none⟩ = some (.float .f64 r) ∧ W.cell? ⟨w.heap.size, 3, none⟩ = some (.string t) ∧ W.cell? ⟨w.heap.size, 4, none⟩ = some (.slice Ad nk cd) ∧ W.cell? ⟨w.heap.size, 5, none⟩ = some (.slice Bd nl dd) ∧ W.cell? ⟨w5.heap.size, 0, none⟩ = some (.int .i64 7) ∧ W.cell? ⟨w5.heap.size, 1, none⟩ = some (.int .i64 0) ∧ W.cell? ⟨w5.heap.size, 2, none⟩ = some (.float .f64 0) ∧ W.cell? ⟨w5.heap.size, 3, none⟩ = some (.string ⟨#[]⟩) ∧ W.cell? ⟨w5.heap.size, 4, none⟩ = some (.slice Aa na ca) ∧ W.cell? ⟨w5.heap.size, 5, none⟩ = some (.slice Ba ma da) ∧ W.cell? ⟨w6.heap.size, 0, none⟩ = some (.int .i64 7) ∧ W.cell? ⟨w6.heap.size, 1, none⟩ = some (.int .i64 0) ∧ W.cell? ⟨w6.heap.size, 2, none⟩ = some (.float .f64 0) ∧ W.cell? ⟨w6.heap.size, 3, none⟩ = some (.string ⟨#[]⟩) ∧ W.cell? ⟨w6.heap.size, 4, none⟩ = some (.slice Ab nb cb) ∧ W.cell? ⟨w6.heap.size, 5, none⟩ = some (.slice Bb mb db)) (first | exact HKEEP.out _ HP4.out | exact HKEEP.out _ HP3.out | exact HKEEP.out _ HP2.out | exact HKEEP.out _ HP1.out | exact HKEEP.out _ HDR.out)
    (first
    | (go_simp; go_at_call 28; refine (Q4.out _ (HB6.out.trans (HP2.out.mono HB6.out.size))).mono ?_; rintro e wc ⟨kt, lt, rfl, HTV, htb⟩
       have HP3 := Lib.hid (HP2.out.trans (htb.out.mono HP2.out.size)))
    | (go_simp; go_at_call 28; refine (Q3.out _ (HB6.out.trans (HDR.out.mono HB6.out.size))).mono ?_; rintro e wa ⟨kp, lp, rfl, HPV, hpb⟩
       have HP1 := Lib.hid (HDR.out.trans (hpb.out.mono HDR.out.size)))
    | (go_simp; go_at_call 22; refine (same_walk (.mk 7 0 0 ⟨#[]⟩ K2 (norms L2)) (.mk 7 0 0 ⟨#[]⟩ K2 L2) _ _ kt lt (fun _ => True) (fun _ => True) _ (HIB6.out _ HP3.out) HTV.out).mono ?_; rintro e wd ⟨b, rfl, hb, hbd⟩
       obtain rfl := hb.out.symm.trans Q6.out
       have HP4 := Lib.hid (HP3.out.trans (hbd.mono HP3.out.size)); clear hb hbd)
    | (go_simp; go_at_call 22; refine (same_walk (.mk 7 0 0 ⟨#[]⟩ K1 (norms L1)) (.mk 7 0 0 ⟨#[]⟩ K1 L1) _ _ kp lp (fun _ => True) (fun _ => True) _ (HIA6.out _ HP1.out) HPV.out).mono ?_; rintro e wb ⟨b, rfl, hb, hbd⟩
       obtain rfl := hb.out.symm.trans Q5.out
       have HP2 := Lib.hid (HP1.out.trans (hbd.mono HP1.out.size)); clear hb hbd))
  all_goals go_wp2_with fail
  all_goals go_ret
  all_goals exact ⟨rfl, HB6.out.trans (HP4.out.mono HB6.out.size)⟩
end Go.Proofs.Ytlkfdjnkkooofaa.Vals
