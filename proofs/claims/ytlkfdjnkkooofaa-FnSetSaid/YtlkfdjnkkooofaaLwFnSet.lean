/- Walk of the law FnSet: it answers true. -/
import Derived.Test.YtlkfdjnkkooofaaValTe
import Derived.Test.YtlkfdjnkkooofaaValQ
import Derived.Test.YtlkfdjnkkooofaaValA
namespace Go.Proofs.Ytlkfdjnkkooofaa.Vals
open Go.RowKit Go.Proofs.YtlkfdjnkkooofaaW.PrintWords
set_option linter.unusedVariables false
set_option maxRecDepth 20000

set_option maxHeartbeats 16000000 in
/-- What is left once the dictionary, the key and the value are right. -/
theorem fnSet_rest (n : Int) (r : Nat) (t : ByteArray) (ks : List ByteArray) (l : List V) (hR : Right (.mk 7 n r t ks l) 8) (s : ByteArray) (hs : s.size ≤ maxLen) (u : V) (hU : Right u 8) (kv lv ku lu : Value) (P Q : Nat → Prop) (w : World)
    (h : IsV w P (.mk 7 n r t ks l) [.int .i64 7, .int .i64 n, .float .f64 r, .string t, kv, lv]) (hu : IsV w Q u [.int .i64 u.k, .int .i64 u.n, .float .f64 u.r, .string u.t, ku, lu]) :
    (∀ W, Below w.heap.size w W → Calls Try.prog 20 #[.agg #[.int .i64 7, .int .i64 n, .float .f64 r, .string t, kv, lv], .string s, .agg #[.int .i64 u.k, .int .i64 u.n, .float .f64 u.r, .string u.t, ku, lu]] W (DictTwo (putK ks s) (putL ks l s u) W)) ∧
    (∀ W, Below w.heap.size w W → Calls Try.prog 21 #[.agg #[.int .i64 7, .int .i64 n, .float .f64 r, .string t, kv, lv], .string s] W (DictTwo (takeK ks s) (takeL ks l s) W)) ∧
    (∀ W, Below w.heap.size w W → Calls Try.prog 23 #[.agg #[.int .i64 7, .int .i64 n, .float .f64 r, .string t, kv, lv], .string s, .agg #[.int .i64 u.k, .int .i64 u.n, .float .f64 u.r, .string u.t, ku, lu]] W (DictSpec (putK ks s) (putL ks l s u) W)) ∧
    (∀ W, Below w.heap.size w W → Calls Try.prog 24 #[.agg #[.int .i64 7, .int .i64 n, .float .f64 r, .string t, kv, lv], .string s] W (DictSpec (takeK ks s) (takeL ks l s) W)) ∧
    sameB (.mk 7 0 0 ⟨#[]⟩ (putK ks s) (norms (putL ks l s u))) (.mk 7 0 0 ⟨#[]⟩ (putK ks s) (putL ks l s u)) = true ∧
    sameB (.mk 7 0 0 ⟨#[]⟩ (takeK ks s) (norms (takeL ks l s))) (.mk 7 0 0 ⟨#[]⟩ (takeK ks s) (takeL ks l s)) = true := by
  obtain ⟨hasc, hrl, hlen, h300⟩ := dict_parts hR
  have hkz := keys_size hR
  have hk : ∀ W, Below w.heap.size w W → IsV W P (.mk 7 n r t ks l) [.int .i64 7, .int .i64 n, .float .f64 r, .string t, kv, lv] := fun W hW => IsV.keep (Kept.below hW) _ h
  have hku : ∀ W, Below w.heap.size w W → IsV W Q u [.int .i64 u.k, .int .i64 u.n, .float .f64 u.r, .string u.t, ku, lu] := fun W hW => IsV.keep (Kept.below hW) _ hu
  have hmem : ∀ x ∈ l, ∃ d, Right x d := fun x hx => by obtain ⟨i, hi, rfl⟩ := List.mem_iff_getElem.1 hx; exact ⟨_, hrl.at_ i hi⟩
  refine ⟨fun W hW => implSet_walk n r t ks l hR s hs u hU kv lv ku lu P Q W (hk W hW) (hku W hW), fun W hW => implUnset_walk n r t ks l hR s kv lv P W (hk W hW), fun W hW => ?_, fun W hW => ?_, sameB_yes (same_puts fun x hx => ?_), sameB_yes (same_puts fun x hx => hmem x (takeL_mem (p := fun x => x ∈ l) (fun x hx => hx) x hx))⟩
  · obtain ⟨xs, h1, h2, h3, _⟩ := (hk W hW).parts
    obtain ⟨A, c, rfl, _⟩ := h1.form
    obtain ⟨A', c', rfl, _⟩ := h2.form
    exact specPut_walk n r t ks l hlen h300 hkz s hs u A A' c c' ku lu xs P Q W h1 h2 h3 (hku W hW)
  · obtain ⟨xs, h1, h2, h3, _⟩ := (hk W hW).parts
    obtain ⟨A, c, rfl, _⟩ := h1.form
    obtain ⟨A', c', rfl, _⟩ := h2.form
    have h := specTaken_walk n r t ks l hlen h300 hkz s A A' c c' xs P W h1 h2 h3
    rwa [pick_takenK, pick_taken ks l s hlen] at h
  · exact (putL_mem (p := fun x => ∃ d, Right x d) (ks := ks) (s := s) hmem ⟨8, hU⟩) x hx

set_option maxHeartbeats 32000000 in
theorem fnSet_walk (v : V) (kv lv : Value) (Q : Nat → Prop) (s : ByteArray) (u : V) (ku lu : Value) (P : Nat → Prop) (w : World) (h : IsV w Q v [.int .i64 v.k, .int .i64 v.n, .float .f64 v.r, .string v.t, kv, lv]) (hs : s.size ≤ 140737488351232) (hu : IsV w P u [.int .i64 u.k, .int .i64 u.n, .float .f64 u.r, .string u.t, ku, lu]) :
    Calls Try.prog 5 #[.agg #[.int .i64 v.k, .int .i64 v.n, .float .f64 v.r, .string v.t, kv, lv], .string s, .agg #[.int .i64 u.k, .int .i64 u.n, .float .f64 u.r, .string u.t, ku, lu]] w fun e w' => e = .returned (.bool true) ∧ Below w.heap.size w w' := by
  obtain ⟨k, n, r, t, ks, l⟩ := v
  obtain ⟨uk, un, ur, ut, uks, ul⟩ := u
  simp only [V.k, V.n, V.r, V.t] at h hu ⊢
  have HB0 := Lib.hid (box2 w (.int .i64 k) (.int .i64 n) (.float .f64 r) (.string t) kv lv (.int .i64 uk) (.int .i64 un) (.float .f64 ur) (.string ut) ku lu)
  obtain ⟨W0, hW0⟩ : ∃ W0, W0 = (w.alloc (box6 (.int .i64 k) (.int .i64 n) (.float .f64 r) (.string t) kv lv)).alloc (box6 (.int .i64 uk) (.int .i64 un) (.float .f64 ur) (.string ut) ku lu) := ⟨_, rfl⟩
  rw [← hW0] at HB0
  have HKV : Hid (∀ W, Below w.heap.size w W → IsV W Q (.mk k n r t ks l) [.int .i64 k, .int .i64 n, .float .f64 r, .string t, kv, lv]) := Lib.hid fun W hW => IsV.keep (Kept.below hW) _ h
  have HKU : Hid (∀ W, Below w.heap.size w W → IsV W P (.mk uk un ur ut uks ul) [.int .i64 uk, .int .i64 un, .float .f64 ur, .string ut, ku, lu]) := Lib.hid fun W hW => IsV.keep (Kept.below hW) _ hu
  have HF1 := Lib.hid (fits1_walk (.mk k n r t ks l) kv lv Q W0 (HKV.out _ HB0.out.2.2))
  have HHH := Lib.hid (And.intro h hu)
  have HS := Lib.hid hs
  have hsf := store_float
  simp only [V.k, V.n, V.r, V.t] at HF1
  clear h hu
  go_enter Try.func5, Try.ntmps5
  go_wp2_with fail
  rw [← hW0]
  refine (HF1.out).mono ?_
  rintro e w1 ⟨b, rfl, hb1⟩
  have HX1 := Lib.hid (HB0.out.1.below hb1)
  have HY1 := Lib.hid (HB0.out.2.1.below hb1)
  have HB1 := Lib.hid (HB0.out.2.2.trans (hb1.mono HB0.out.2.2.size))
  clear hb1 HF1 hW0 HB0
  cases b with
  | false =>
    go_wp2_with fail
    go_ret
    exact ⟨rfl, HB1.out⟩
  | true =>
  by_cases hbig : s.size > 2147483647
  · go_wp2_with fail
    go_ret
    exact ⟨rfl, HB1.out⟩
  obtain ⟨d0, d1, d2, d3, d4, d5⟩ := HY1.out.cells
  have HF2 := Lib.hid (fits1_walk (.mk uk un ur ut uks ul) ku lu P w1 (HKU.out _ HB1.out))
  simp only [V.k, V.n, V.r, V.t] at HF2
  go_wp2_with fail
  refine (HF2.out).mono ?_
  rintro e w2 ⟨b, rfl, hb2⟩
  have HX2 := Lib.hid (HX1.out.below hb2)
  have HY2 := Lib.hid (HY1.out.below hb2)
  have HB2 := Lib.hid (HB1.out.trans (hb2.mono HB1.out.size))
  clear hb2 HF2 d0 d1 d2 d3 d4 d5 HX1 HY1
  cases b with
  | false =>
    go_wp2_with fail
    go_ret
    exact ⟨rfl, HB2.out⟩
  | true =>
  obtain ⟨d0, d1, d2, d3, d4, d5⟩ := HX2.out.cells
  have HF3 := Lib.hid (dictionary_walk (.mk k n r t ks l) kv lv Q w2 (HKV.out _ HB2.out))
  simp only [V.k, V.n, V.r, V.t] at HF3
  go_wp2_with fail
  refine (HF3.out).mono ?_
  rintro e w3 ⟨b, rfl, HD, hb3⟩
  have HX3 := Lib.hid (HX2.out.below hb3)
  have HY3 := Lib.hid (HY2.out.below hb3)
  have HB3 := Lib.hid (HB2.out.trans (hb3.mono HB2.out.size))
  clear hb3 HF3 d0 d1 d2 d3 d4 d5 HX2 HY2
  cases b with
  | false =>
    go_wp2_with fail
    go_ret
    exact ⟨rfl, HB3.out⟩
  | true =>
  by_cases hbig3 : s.size > 300
  · go_wp2_with fail
    go_ret
    exact ⟨rfl, HB3.out⟩
  obtain ⟨d0, d1, d2, d3, d4, d5⟩ := HY3.out.cells
  have HF4 := Lib.hid (Right_walk (.mk uk un ur ut uks ul) ku lu P w3 (HKU.out _ HB3.out))
  simp only [V.k, V.n, V.r, V.t] at HF4
  go_wp2_with fail
  refine (HF4.out).mono ?_
  rintro e w4 ⟨b, rfl, HU, hb4⟩
  have HX4 := Lib.hid (HX3.out.below hb4)
  have HY4 := Lib.hid (HY3.out.below hb4)
  have HB4 := Lib.hid (HB3.out.trans (hb4.mono HB3.out.size))
  clear hb4 HF4 d0 d1 d2 d3 d4 d5 HX3 HY3
  cases b with
  | false =>
    go_wp2_with fail
    go_ret
    exact ⟨rfl, HB4.out⟩
  | true =>
  obtain ⟨hk7, hR⟩ := HD.out (by first | trivial | rfl)
  subst hk7
  obtain ⟨q1, q2, q3, q4, q5, q6⟩ := fnSet_rest n r t ks l hR s (by unfold maxLen; omega) (.mk uk un ur ut uks ul) (HU.out (by first | trivial | rfl)) kv lv ku lu Q P w HHH.out.1 HHH.out.2
  simp only [V.k, V.n, V.r, V.t] at q1 q3
  obtain ⟨⟨Ad, cd, rfl⟩, Bd, dd, rfl⟩ : (∃ A c, kv = .slice A ks.length c) ∧ ∃ A c, lv = .slice A l.length c := by
    obtain ⟨_, h1, h2, _⟩ := HHH.out.1.parts
    obtain ⟨A, c, h1, _⟩ := h1.form
    obtain ⟨A', c', h2, _⟩ := h2.form
    exact ⟨⟨A, c, h1⟩, A', c', h2⟩
  clear HKV HKU hR HD HU HHH
  obtain ⟨nk, hnk⟩ : ∃ nk, nk = ks.length := ⟨_, rfl⟩
  obtain ⟨nl, hnl⟩ : ∃ nl, nl = l.length := ⟨_, rfl⟩
  rw [← hnk, ← hnl] at q1 q2 q3 q4
  rw [← hnk, ← hnl] at HX4 ⊢
  obtain ⟨K1, hK1⟩ : ∃ K, K = putK ks s := ⟨_, rfl⟩
  obtain ⟨L1, hL1⟩ : ∃ K, K = putL ks l s (.mk uk un ur ut uks ul) := ⟨_, rfl⟩
  obtain ⟨K2, hK2⟩ : ∃ K, K = takeK ks s := ⟨_, rfl⟩
  obtain ⟨L2, hL2⟩ : ∃ K, K = takeL ks l s := ⟨_, rfl⟩
  rw [← hK1, ← hL1] at q1 q3 q5
  rw [← hK2, ← hL2] at q2 q4 q6
  clear hnk hnl hK1 hL1 hK2 hL2
  have Q1 := Lib.hid q1
  have Q2 := Lib.hid q2
  have Q3 := Lib.hid q3
  have Q4 := Lib.hid q4
  have Q5 := Lib.hid q5
  have Q6 := Lib.hid q6
  clear q1 q2 q3 q4 q5 q6
  obtain ⟨d0, d1, d2, d3, d4, d5⟩ := HX4.out.cells
  obtain ⟨g0, g1, g2, g3, g4, g5⟩ := HY4.out.cells
  have HC := Lib.hid (Q1.out w4 HB4.out)
  go_wp2_with fail
  refine (HC.out).mono ?_
  rintro e w5 ⟨ka, la, rfl, HA, hb5⟩
  obtain ⟨⟨Aa, na, ca, rfl⟩, Ba, ma, da, rfl⟩ : (∃ A n c, ka = .slice A n c) ∧ ∃ A n c, la = .slice A n c := by
    obtain ⟨_, h1, h2, _⟩ := HA.out.parts
    obtain ⟨A, c, h1, _⟩ := h1.form
    obtain ⟨A', c', h2, _⟩ := h2.form
    exact ⟨⟨A, _, c, h1⟩, A', _, c', h2⟩
  obtain ⟨W5, hW5⟩ : ∃ W5, W5 = w5.alloc (box6 (.int .i64 7) (.int .i64 0) (.float .f64 0) (.string ⟨#[]⟩) (.slice Aa na ca) (.slice Ba ma da)) := ⟨_, rfl⟩
  have hal : Below w5.heap.size w5 W5 := by rw [hW5]; exact (Below.refl _ _).alloc (Nat.le_refl _) _
  have HA5 : Hid (Box6 W5 w5.heap.size (.int .i64 7) (.int .i64 0) (.float .f64 0) (.string ⟨#[]⟩) (.slice Aa na ca) (.slice Ba ma da)) := Lib.hid (by rw [hW5]; exact Box6.new w5 _ _ _ _ _ _)
  have HX5 := Lib.hid ((HX4.out.below hb5.out).below hal)
  have HY5 := Lib.hid ((HY4.out.below hb5.out).below hal)
  have hb5' := HB4.out.trans (hb5.out.mono HB4.out.size)
  have HB5 := Lib.hid (hb5'.trans (hal.mono hb5'.size))
  have HIA : Hid (∀ W, Below W5.heap.size W5 W → IsV W (fun _ => True) (.mk 7 0 0 ⟨#[]⟩ K1 (norms L1)) [.int .i64 7, .int .i64 0, .float .f64 0, .string ⟨#[]⟩, .slice Aa na ca, .slice Ba ma da]) := Lib.hid fun W hW => IsV.keep (((Kept.below hal).trans (Kept.below hW)).trans (Kept.mono fun _ _ _ => trivial)) _ HA.out
  clear d0 d1 d2 d3 d4 d5 g0 g1 g2 g3 g4 g5 HC hb5 hb5' hal HX4 HY4
  obtain ⟨d0, d1, d2, d3, d4, d5⟩ := HX5.out.cells
  have HC := Lib.hid (Q2.out W5 HB5.out)
  have HW5 := Lib.hid hW5
  subst hW5
  go_wp2_with fail
  refine (HC.out).mono ?_
  rintro e w6 ⟨kb, lb, rfl, HBB, hb6⟩
  obtain ⟨⟨Ab, nb, cb, rfl⟩, Bb, mb, db, rfl⟩ : (∃ A n c, kb = .slice A n c) ∧ ∃ A n c, lb = .slice A n c := by
    obtain ⟨_, h1, h2, _⟩ := HBB.out.parts
    obtain ⟨A, c, h1, _⟩ := h1.form
    obtain ⟨A', c', h2, _⟩ := h2.form
    exact ⟨⟨A, _, c, h1⟩, A', _, c', h2⟩
  obtain ⟨W6, hW6⟩ : ∃ W6, W6 = w6.alloc (box6 (.int .i64 7) (.int .i64 0) (.float .f64 0) (.string ⟨#[]⟩) (.slice Ab nb cb) (.slice Bb mb db)) := ⟨_, rfl⟩
  have hal : Below w6.heap.size w6 W6 := by rw [hW6]; exact (Below.refl _ _).alloc (Nat.le_refl _) _
  have HZ6 : Hid (Box6 W6 w6.heap.size (.int .i64 7) (.int .i64 0) (.float .f64 0) (.string ⟨#[]⟩) (.slice Ab nb cb) (.slice Bb mb db)) := Lib.hid (by rw [hW6]; exact Box6.new w6 _ _ _ _ _ _)
  have HX6 := Lib.hid ((HX5.out.below hb6.out).below hal)
  have HY6 := Lib.hid ((HY5.out.below hb6.out).below hal)
  have HA6 := Lib.hid ((HA5.out.below hb6.out).below hal)
  have hb6' := HB5.out.trans (hb6.out.mono HB5.out.size)
  have HB6 := Lib.hid (hb6'.trans (hal.mono hb6'.size))
  have HIA6 : Hid (∀ W, Below W6.heap.size W6 W → IsV W (fun _ => True) (.mk 7 0 0 ⟨#[]⟩ K1 (norms L1)) [.int .i64 7, .int .i64 0, .float .f64 0, .string ⟨#[]⟩, .slice Aa na ca, .slice Ba ma da]) := Lib.hid fun W hW => HIA.out W ((hb6.out.trans (hal.mono hb6.out.size)).trans (hW.mono (Nat.le_trans hb6.out.size hal.size)))
  have HIB6 : Hid (∀ W, Below W6.heap.size W6 W → IsV W (fun _ => True) (.mk 7 0 0 ⟨#[]⟩ K2 (norms L2)) [.int .i64 7, .int .i64 0, .float .f64 0, .string ⟨#[]⟩, .slice Ab nb cb, .slice Bb mb db]) := Lib.hid fun W hW => IsV.keep (((Kept.below hal).trans (Kept.below hW)).trans (Kept.mono fun _ _ _ => trivial)) _ HBB.out
  clear d0 d1 d2 d3 d4 d5 HC hb6 hb6' hal HX5 HY5 HA5 HBB HA HIA HB5 HW5
  have HKEEP : Hid (∀ W, Below W6.heap.size W6 W → W.cell? ⟨w.heap.size, 0, none⟩ = some (.int .i64 7) ∧ W.cell? ⟨w.heap.size, 1, none⟩ = some (.int .i64 n) ∧ W.cell? ⟨w.heap.size, 2, none⟩ = some (.float .f64 r) ∧ W.cell? ⟨w.heap.size, 3, none⟩ = some (.string t) ∧ W.cell? ⟨w.heap.size, 4, none⟩ = some (.slice Ad nk cd) ∧ W.cell? ⟨w.heap.size, 5, none⟩ = some (.slice Bd nl dd) ∧ W.cell? ⟨w.heap.size + 1, 0, none⟩ = some (.int .i64 uk) ∧ W.cell? ⟨w.heap.size + 1, 1, none⟩ = some (.int .i64 un) ∧ W.cell? ⟨w.heap.size + 1, 2, none⟩ = some (.float .f64 ur) ∧ W.cell? ⟨w.heap.size + 1, 3, none⟩ = some (.string ut) ∧ W.cell? ⟨w.heap.size + 1, 4, none⟩ = some ku ∧ W.cell? ⟨w.heap.size + 1, 5, none⟩ = some lu ∧ W.cell? ⟨w5.heap.size, 0, none⟩ = some (.int .i64 7) ∧ W.cell? ⟨w5.heap.size, 1, none⟩ = some (.int .i64 0) ∧ W.cell? ⟨w5.heap.size, 2, none⟩ = some (.float .f64 0) ∧ W.cell? ⟨w5.heap.size, 3, none⟩ = some (.string ⟨#[]⟩) ∧ W.cell? ⟨w5.heap.size, 4, none⟩ = some (.slice Aa na ca) ∧ W.cell? ⟨w5.heap.size, 5, none⟩ = some (.slice Ba ma da) ∧ W.cell? ⟨w6.heap.size, 0, none⟩ = some (.int .i64 7) ∧ W.cell? ⟨w6.heap.size, 1, none⟩ = some (.int .i64 0) ∧ W.cell? ⟨w6.heap.size, 2, none⟩ = some (.float .f64 0) ∧ W.cell? ⟨w6.heap.size, 3, none⟩ = some (.string ⟨#[]⟩) ∧ W.cell? ⟨w6.heap.size, 4, none⟩ = some (.slice Ab nb cb) ∧ W.cell? ⟨w6.heap.size, 5, none⟩ = some (.slice Bb mb db)) := Lib.hid fun W hW => by
    obtain ⟨d0, d1, d2, d3, d4, d5⟩ := (HX6.out.below hW).cells
    obtain ⟨g0, g1, g2, g3, g4, g5⟩ := (HY6.out.below hW).cells
    obtain ⟨a0, a1, a2, a3, a4, a5⟩ := (HA6.out.below hW).cells
    obtain ⟨b0, b1, b2, b3, b4, b5⟩ := (HZ6.out.below hW).cells
    exact ⟨d0, d1, d2, d3, d4, d5, g0, g1, g2, g3, g4, g5, a0, a1, a2, a3, a4, a5, b0, b1, b2, b3, b4, b5⟩
  go_upto_region 7 with fail
  rw [← hW6]
  clear HX6 HY6 HA6 HZ6 hW6
  have hdr : Below W6.heap.size W6 W6.drew := below_drewn (Below.refl _ _)
  have HDR := Lib.hid hdr
  clear hdr
  go_region_held3 (fun W => W.cell? ⟨w.heap.size, 0, none⟩ = some (.int .i64 7) ∧ W.cell? ⟨w.heap.size, 1, none⟩ = some (.int .i64 n) ∧ W.cell? ⟨w.heap.size, 2, none⟩ = some (.float .f64 r) ∧ W.cell? ⟨w.heap.size, 3, none⟩ = some (.string t) ∧ W.cell? ⟨w.heap.size, 4, none⟩ = some (.slice Ad nk cd) ∧ W.cell? ⟨w.heap.size, 5, none⟩ = some (.slice Bd nl dd) ∧ W.cell? ⟨w.heap.size + 1, 0, none⟩ = some (.int .i64 uk) ∧ W.cell? ⟨w.heap.size + 1, 1, none⟩ = some (.int .i64 un) ∧ W.cell? ⟨w.heap.size + 1, 2, none⟩ = some (.float .f64 ur) ∧ W.cell? ⟨w.heap.size + 1, 3, none⟩ = some (.string ut) ∧ W.cell? ⟨w.heap.size + 1, 4, none⟩ = some ku ∧ W.cell? ⟨w.heap.size + 1, 5, none⟩ = some lu ∧ W.cell? ⟨w5.heap.size, 0, none⟩ = some (.int .i64 7) ∧ W.cell? ⟨w5.heap.size, 1, none⟩ = some (.int .i64 0) ∧ W.cell? ⟨w5.heap.size, 2, none⟩ = some (.float .f64 0) ∧ W.cell? ⟨w5.heap.size, 3, none⟩ = some (.string ⟨#[]⟩) ∧ W.cell? ⟨w5.heap.size, 4, none⟩ = some (.slice Aa na ca) ∧ W.cell? ⟨w5.heap.size, 5, none⟩ = some (.slice Ba ma da) ∧ W.cell? ⟨w6.heap.size, 0, none⟩ = some (.int .i64 7) ∧ W.cell? ⟨w6.heap.size, 1, none⟩ = some (.int .i64 0) ∧ W.cell? ⟨w6.heap.size, 2, none⟩ = some (.float .f64 0) ∧ W.cell? ⟨w6.heap.size, 3, none⟩ = some (.string ⟨#[]⟩) ∧ W.cell? ⟨w6.heap.size, 4, none⟩ = some (.slice Ab nb cb) ∧ W.cell? ⟨w6.heap.size, 5, none⟩ = some (.slice Bb mb db)) (first | exact HKEEP.out _ HP4.out | exact HKEEP.out _ HP3.out | exact HKEEP.out _ HP2.out | exact HKEEP.out _ HP1.out | exact HKEEP.out _ HDR.out)
    (first
    | (go_simp; go_at_call 23; refine (Q3.out _ (HB6.out.trans (HDR.out.mono HB6.out.size))).mono ?_; rintro e wa ⟨kp, lp, rfl, HPV, hpb⟩
       have HP1 := Lib.hid (HDR.out.trans (hpb.out.mono HDR.out.size)))
    | (go_simp; go_at_call 24; refine (Q4.out _ (HB6.out.trans (HP2.out.mono HB6.out.size))).mono ?_; rintro e wc ⟨kt, lt, rfl, HTV, htb⟩
       have HP3 := Lib.hid (HP2.out.trans (htb.out.mono HP2.out.size)))
    | (go_simp; go_at_call 22; refine (same_walk (.mk 7 0 0 ⟨#[]⟩ K2 (norms L2)) (.mk 7 0 0 ⟨#[]⟩ K2 L2) _ _ kt lt (fun _ => True) (fun _ => True) _ (HIB6.out _ HP3.out) HTV.out).mono ?_; rintro e wd ⟨b, rfl, hb, hbd⟩
       obtain rfl := hb.out.symm.trans Q6.out
       have HP4 := Lib.hid (HP3.out.trans (hbd.mono HP3.out.size)); clear hb hbd)
    | (go_simp; go_at_call 22; refine (same_walk (.mk 7 0 0 ⟨#[]⟩ K1 (norms L1)) (.mk 7 0 0 ⟨#[]⟩ K1 L1) _ _ kp lp (fun _ => True) (fun _ => True) _ (HIA6.out _ HP1.out) HPV.out).mono ?_; rintro e wb ⟨b, rfl, hb, hbd⟩
       obtain rfl := hb.out.symm.trans Q5.out
       have HP2 := Lib.hid (HP1.out.trans (hbd.mono HP1.out.size)); clear hb hbd))
  all_goals go_wp2_with fail
  all_goals go_ret
  all_goals exact ⟨rfl, HB6.out.trans (HP4.out.mono HB6.out.size)⟩
end Go.Proofs.Ytlkfdjnkkooofaa.Vals
