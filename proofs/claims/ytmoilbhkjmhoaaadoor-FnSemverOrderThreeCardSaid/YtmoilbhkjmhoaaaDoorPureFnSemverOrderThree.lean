/- FnSemverOrderThree: the order of versions is an order: the law's walk. -/
import Derived.Test.YtmoilbhkjmhoaaaDoorSvPu
import Derived.OwnWalk
namespace Go.Proofs.YtmoilbhkjmhoaaaDoor.Pure
/-- Nothing more is asked. -/
theorem FnSemverOrderThree : True := trivial
end Go.Proofs.YtmoilbhkjmhoaaaDoor.Pure
namespace Go.Proofs.YtmoilbhkjmhoaaaDoor.PFnSemverOrderThree
open Go.RowKit Go.Proofs.YtmoilbhkjmhoaaaDoor.Vals Go.Proofs.YtmoilbhkjmhoaaaDoorW.PrintWords Go.Proofs.YtmoilbhkjmhoaaaDoor.Txt Go.Proofs.YtmoilbhkjmhoaaaDoor Go.Proofs.YtmoilbhkjmhoaaaDoor.Sv
set_option linter.unusedVariables false
set_option linter.unusedSimpArgs false
set_option maxRecDepth 20000
theorem v9_call (s : ByteArray) (hs : s.size ≤ 4294967296) : ∃ (r1 r2 r3 : Int) (r4 r5 : ByteArray) (ok : Bool), (ok = true → V9Ok s) ∧ ∀ W, Calls Tryd.prog 11 #[.string s] W fun e w' => e = .returned (.tuple #[.agg #[.int .u64 r1, .int .u64 r2, .int .u64 r3, .string r4, .string r5], .bool ok]) ∧ Below W.heap.size W w' := by
  obtain ⟨⟨r1, r2, r3, r4, r5, ok⟩, hr, hok⟩ := version9_ev s hs
  obtain ⟨k, hk⟩ := Ev.rounds hr
  exact ⟨r1, r2, r3, r4, r5, ok, hok, fun W => laws_version9.calls k s r1 r2 r3 r4 r5 ok W hk⟩
theorem txOk_of {s : ByteArray} (h : V9Ok s) : ∃ t, TxOk s t := by
  obtain ⟨h0, t, h1, h2, h3, h4, h5, h6, h7⟩ := h
  exact ⟨t, h0, h1, h2, h3, h4, h5, h6, h7⟩
theorem errv_below {nm : String} {g : Nat} {tp : TypeId} {p : Value} {w w' : World} (hg : Tryd.prog.globalNamed nm = some g) (h : w.var? Tryd.prog nm = some #[.iface tp p]) (hb : Below w.heap.size w w') : w'.var? Tryd.prog nm = some #[.iface tp p] := by
  refine var?_below hb hg ?_ h
  unfold World.var? at h
  rw [hg] at h
  simp only [Option.bind_some] at h
  rcases Nat.lt_or_ge g w.heap.size with h' | h'
  · exact h'
  · rw [Array.getElem?_eq_none h'] at h; cases h
theorem ErrsOk.below {w w' : World} (h : ErrsOk w) (hb : Below w.heap.size w w') : ErrsOk w' := by
  obtain ⟨⟨tp, p, hv⟩, ⟨tp', p', hv'⟩⟩ := h
  exact ⟨⟨tp, p, errv_below (g := 1) (by kernel_rfl) hv hb⟩, ⟨tp', p', errv_below (g := 2) (by kernel_rfl) hv' hb⟩⟩
theorem cver_val {a b : Ver} (ha : ∀ x ∈ a.pre, IdOk x) (hb : ∀ x ∈ b.pre, IdOk x) : cver a b = -1 ∨ cver a b = 0 ∨ cver a b = 1 := by
  rcases cver_of idOk_plain (fun a h => h.1) ha hb with ⟨_, h⟩ | ⟨_, h⟩ | ⟨_, h⟩
  · exact .inr (.inl h)
  · exact .inl h
  · exact .inr (.inr h)
set_option maxHeartbeats 4000000 in
theorem laws_FnSemverOrderThree.walk (_P : True) (a0 a1 a2 : ByteArray) (w : World) (T : ErrsOk w) (w0 : a0.size ≤ 140737488351232) (w1 : a1.size ≤ 140737488351232) (w2 : a2.size ≤ 140737488351232) :
    Calls Tryd.prog 4 #[.string a0, .string a1, .string a2] w fun e w' => e = .returned (.bool true) ∧ Below w.heap.size w w' := by
  have HB0 := Lib.hid (Below.refl w.heap.size w)
  have HT := Lib.hid T
  clear T
  go_enter Tryd.func4, Tryd.ntmps4
  by_cases h1 : (2147483647 : Int) < (a0.size : Int)
  · go_wp2_with fail
    go_ret
    exact ⟨rfl, HB0.out⟩
  by_cases h2 : (2147483647 : Int) < (a1.size : Int)
  · go_wp2_with fail
    go_ret
    exact ⟨rfl, HB0.out⟩
  by_cases h3 : (2147483647 : Int) < (a2.size : Int)
  · go_wp2_with fail
    go_ret
    exact ⟨rfl, HB0.out⟩
  obtain ⟨p1, p2, p3, p4, p5, ok1, hk1, hc1⟩ := v9_call a0 (by omega)
  obtain ⟨q1, q2, q3, q4, q5, ok2, hk2, hc2⟩ := v9_call a1 (by omega)
  obtain ⟨s1, s2, s3, s4, s5, ok3, hk3, hc3⟩ := v9_call a2 (by omega)
  have HC1 := Lib.hid hc1
  have HC2 := Lib.hid hc2
  have HC3 := Lib.hid hc3
  have HK1 := Lib.hid hk1
  have HK2 := Lib.hid hk2
  have HK3 := Lib.hid hk3
  clear hc1 hc2 hc3 hk1 hk2 hk3
  go_wp2_with fail
  refine (HC1.out _).mono ?_
  rintro e W1 ⟨rfl, hb1⟩
  have HB1 := Lib.hid (HB0.out.trans hb1)
  clear hb1
  have HBA1 : Hid (Below w.heap.size w (W1.alloc (.cells #[.int .u64 p1, .int .u64 p2, .int .u64 p3, .string p4, .string p5] 26))) := Lib.hid (HB1.out.alloc HB1.out.size _)
  cases ok1 with
  | false =>
    go_wp2_with fail
    go_ret
    exact ⟨rfl, HBA1.out⟩
  | true =>
    go_wp2_with fail
    refine (HC2.out _).mono ?_
    rintro e W2 ⟨rfl, hb2⟩
    have HB2 := Lib.hid (HBA1.out.trans (hb2.mono HBA1.out.size))
    clear hb2
    have HBA2 : Hid (Below w.heap.size w (W2.alloc (.cells #[.int .u64 q1, .int .u64 q2, .int .u64 q3, .string q4, .string q5] 26))) := Lib.hid (HB2.out.alloc HB2.out.size _)
    go_wp2_with fail
    refine (HC3.out _).mono ?_
    rintro e W3 ⟨rfl, hb3⟩
    have HB3 := Lib.hid (HBA2.out.trans (hb3.mono HBA2.out.size))
    clear hb3
    have HBA3 : Hid (Below w.heap.size w (W3.alloc (.cells #[.int .u64 s1, .int .u64 s2, .int .u64 s3, .string s4, .string s5] 26))) := Lib.hid (HB3.out.alloc HB3.out.size _)
    cases ok2 with
    | false =>
      go_wp2_with fail
      go_ret
      exact ⟨rfl, HBA3.out⟩
    | true =>
      cases ok3 with
      | false =>
        go_wp2_with fail
        go_ret
        exact ⟨rfl, HBA3.out⟩
      | true =>
        obtain ⟨t1, ht1⟩ := txOk_of (HK1.out trivial)
        obtain ⟨t2, ht2⟩ := txOk_of (HK2.out rfl)
        obtain ⟨t3, ht3⟩ := txOk_of (HK3.out rfl)
        have U : ∀ W, Below w.heap.size w W → ∀ a : ByteArray, a.size ≤ 1000 → ∀ W', Below W.heap.size W W' → Calls Tryd.prog 42 #[.string a, .int .i64 10, .int .i64 64] W' (PuSays a W') := fun W hW a ha W' hW' => pu_says ha (ErrsOk.below HT.out (hW.trans (hW'.mono hW.size)))
        have h12 : ∀ W, Below w.heap.size w W → Calls Tryd.prog 12 #[.string a0, .string a1] W fun e w' => e = .returned (.tuple #[.int .i64 (cver (verOf t1) (verOf t2)), .bool true]) ∧ Below W.heap.size W w' := fun W hW => order_of ht1 ht2 W (U W hW)
        have h23 : ∀ W, Below w.heap.size w W → Calls Tryd.prog 12 #[.string a1, .string a2] W fun e w' => e = .returned (.tuple #[.int .i64 (cver (verOf t2) (verOf t3)), .bool true]) ∧ Below W.heap.size W w' := fun W hW => order_of ht2 ht3 W (U W hW)
        have h13 : ∀ W, Below w.heap.size w W → Calls Tryd.prog 12 #[.string a0, .string a2] W fun e w' => e = .returned (.tuple #[.int .i64 (cver (verOf t1) (verOf t3)), .bool true]) ∧ Below W.heap.size W w' := fun W hW => order_of ht1 ht3 W (U W hW)
        have h11 : ∀ W, Below w.heap.size w W → Calls Tryd.prog 12 #[.string a0, .string a0] W fun e w' => e = .returned (.tuple #[.int .i64 (cver (verOf t1) (verOf t1)), .bool true]) ∧ Below W.heap.size W w' := fun W hW => order_of ht1 ht1 W (U W hW)
        have i1 : ∀ x ∈ (verOf t1).pre, IdOk x := ht1.2.2.2.2.2.1
        have i2 : ∀ x ∈ (verOf t2).pre, IdOk x := ht2.2.2.2.2.2.1
        have i3 : ∀ x ∈ (verOf t3).pre, IdOk x := ht3.2.2.2.2.2.1
        have hth := three idOk_plain (fun a h => h.1) i1 i2 i3
        have v12 := cver_val i1 i2
        have v23 := cver_val i2 i3
        have v13 := cver_val i1 i3
        rw [hth.1] at h11
        obtain ⟨x, hx⟩ : ∃ x, x = cver (verOf t1) (verOf t2) := ⟨_, rfl⟩
        obtain ⟨y, hy⟩ : ∃ y, y = cver (verOf t2) (verOf t3) := ⟨_, rfl⟩
        obtain ⟨z, hz⟩ : ∃ z, z = cver (verOf t1) (verOf t3) := ⟨_, rfl⟩
        rw [← hx] at h12 v12 hth
        rw [← hy] at h23 v23 hth
        rw [← hz] at h13 v13 hth
        have hv : (x = -1 ∧ y = -1 ∧ z = -1) ∨ (x = -1 ∧ y = 0 ∧ (z = -1 ∨ z = 0 ∨ z = 1)) ∨ (x = -1 ∧ y = 1 ∧ (z = -1 ∨ z = 0 ∨ z = 1)) ∨ (x = 0 ∧ y = -1 ∧ z = -1) ∨ (x = 0 ∧ y = 0 ∧ (z = 0 ∨ z = 1)) ∨ (x = 0 ∧ y = 1 ∧ (z = 0 ∨ z = 1)) ∨ (x = 1 ∧ y = -1 ∧ (z = -1 ∨ z = 0 ∨ z = 1)) ∨ (x = 1 ∧ y = 0 ∧ (z = -1 ∨ z = 0 ∨ z = 1)) ∨ (x = 1 ∧ y = 1 ∧ z = 1) := by
          obtain ⟨_, g1, g2, g3⟩ := hth
          rcases v12 with rfl | rfl | rfl <;> rcases v23 with rfl | rfl | rfl <;> rcases v13 with rfl | rfl | rfl <;> simp at g1 g2 g3 ⊢
        have H12 := Lib.hid h12
        have H23 := Lib.hid h23
        have H13 := Lib.hid h13
        have H11 := Lib.hid h11
        have HV := Lib.hid hv
        clear h12 h23 h13 h11 hv hth v12 v23 v13 i1 i2 i3 hx hy hz U ht1 ht2 ht3 HC1 HC2 HC3
        go_wp2_with fail
        refine (H12.out _ HBA3.out).mono ?_
        rintro e W4 ⟨rfl, hb4⟩
        have HB4 := Lib.hid (HBA3.out.trans (hb4.mono HBA3.out.size))
        clear hb4
        go_wp2_with fail
        refine (H23.out _ HB4.out).mono ?_
        rintro e W5 ⟨rfl, hb5⟩
        have HB5 := Lib.hid (HB4.out.trans (hb5.mono HB4.out.size))
        clear hb5
        go_wp2_with fail
        refine (H13.out _ HB5.out).mono ?_
        rintro e W6 ⟨rfl, hb6⟩
        have HB6 := Lib.hid (HB5.out.trans (hb6.mono HB5.out.size))
        clear hb6
        go_wp2_with fail
        refine (H11.out _ HB6.out).mono ?_
        rintro e W7 ⟨rfl, hb7⟩
        have HB7 := Lib.hid (HB6.out.trans (hb7.mono HB6.out.size))
        clear hb7 HB1 HB2 HB3 HB4 HB5 HB6 HBA1 HBA2 HBA3
        rcases HV.out with ⟨rfl, rfl, rfl⟩ | ⟨rfl, rfl, rfl | rfl | rfl⟩ | ⟨rfl, rfl, rfl | rfl | rfl⟩ | ⟨rfl, rfl, rfl⟩ | ⟨rfl, rfl, rfl | rfl⟩ | ⟨rfl, rfl, rfl | rfl⟩ | ⟨rfl, rfl, rfl | rfl | rfl⟩ | ⟨rfl, rfl, rfl | rfl | rfl⟩ | ⟨rfl, rfl, rfl⟩
        all_goals (clear HV; go_wp2_with fail; go_ret; exact ⟨rfl, HB7.out⟩)
end Go.Proofs.YtmoilbhkjmhoaaaDoor.PFnSemverOrderThree
