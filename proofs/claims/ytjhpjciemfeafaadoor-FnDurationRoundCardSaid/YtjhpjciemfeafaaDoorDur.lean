/- Walks of time.leadingInt, of time.ParseDuration at a text of whole numbers and units, and of sprig's durationRound. -/
import Derived.Test.YtjhpjciemfeafaaDoorPow
import Derived.Test.YtjhpjciemfeafaaDoorDurP
import Derived.Test.YtjhpjciemfeafaaDoorWMore
import Derived.Deep.LoopGhost
import Derived.IntWalk
import Derived.BigQuiet
import Derived.Test.YtjhpjciemfeafaaDoorMapM
namespace Go.Proofs.YtjhpjciemfeafaaDoor.Giv
open Go.RowKit Go.Proofs.YtjhpjciemfeafaaDoorW.PrintWords Go.Proofs.YtjhpjciemfeafaaDoor.Txt
set_option linter.unusedVariables false
set_option maxRecDepth 20000

theorem byte_at (s : ByteArray) (i : Nat) (c : UInt8) (h : s.toList[i]? = some c) : ∃ hp : i < s.size, s[i]'hp = c := by
  have hl := len_eq s
  obtain ⟨h1, h2⟩ := List.getElem?_eq_some_iff.1 h
  have hp : i < s.size := by omega
  refine ⟨hp, ?_⟩
  rw [← h2]
  have e := Lib.toList_data s
  simp only [e]
  rfl
set_option maxHeartbeats 2000000 in
theorem leadingInt_walk (d r : List UInt8) (s : ByteArray) (w : World) (hs : s.toList = d ++ r) (hd : digs d) (hr : ∀ c t, r = c :: t → 57 < c.toNat) (hv : val10 0 d ≤ 100000000000) (hsz : s.size ≤ 1000) :
    Calls Tryd.prog 38 #[.string s] w fun e w' => e = .returned (.tuple #[.int .u64 (val10 0 d : Nat), .string (s.extract d.length s.size), .nilIface]) ∧ Drawn0 w w' := by
  have hl := len_eq s
  have hdl : d.length + r.length = s.size := by rw [hl, hs, List.length_append]
  have HH := Lib.hid (And.intro hs (And.intro hd (And.intro hr hv)))
  obtain ⟨n, hn⟩ : ∃ n, n = d.length := ⟨_, rfl⟩
  have HN := Lib.hid (And.intro hn hdl)
  rw [← hn]
  have hns : n ≤ s.size := by omega
  clear hs hd hr hv hl hdl hn
  go_enter Tryd.func38, Tryd.ntmps38
  go_wp2_with fail
  go_loopg [2, 5, 6] n (fun kq v2 v5 v6 wr => ∃ (i x : Nat), v2 = .int .u64 (x : Int) ∧ v5 = .int .i64 (i : Int) ∧ i + kq = n ∧ Hid (x = val10 0 (d.take i)) ∧ Hid (Drawn0 w wr))
  case atStart => exact ⟨0, 0, rfl, rfl, by omega, Lib.hid rfl, Lib.hid (Drawn0.refl _)⟩
  case round =>
    obtain ⟨i, x, rfl, rfl, hik, HX, HD⟩ := hrel
    cases gk with
    | zero =>
      have him : i = n := by omega
      subst him
      have hxe : x = val10 0 d := by rw [HX.out, HN.out.1, List.take_length]
      have HXE := Lib.hid hxe
      clear hxe
      cases hr : r with
      | nil =>
        have hie : i = s.size := by have := HN.out; rw [hr] at this; simp at this; omega
        have hni : ¬ (i : Int) < (s.size : Int) := by omega
        clear hik
        have hle : (i : Int) ≤ (s.size : Int) := by omega
        go_wp2_with fail
        go_quiet (fail)
        go_wp2_with fail
        refine bodyPost_ret (v := .tuple #[.int .u64 (x : Int), .string ByteArray.empty, .nilIface]) (by simp [results, Tryd.results38, go_sem]) rfl ?_
        have he : s.extract i s.size = ByteArray.empty := by rw [hie]; ext1; simp
        exact ⟨by rw [he, HXE.out], HD.out.step _⟩
      | cons c t =>
        obtain ⟨hs, hd, hrr, hv⟩ := HH.out
        have hc := hrr c t hr
        have hat : s.toList[i]? = some c := by rw [hs, HN.out.1, List.getElem?_append_right (Nat.le_refl _), hr]; simp
        obtain ⟨hp, hix⟩ := byte_at s i c hat
        have hii : (i : Int) < (s.size : Int) := by omega
        have hi0 : (0 : Int) ≤ (i : Int) := by omega
        have hlt : ¬ (c.toNat : Int) < 48 := by omega
        have hgt : (57 : Int) < (c.toNat : Int) := by omega
        clear hik hs hd hrr hv hc hat hr
        have hle : (i : Int) ≤ (s.size : Int) := by omega
        go_wp2_with fail
        go_quiet (fail)
        go_wp2_with fail
        refine bodyPost_ret (v := .tuple #[.int .u64 (x : Int), .string (s.extract i s.size), .nilIface]) (by simp [results, Tryd.results38, go_sem]) rfl ?_
        exact ⟨by rw [HXE.out], HD.out.step _⟩
    | succ m =>
      have hin : i < n := by omega
      obtain ⟨hs, hd, hrr, hv⟩ := HH.out
      obtain ⟨c, hc⟩ : ∃ c, d[i]? = some c := ⟨d[i]'(by have := HN.out; omega), List.getElem?_eq_getElem _⟩
      have hat : s.toList[i]? = some c := by rw [hs, List.getElem?_append_left (by have := HN.out; omega)]; exact hc
      obtain ⟨hp, hix⟩ := byte_at s i c hat
      obtain ⟨h48, h57⟩ := hd c (List.mem_of_getElem? hc)
      have hxb : x ≤ 100000000000 := by rw [HX.out]; exact Nat.le_trans (val10_take_le d i) hv
      have hstep : val10 0 (d.take (i + 1)) = x * 10 + (c.toNat - 48) := by rw [List.take_add_one, hc, val10_append, ← HX.out]; rfl
      have hyb : x * 10 + (c.toNat - 48) ≤ 100000000000 := by rw [← hstep]; exact Nat.le_trans (val10_take_le d (i + 1)) hv
      have HST := Lib.hid hstep
      have HIK := Lib.hid hik
      have hii : (i : Int) < (s.size : Int) := by omega
      have hi0 : (0 : Int) ≤ (i : Int) := by omega
      have hlt : ¬ (c.toNat : Int) < 48 := by omega
      have hgt : ¬ (57 : Int) < (c.toNat : Int) := by omega
      have hx1 : ¬ (922337203685477580 : Int) < (x : Int) := by omega
      clear hik hs hd hrr hv hc hat hstep
      go_wp2_with fail
      go_roundg m
      case measure => exact Nat.lt_succ_self m
      case rel => exact ⟨i + 1, x * 10 + (c.toNat - 48), by congr 1; omega, by simp, by have := HIK.out; omega, Lib.hid HST.out.symm, HD⟩
/-- Units of time, in nanoseconds. -/
def unitV (u : UInt8) : Nat := if u = 104 then 3600000000000 else if u = 109 then 60000000000 else 1000000000
/-- time's units: hours, minutes, seconds are among them. -/
def UnitM (w : World) : Prop := ∃ b es clk, w.cell? ⟨1, 0, none⟩ = some (.map (some b)) ∧ w.heap[b]? = some (.map es clk) ∧ Vals.TextKeys es ∧ (es.toList.map (·.key)).Nodup ∧
  ∀ u : UInt8, (u = 104 ∨ u = 109 ∨ u = 115) → ∃ e ∈ es.toList, e.key = .string ⟨#[u]⟩ ∧ e.val = .int .u64 (unitV u : Nat)
theorem UnitM.below {w w' : World} (h : UnitM w) (hb : Below w.heap.size w w') : UnitM w' := by
  obtain ⟨b, es, clk, h1, h2, h3, h4, h5⟩ := h
  refine ⟨b, es, clk, ?_, ?_, h3, h4, h5⟩
  · exact (hb.cell (p := ⟨1, 0, none⟩) (World.block_lt_of_cell? w _ h1)).trans h1
  · have : b < w.heap.size := by
      rcases Nat.lt_or_ge b w.heap.size with h | h
      · exact h
      · rw [Array.getElem?_eq_none h] at h2; cases h2
    exact (hb.block b this).trans h2
/-- Whole numbers, each with its unit. -/
def txtP : List (List UInt8 × UInt8) → List UInt8
  | [] => []
  | (d, u) :: r => d ++ u :: txtP r
def totP : List (List UInt8 × UInt8) → Nat
  | [] => 0
  | (d, u) :: r => val10 0 d * unitV u + totP r
def okP (l : List (List UInt8 × UInt8)) : Prop := ∀ q ∈ l, digs q.1 ∧ q.1 ≠ [] ∧ (q.2 = 104 ∨ q.2 = 109 ∨ q.2 = 115) ∧ val10 0 q.1 ≤ 9000000000
theorem txtP_head {l : List (List UInt8 × UInt8)} (h : okP l) : ∀ c t, txtP l = c :: t → 48 ≤ c.toNat ∧ c.toNat ≤ 57 := by
  intro c t e
  cases l with
  | nil => cases e
  | cons q r =>
    obtain ⟨d, u⟩ := q
    obtain ⟨h1, h2, _⟩ := h (d, u) (List.mem_cons_self)
    cases d with
    | nil => exact absurd rfl h2
    | cons x d => simp only [txtP, List.cons_append, List.cons.injEq] at e; exact h1 c (by rw [← e.1]; simp)
set_option maxHeartbeats 4000000 in
theorem parse_walk (ps0 : List (List UInt8 × UInt8)) (s0 : ByteArray) (w : World) (hM : UnitM w) (hs : s0.toList = txtP ps0) (hok : okP ps0) (hne : ps0 ≠ []) (htot : totP ps0 ≤ 9223372036854775807) (hsz : s0.size ≤ 500) :
    Calls Tryd.prog 28 #[.string s0] w fun e w' => e = .returned (.tuple #[.int .i64 (totP ps0 : Nat), .nilIface]) ∧ Drawn0 w w' := by
  have HM := Lib.hid hM
  have HH := Lib.hid (And.intro hs (And.intro hok (And.intro hne htot)))
  -- the first sign is a digit, and not the only one
  obtain ⟨c, hc0, h48, h57⟩ : ∃ c, s0.toList[0]? = some c ∧ 48 ≤ c.toNat ∧ c.toNat ≤ 57 := by
    cases hp : txtP ps0 with
    | nil => cases ps0 with
      | nil => exact absurd rfl hne
      | cons q r => obtain ⟨d, u⟩ := q; simp [txtP] at hp
    | cons c t => rw [hs, hp]; exact ⟨c, rfl, txtP_head hok c t hp⟩
  obtain ⟨hp, hix⟩ := byte_at s0 0 c hc0
  have hs2 : (s0.toList == ([48] : List UInt8)) = false := by
    rw [hs]
    cases ps0 with
    | nil => exact absurd rfl hne
    | cons q r =>
      obtain ⟨d, u⟩ := q
      obtain ⟨_, h2, _⟩ := hok (d, u) (List.mem_cons_self)
      cases d with
      | nil => exact absurd rfl h2
      | cons x d => cases d <;> simp [txtP]
  have hs1 : (s0.toList == ([] : List UInt8)) = false := by
    cases h : s0.toList with
    | nil => rw [h] at hc0; cases hc0
    | cons a t => rfl
  have hb1 : ((c.toNat : Int) == 45) = false := by simp; omega
  have hb2 : ((c.toNat : Int) == 43) = false := by simp; omega
  clear hM hs hok hne htot hc0
  go_enter Tryd.func28, Tryd.ntmps28
  go_wp2_with fail
  go_loopg [0, 5] ps0.length (fun kq v0 v5 wr => ∃ (s : ByteArray) (D : Nat) (ps : List (List UInt8 × UInt8)), v0 = .string s ∧ v5 = .int .u64 (D : Int) ∧ Hid (ps.length = kq ∧ s.toList = txtP ps ∧ okP ps ∧ D + totP ps = totP ps0 ∧ s.size ≤ 500) ∧ Hid (Drawn0 w wr))
  case atStart => exact ⟨s0, 0, ps0, rfl, rfl, Lib.hid ⟨rfl, HH.out.1, HH.out.2.1, by omega, hsz⟩, Lib.hid (by repeat (first | exact Drawn0.refl _ | apply Drawn0.step))⟩
  case round =>
    obtain ⟨s, D, ps, rfl, rfl, H, HD⟩ := hrel
    clear hs1 hs2 hb1 hb2 hix hp h48 h57 hsz
    cases gk with
    | zero =>
      obtain ⟨h1, h2, _, h4, _⟩ := H.out
      obtain rfl : ps = [] := List.eq_nil_of_length_eq_zero h1
      have hnil : (s.toList == ([] : List UInt8)) = true := by rw [h2]; rfl
      have hD : D = totP ps0 := by simpa [totP] using h4
      have hDb : ¬ (9223372036854775807 : Int) < (D : Int) := by have := HH.out.2.2.2; omega
      have hDb2 : (D : Int) ≤ 9223372036854775807 := by omega
      have HDD := Lib.hid hD
      clear h1 h2 h4 hD
      go_wp2_with fail
      refine bodyPost_ret (v := .tuple #[.int .i64 (D : Int), .nilIface]) (by simp [results, Tryd.results28, go_sem]) rfl ?_
      exact ⟨by rw [HDD.out], HD.out⟩
    | succ m =>
      obtain ⟨h1, h2, h3, h4, h5⟩ := H.out
      obtain ⟨⟨d, u⟩, qs, rfl⟩ : ∃ q qs, ps = q :: qs := by
        cases ps with
        | nil => cases h1
        | cons q r => exact ⟨q, r, rfl⟩
      obtain ⟨g1, g2, g3, g4⟩ := h3 (d, u) (List.mem_cons_self)
      simp only at g1 g2 g3 g4
      simp only [txtP] at h2
      have hqs : okP qs := fun q hq => h3 q (List.mem_cons_of_mem _ hq)
      obtain ⟨c, t, hd⟩ : ∃ c t, d = c :: t := by
        cases d with
        | nil => exact absurd rfl g2
        | cons c t => exact ⟨c, t, rfl⟩
      have hc0 : s.toList[0]? = some c := by rw [h2, hd]; rfl
      obtain ⟨hp, hix⟩ := byte_at s 0 c hc0
      obtain ⟨h48, h57⟩ := g1 c (by rw [hd]; simp)
      have hs1 : (s.toList == ([] : List UInt8)) = false := by rw [h2, hd]; rfl
      have hb1 : ((c.toNat : Int) == 46) = false := by simp; omega
      have hb2 : (48 : Int) ≤ (c.toNat : Int) := by omega
      have hb3 : (c.toNat : Int) ≤ 57 := by omega
      have hu57 : 57 < u.toNat := by rcases g3 with rfl | rfl | rfl <;> decide
      have HLI := Lib.hid (fun W => leadingInt_walk d (u :: txtP qs) s W h2 g1 (fun c t e => by injection e with e _; rw [← e]; exact hu57) (by omega) (by omega))
      have HG := Lib.hid (And.intro g1 (And.intro g3 (And.intro g4 (And.intro hqs (And.intro h2 (And.intro h4 h5))))))
      obtain ⟨s1, hs1e⟩ : ∃ s1, s1 = s.extract d.length s.size := ⟨_, rfl⟩
      have ht1 : s1.toList = u :: txtP qs := by rw [hs1e, tl_extract, h2, List.drop_left, List.take_of_length_le]; have := len_eq s; rw [h2] at this; simp at this ⊢; omega
      have hd0 : 0 < d.length := by rw [hd]; simp
      have hsz1 : s1.size < s.size := by have a := len_eq s1; have b := len_eq s; rw [ht1] at a; rw [h2] at b; simp at a b; omega
      have hne1 : ((s.size : Int) != (s1.size : Int)) = true := by simp; omega
      have hs11 : (s1.toList == ([] : List UInt8)) = false := by rw [ht1]; rfl
      obtain ⟨hp1, hix1⟩ := byte_at s1 0 u (by rw [ht1]; rfl)
      have hub : ((u.toNat : Int) == 46) = false := by simp; omega
      have hub2 : (48 : Int) ≤ (u.toNat : Int) := by omega
      have hub3 : ¬ (u.toNat : Int) ≤ 57 := by omega
      rw [← hs1e] at HLI
      have HT1 := Lib.hid (And.intro ht1 (And.intro hsz1 h5))
      have h500 : s1.size ≤ 500 := by omega
      obtain ⟨v, hv⟩ : ∃ v, v = val10 0 d := ⟨_, rfl⟩
      rw [← hv] at HLI
      have HV := Lib.hid hv
      clear h1 h2 h3 h4 h5 g1 g2 g3 g4 hqs hc0 hd hu57 hs1e ht1 hd0 hsz1 hv
      go_wp2_with fail
      refine (HLI.out _).mono ?_
      rintro e w1 ⟨rfl, ⟨nd, rfl⟩⟩
      go_wp2_with fail
      go_loopg [16] 1 (fun kq v16 wq => ∃ i : Nat, v16 = .int .i64 (i : Int) ∧ i + kq = 1 ∧ Hid (Drawn0 w wq))
      case atStart => exact ⟨0, rfl, rfl, Lib.hid (by repeat (first | exact HD.out | apply Drawn0.step))⟩
      case round =>
        obtain ⟨i, rfl, hik, HDq⟩ := hrel
        cases gk with
        | succ m2 =>
          obtain ⟨rfl, rfl⟩ : i = 0 ∧ m2 = 0 := by omega
          clear hik
          go_wp2_with fail
          go_roundg 0
          case measure => exact Nat.lt_succ_self 0
          case rel => exact ⟨1, rfl, rfl, HDq⟩
        | zero =>
          obtain rfl : i = 1 := by omega
          clear hik
          obtain ⟨g1, g3, g4, hqs, h2, h4, h5⟩ := HG.out
          obtain ⟨ht1, hsz1, _⟩ := HT1.out
          obtain ⟨b, es, clk, m1, m2, m3, m4, m5⟩ := HM.out.below HDq.out.below
          obtain ⟨en, hen, hek, hev⟩ := m5 u g3
          have hlook := Vals.run_lookup_yes (P := Tryd.prog) Tryd.underlying70 Tryd.underlying9 m2 m3 ⟨#[u]⟩ hen hek m4 true
          rw [hev] at hlook
          simp only [if_true] at hlook
          have hU : 1000000000 ≤ unitV u ∧ unitV u ≤ 3600000000000 := by rcases g3 with rfl | rfl | rfl <;> decide
          obtain ⟨U, hUe⟩ : ∃ U, U = unitV u := ⟨_, rfl⟩
          rw [← hUe] at hlook hU
          have he1 : s1.extract 0 1 = ⟨#[u]⟩ := by
            apply ext_eq
            rw [tl_extract, ht1, Lib.toList_data]; rfl
          obtain ⟨s2, he2⟩ : ∃ s2, s1.extract 1 s1.size = s2 := ⟨_, rfl⟩
          have ht2 : s2.toList = txtP qs := by rw [← he2, tl_extract, ht1]; simp; rw [List.take_of_length_le]; have := len_eq s1; rw [ht1] at this; simp at this; omega
          have htp : D + (v * U + totP qs) = totP ps0 := by have := h4; simp only [totP] at this; rw [HV.out, hUe]; exact this
          have hmax := HH.out.2.2.2
          obtain ⟨VU, hVU⟩ : ∃ VU, VU = v * U := ⟨_, rfl⟩
          have hvu : VU ≤ 9223372036854775807 := by rw [hVU]; omega
          have hDV : D + VU ≤ 9223372036854775807 := by rw [hVU]; omega
          have hq : ¬ ((9223372036854775808 : Int) / (U : Int) < (v : Int)) := by
            have h1 : v ≤ 9223372036854775808 / U := by rw [Nat.le_div_iff_mul_le (by omega)]; rw [← hVU]; omega
            have h2 : ((9223372036854775808 / U : Nat) : Int) = (9223372036854775808 : Int) / (U : Int) := Int.natCast_ediv _ _
            omega
          have hU0 : ((U : Int) == 0) = false := by simp; omega
          have hU00 : ¬ (U : Int) = 0 := by omega
          have hU01 : (0 : Int) < (U : Int) := by omega
          have hwm : IntKind.u64.wrap ((v : Int) * (U : Int)) = (VU : Int) := by
            rw [show (v : Int) * (U : Int) = ((v * U : Nat) : Int) by rw [Int.natCast_mul], ← hVU]
            exact IntWalk.u64_in _ (by omega)
          have HF := Lib.hid (And.intro ht2 (And.intro hqs (And.intro htp (And.intro hVU (And.intro (show s2.size ≤ 500 by rw [← he2]; simp; omega) h4)))))
          have hs2 : ∀ c t, txtP qs = c :: t → 48 ≤ c.toNat ∧ c.toNat ≤ 57 := txtP_head hqs
          have hUe2 := Lib.hid hUe
          clear g1 g3 g4 h2 h4 h5 m2 m3 m4 m5 hen hek hev htp hmax hVU hUe
          cases hql : txtP qs with
          | nil =>
            have hsm : ¬ (1 : Int) < (s1.size : Int) := by have := len_eq s1; rw [ht1, hql] at this; simp at this; omega
            have hsm2 : (1 : Int) ≤ (s1.size : Int) := by omega
            clear hs2 ht1 ht2 hqs hsz1 hql
            go_wp2_with fail
            go_roundg m
            case measure => exact Nat.lt_succ_self m
            case rel =>
              obtain ⟨f1, f2, f3, f4, f5, _⟩ := HF.out
              exact ⟨s2, D + VU, qs, rfl, by simp, Lib.hid ⟨by have := H.out.1; simpa using this, f1, f2, by omega, f5⟩, HDq⟩
          | cons c2 t2 =>
            have hsm : (1 : Int) < (s1.size : Int) := by have := len_eq s1; rw [ht1, hql] at this; simp at this; omega
            obtain ⟨hp2, hix2⟩ := byte_at s1 1 c2 (by rw [ht1, hql]; rfl)
            obtain ⟨k48, k57⟩ := hs2 c2 t2 hql
            have kb1 : ((c2.toNat : Int) == 46) = false := by simp; omega
            have kb2 : (48 : Int) ≤ (c2.toNat : Int) := by omega
            have kb3 : (c2.toNat : Int) ≤ 57 := by omega
            clear hs2 ht1 ht2 hqs hsz1 hql
            go_wp2_with fail
            go_roundg m
            case measure => exact Nat.lt_succ_self m
            case rel =>
              obtain ⟨f1, f2, f3, f4, f5, _⟩ := HF.out
              exact ⟨s2, D + VU, qs, rfl, by simp, Lib.hid ⟨by have := H.out.1; simpa using this, f1, f2, by omega, f5⟩, HDq⟩
end Go.Proofs.YtjhpjciemfeafaaDoor.Giv
