/- FnSplitn: walks of impl.Splitn and of laws.parted9. -/
import Derived.Test.YtjaeihbfkmflkaaDoorSplW
namespace Go.Proofs.YtjaeihbfkmflkaaDoor.Vals
open Go.RowKit Go.MapKept Go.ChangeMaps Go.Proofs.YtjaeihbfkmflkaaDoorW.PrintWords Go.Proofs.YtjaeihbfkmflkaaDoor.Txt Go.Proofs.YtjaeihbfkmflkaaDoor.Giv Go.Proofs.YtjaeihbfkmflkaaDoor.PFnSplitn
set_option linter.unusedVariables false
set_option maxRecDepth 20000

def DictP (l : List ByteArray) (w : World) (e : Ending) (w' : World) : Prop := ∃ Ak ck Al cl ks vs, e = .returned (.tuple #[.agg #[.int .i64 7, .int .i64 0, .float .f64 0, .string ⟨#[]⟩, .slice Ak l.length ck, .slice Al l.length cl], .bool true]) ∧
  Hid (IsV w' (fun b => w.heap.size ≤ b) (.mk 7 0 0 ⟨#[]⟩ ks vs) [.int .i64 7, .int .i64 0, .float .f64 0, .string ⟨#[]⟩, .slice Ak l.length ck, .slice Al l.length cl]) ∧ Hid (PartsOf l ks vs) ∧ Hid (Below w.heap.size w w')
set_option maxHeartbeats 4000000 in
theorem implSplitn_walk (a0 a2 : ByteArray) (n : Int) (l : List ByteArray) (hl : l.length ≤ 30) (hls : ∀ x ∈ l, x.size ≤ maxLen) (hz : ∃ k, sprig_zzSplitN.f k a2 a0 n = some l) (w : World) (T : Pow10 w) :
    Calls Tryd.prog 15 #[.string a0, .int .i64 n, .string a2] w (DictP l w) := by
  have HB0 := Lib.hid (Box6.new w (.int .i64 0) (.int .i64 0) (.float .f64 0) (.string ⟨#[]⟩) (.slice none 0 0) (.slice none 0 0))
  have hb0 : Below w.heap.size w (w.alloc (.cells #[.int .i64 0, .int .i64 0, .float .f64 0, .string ⟨#[]⟩, .slice none 0 0, .slice none 0 0] 41)) := (Below.refl _ _).alloc (Nat.le_refl _) _
  have HC := Lib.hid (sprigSplitn_walk a0 a2 n l hl hz _ (T.below hb0))
  have HBB := Lib.hid hb0
  have HL := Lib.hid (And.intro hl hls)
  have hsf := store_float
  clear hl hls hz T hb0
  go_enter Tryd.func15, Tryd.ntmps15
  go_wp2_with fail
  refine (HC.out).mono ?_
  rintro e w1 ⟨b, rfl, HM, HB1⟩
  have HT := Lib.hid (textsOf_walk l HL.out.1 HL.out.2 b w1 HM.out.2)
  go_wp2_with fail
  refine (HT.out).mono ?_
  rintro e w4 ⟨k4, l4, ks, vs, rfl, HX4, HPO, HB4⟩
  have hb1 : Below w.heap.size w w1 := HBB.out.trans (HB1.out.mono HBB.out.size)
  have hbx4 := (HB0.out.below HB1.out).below HB4.out
  obtain ⟨⟨Ak, ck, rfl⟩, Al, cl, rfl⟩ : (∃ A c, k4 = .slice A l.length c) ∧ ∃ A c, l4 = .slice A l.length c := by
    obtain ⟨_, h1, h2, _⟩ := HX4.out.parts
    obtain ⟨A, c, h1, _⟩ := h1.form
    obtain ⟨A', c', h2, _⟩ := h2.form
    have e1 : ks.length = l.length := HPO.out.1
    have e2 : vs.length = l.length := HPO.out.2.1
    exact ⟨⟨A, c, by rw [← e1]; exact h1⟩, A', c', by rw [← e2]; exact h2⟩
  obtain ⟨d0, d1, d2, d3, d4, d5⟩ := hbx4.cells
  have fz : ∀ j, w4.frozen? ⟨w.heap.size, j, none⟩ = false := fun j => by unfold Box6 at hbx4; simp [World.frozen?, hbx4]
  obtain ⟨nk, hnk⟩ : ∃ nk, nk = l.length := ⟨_, rfl⟩
  have HN := Lib.hid hnk
  rw [← hnk] at HX4 ⊢
  have HBX4 := Lib.hid hbx4
  have HB41 := Lib.hid hb1
  clear hbx4 hnk hb1
  go_wp2_with fail
  obtain ⟨w5, hw5⟩ : ∃ w5, w5 = (((((w4.setCell ⟨w.heap.size, 0, none⟩ (.int .i64 7)).setCell ⟨w.heap.size, 1, none⟩ (.int .i64 0)).setCell ⟨w.heap.size, 2, none⟩ (.float .f64 0)).setCell ⟨w.heap.size, 3, none⟩ (.string ⟨#[]⟩)).setCell ⟨w.heap.size, 4, none⟩ (.slice Ak nk ck)).setCell ⟨w.heap.size, 5, none⟩ (.slice Al nk cl) := ⟨_, rfl⟩
  rw [← hw5]
  obtain ⟨hb2, ho2, hl2⟩ := set6 HBX4.out _ _ _ _ _ _ hw5
  have e0 : w5.cell? ⟨w.heap.size, 0, none⟩ = some (.int .i64 7) := by rw [blk_cell hb2]; rfl
  have e1 : w5.cell? ⟨w.heap.size, 1, none⟩ = some (.int .i64 0) := by rw [blk_cell hb2]; rfl
  have e2 : w5.cell? ⟨w.heap.size, 2, none⟩ = some (.float .f64 0) := by rw [blk_cell hb2]; rfl
  have e3 : w5.cell? ⟨w.heap.size, 3, none⟩ = some (.string ⟨#[]⟩) := by rw [blk_cell hb2]; rfl
  have e4 : w5.cell? ⟨w.heap.size, 4, none⟩ = some (.slice Ak nk ck) := by rw [blk_cell hb2]; rfl
  have e5 : w5.cell? ⟨w.heap.size, 5, none⟩ = some (.slice Al nk cl) := by rw [blk_cell hb2]; rfl
  refine bodyPost_ret (v := .tuple #[.agg #[.int .i64 7, .int .i64 0, .float .f64 0, .string ⟨#[]⟩, .slice Ak nk ck, .slice Al nk cl], .bool true]) (by simp [results, Tryd.results15, go_sem, e0, e1, e2, e3, e4, e5]) rfl ?_
  have hs1 := HB1.out.size
  have hs0 : w.heap.size + 1 ≤ w1.heap.size := by simpa using hs1
  have kk : Kept w4 w5 (fun b => w1.heap.size ≤ b) (fun b => w.heap.size ≤ b) := fun b hb _ => ⟨by have hb' : w1.heap.size ≤ b := hb; omega, ho2 b (by have hb' : w1.heap.size ≤ b := hb; omega)⟩
  have hx := IsV.keep kk _ HX4.out
  rw [HN.out] at hx
  exact ⟨Ak, ck, Al, cl, ks, vs, by rw [HN.out], Lib.hid hx, HPO, Lib.hid ((HB41.out.trans (HB4.out.mono HB41.out.size)).trans (hl2.mono (by omega)))⟩

/-! ### laws.parted9 -/
theorem number_walk (m : Nat) (h : m ≤ 31) (W : World) : Calls Tryd.prog 30 #[.int .i64 (m : Int)] W fun e w' => e = .returned (.string (itoaB (m : Int))) ∧ Below W.heap.size W w' := by
  obtain ⟨r, h1, h2⟩ := Pure.number_ev m (by omega)
  obtain ⟨k, hk⟩ := Ev.rounds h1
  have e : r = itoaB (m : Int) := by
    apply ext_eq
    rw [h2]
    unfold itoaB
    rw [Lib.toList_data]
  rw [← e]
  exact spec_Number.calls k (m : Int) r W hk
/-- What lies at a place of the dictionary. -/
theorem dict_elem {w : World} {P : Nat → Prop} {l ks : List ByteArray} {vs : List V} {Ak Al : Option Addr} {ck cl : Nat} (hp : PartsOf l ks vs)
    (h : IsV w P (.mk 7 0 0 ⟨#[]⟩ ks vs) [.int .i64 7, .int .i64 0, .float .f64 0, .string ⟨#[]⟩, .slice Ak l.length ck, .slice Al l.length cl]) (k : Nat) (hk : k < l.length) :
    ∃ kb ko lb lo q u, Ak = some ⟨kb, ko, none⟩ ∧ kb < w.heap.size ∧ w.cell? ⟨kb, ko + k, none⟩ = some (.string q) ∧ Al = some ⟨lb, lo, none⟩ ∧ lb < w.heap.size ∧
      w.cell? ⟨lb, lo + k * 6, none⟩ = some (.int .i64 5) ∧ w.cell? ⟨lb, lo + k * 6 + 3, none⟩ = some (.string u) ∧ (ks.zip vs)[k]? = some (q, textV u) := by
  obtain ⟨h1, h2, h3, h4, h5⟩ := hp
  obtain ⟨xs, g1, g2, g3, _⟩ := h.parts
  have e1 : (V.mk 7 0 0 ⟨#[]⟩ ks vs).ks = ks := rfl
  have e2 : (V.mk 7 0 0 ⟨#[]⟩ ks vs).l = vs := rfl
  rw [e1, h1] at g1
  rw [e2] at g2 g3
  obtain ⟨kb, ko, hA, _, hc⟩ := g1.elem (by omega)
  have hkk : k < ks.length := by omega
  have hkv : k < vs.length := by omega
  have c1 := hc k (.string ks[k]) (by simp [hkk])
  rw [← h2] at g2
  obtain ⟨lb, lo, kv, lv, hA', hlb, _, _, d0, d1, d2, d3, d4, d5⟩ := IsVs.elem g2 g3 k hkv
  obtain ⟨u, hu⟩ := h4 _ (List.getElem_mem hkv)
  rw [hu] at d0 d3
  refine ⟨kb, ko, lb, lo, ks[k], u, hA, World.block_lt_of_cell? w _ c1, c1, hA', hlb, d0, d3, ?_⟩
  rw [List.getElem?_eq_getElem (by rw [List.length_zip]; omega), List.getElem_zip, hu]
set_option maxHeartbeats 4000000 in
theorem parted9_walk (l ks : List ByteArray) (vs : List V) (hp : PartsOf l ks vs) (hl : l.length ≤ 30) (Ak Al : Option Addr) (ck cl : Nat) (P : Nat → Prop) (w : World)
    (h : IsV w P (.mk 7 0 0 ⟨#[]⟩ ks vs) [.int .i64 7, .int .i64 0, .float .f64 0, .string ⟨#[]⟩, .slice Ak l.length ck, .slice Al l.length cl]) (A : Option Addr) (c : Nat) (hc : Kd.C Kd.string w A l.length l) :
    Calls Tryd.prog 16 #[.agg #[.int .i64 7, .int .i64 0, .float .f64 0, .string ⟨#[]⟩, .slice Ak l.length ck, .slice Al l.length cl], .slice A l.length c] w fun e w' => e = .returned (.bool true) ∧ Below w.heap.size w w' := by
  have HEL := Lib.hid (dict_elem hp h)
  have HP := Lib.hid hp.2.2.1
  have HZL : Hid ((ks.zip vs).length = l.length) := Lib.hid (by rw [List.length_zip, hp.1, hp.2.1]; omega)
  have HC := Lib.hid hc
  clear h hp hc
  obtain ⟨N, hN⟩ : ∃ N, N = l.length := ⟨_, rfl⟩
  rw [← hN] at hl HC ⊢
  have HN := Lib.hid hN
  have HW : Hid (∀ o, Below w.heap.size w (w.alloc o)) := Lib.hid fun o => (Below.refl _ _).alloc (Nat.le_refl _) o
  have HB0 := Lib.hid (Box6.new w (.int .i64 7) (.int .i64 0) (.float .f64 0) (.string ⟨#[]⟩) (.slice Ak N ck) (.slice Al N cl))
  have hsf := store_float
  clear hN
  go_enter Tryd.func16, Tryd.ntmps16
  go_wp2_with fail
  go_loopg [29] N (fun kq v29 wr => ∃ (i : Nat), v29 = .int .i64 (i : Int) ∧ i + kq = N ∧ Hid (Box6 wr w.heap.size (.int .i64 7) (.int .i64 0) (.float .f64 0) (.string ⟨#[]⟩) (.slice Ak N ck) (.slice Al N cl)) ∧ Hid (Below w.heap.size w wr))
  case atStart => exact ⟨0, rfl, by omega, HB0, Lib.hid (HW.out _)⟩
  case round =>
    obtain ⟨i, rfl, hik, HBX, HB⟩ := hrel
    cases gk with
    | zero =>
      have hi : ¬ (i : Int) < (N : Int) := by omega
      clear hik
      go_wp2_with fail
      go_ret
      exact ⟨rfl, HB.out⟩
    | succ m =>
      have hi : (i : Int) < (N : Int) := by omega
      have hi' : i < l.length := by have := HN.out; omega
      obtain ⟨K, hK, hKz⟩ := List.mem_iff_getElem.1 (HP.out i hi')
      have HK : Hid (K < N ∧ (ks.zip vs)[K]? = some (keyN i, textV l[i])) := Lib.hid ⟨by have := HZL.out; have := HN.out; omega, by rw [List.getElem?_eq_getElem hK, hKz]⟩
      have HIK := Lib.hid hik
      have c4 := HBX.out.cells.2.2.2.2.1
      have hi31 : i ≤ 31 := by omega
      clear hik hK hKz
      go_wp2_with fail
      go_loopg [6, 35] N (fun kq v6 v35 wx => ∃ (k : Nat) (fb : Bool), v6 = .bool fb ∧ v35 = .int .i64 (k : Int) ∧ k + kq = N ∧ Hid (fb = false → k ≤ K) ∧ Hid (Box6 wx w.heap.size (.int .i64 7) (.int .i64 0) (.float .f64 0) (.string ⟨#[]⟩) (.slice Ak N ck) (.slice Al N cl)) ∧ Hid (Below w.heap.size w wx))
      case atStart => exact ⟨0, false, rfl, rfl, by omega, Lib.hid (fun _ => Nat.zero_le _), HBX, HB⟩
      case round =>
        obtain ⟨k, fb, rfl, rfl, hkk, HF, HBY, HBB⟩ := hrel
        cases gk with
        | zero =>
          have hk : ¬ (k : Int) < (N : Int) := by omega
          have hfb : fb = true := by
            cases fb with
            | true => rfl
            | false => have := HF.out rfl; have := HK.out.1; omega
          subst hfb
          clear hkk
          go_wp2_with fail
          go_roundg m
          case measure => exact Nat.lt_succ_self m
          case rel => exact ⟨i + 1, by simp, by have := HIK.out; omega, HBY, HBB⟩
        | succ mm =>
          have hk : (k : Int) < (N : Int) := by omega
          have hk0 : (0 : Int) ≤ (k : Int) := by omega
          have HKK := Lib.hid hkk
          clear hkk
          obtain ⟨kb, ko, lb, lo, q, u, hA, hkb, k0, hL, hlb, l0, l3, hz⟩ := HEL.out k (by have := HN.out; omega)
          subst hA hL
          obtain ⟨ad, rfl, _⟩ := getD_str HC.out i (by omega)
          obtain ⟨li, hli⟩ : ∃ li, li = l[i] := ⟨_, rfl⟩
          have hbxl := HBY.out.lt
          obtain ⟨b0, b1, b2, b3, b4, b5⟩ := HBY.out.cells
          have hs1 := HBB.out.size
          have d4 : ∀ x : Near wr.heap.size wr, x.W.cell? ⟨w.heap.size, 4, none⟩ = some (.slice (some ⟨kb, ko, none⟩) N ck) := fun x => x.cell hbxl b4
          have d5 : ∀ x : Near wr.heap.size wr, x.W.cell? ⟨w.heap.size, 5, none⟩ = some (.slice (some ⟨lb, lo, none⟩) N cl) := fun x => x.cell hbxl b5
          have g0 : ∀ x : Near wr.heap.size wr, x.W.cell? ⟨kb, ko + k, none⟩ = some (.string q) := fun x => x.cell (by omega) ((HBB.out.cell (p := ⟨kb, ko + k, none⟩) hkb).trans k0)
          have g1 : ∀ x : Near wr.heap.size wr, x.W.cell? ⟨lb, lo + k * 6, none⟩ = some (.int .i64 5) := fun x => x.cell (by omega) ((HBB.out.cell (p := ⟨lb, lo + k * 6, none⟩) hlb).trans l0)
          have g2 : ∀ x : Near wr.heap.size wr, x.W.cell? ⟨lb, lo + k * 6 + 3, none⟩ = some (.string u) := fun x => x.cell (by omega) ((HBB.out.cell (p := ⟨lb, lo + k * 6 + 3, none⟩) hlb).trans l3)
          have g3 : ∀ x : Near wr.heap.size wr, x.W.cell? (ad.add i) = some (.string li) := fun x => by
            obtain ⟨ad', e, hc⟩ := getD_str (Kd.C_below HC.out (HBB.out.trans (x.h.mono hs1))) i (by omega)
            injection e with e
            subst e
            rw [hc, hli, List.getD_eq_getElem?_getD, List.getElem?_eq_getElem hi']; rfl
          have HCN : Hid (∀ x : Near wr.heap.size wr, Calls Tryd.prog 30 #[.int .i64 (i : Int)] x.W fun e w' => e = .returned (.string (itoaB (i : Int))) ∧ ∃ y : Near wr.heap.size wr, w' = y.W) := Lib.hid fun x =>
            (number_walk i hi31 x.W).mono fun e w' ⟨he, hB⟩ => ⟨he, x.of hB (Nat.le_refl _)⟩
          have hconc : (⟨#[95]⟩ : ByteArray) ++ itoaB (i : Int) = keyN i := rfl
          have c1 : (9223372036854775807 < 1 + (itoaB (i : Int)).size) = False := eq_false (by
            have h1 : (keyN i).size ≤ 20 := keyN_small ⟨i, by omega⟩
            unfold keyN at h1
            rw [size_append] at h1
            omega)
          have HZ := Lib.hid hz
          have HLI := Lib.hid hli
          clear b0 b1 b2 b3 b4 b5 hs1 hbxl k0 l0 l3 hz hli hkb hlb
          go_upto_region 10 with fail
          cases fb with
          | true =>
            refine wp_region_near wr.heap.size wr (by kernel_rfl) (by kernel_rfl) (Below.refl _ _) ?_
            repeat (go_big_quiet_step (fail))
            refine wpQuiet_nil ?_
            intro _ hw'
            obtain ⟨⟨W1, hW1⟩, rfl⟩ := hw'
            have HB1 := Lib.hid (HBB.out.trans (hW1.mono HBB.out.size))
            have HBX1 := Lib.hid (HBY.out.below hW1)
            clear hW1
            go_wp2_with fail
            go_roundg mm
            case measure => exact Nat.lt_succ_self mm
            case rel => exact ⟨k + 1, true, rfl, by simp, by have := HKK.out; omega, Lib.hid (fun h => by cases h), HBX1, HB1⟩
          | false =>
            cases hq : (q.toList == (keyN i).toList) with
            | false =>
              refine wp_region_near wr.heap.size wr (by kernel_rfl) (by kernel_rfl) (Below.refl _ _) ?_
              repeat (go_big_quiet_step ((exact HCN.out _)))
              refine wpQuiet_nil ?_
              intro _ hw'
              obtain ⟨⟨W1, hW1⟩, rfl⟩ := hw'
              have HB1 := Lib.hid (HBB.out.trans (hW1.mono HBB.out.size))
              have HBX1 := Lib.hid (HBY.out.below hW1)
              have HQ := Lib.hid hq
              clear hW1
              go_wp2_with fail
              go_roundg mm
              case measure => exact Nat.lt_succ_self mm
              case rel =>
                refine ⟨k + 1, false, rfl, by simp, by have := HKK.out; omega, Lib.hid (fun _ => ?_), HBX1, HB1⟩
                rcases Nat.lt_or_ge k K with h | h
                · exact h
                · exfalso
                  have e : k = K := Nat.le_antisymm (HF.out (by simp)) h
                  have h1 := HZ.out
                  rw [e, HK.out.2] at h1
                  simp only [Option.some.injEq, Prod.mk.injEq] at h1
                  have h2 := HQ.out
                  rw [← h1.1] at h2
                  simp at h2
            | true =>
              cases ht : (u.toList == li.toList) with
              | true =>
                refine wp_region_near wr.heap.size wr (by kernel_rfl) (by kernel_rfl) (Below.refl _ _) ?_
                repeat (go_big_quiet_step ((exact HCN.out _)))
                refine wpQuiet_nil ?_
                intro _ hw'
                obtain ⟨⟨W1, hW1⟩, rfl⟩ := hw'
                have HB1 := Lib.hid (HBB.out.trans (hW1.mono HBB.out.size))
                have HBX1 := Lib.hid (HBY.out.below hW1)
                clear hW1
                go_wp2_with fail
                go_roundg mm
                case measure => exact Nat.lt_succ_self mm
                case rel => exact ⟨k + 1, true, rfl, by simp, by have := HKK.out; omega, Lib.hid (fun h => by cases h), HBX1, HB1⟩
              | false =>
                refine wp_region_near wr.heap.size wr (by kernel_rfl) (by kernel_rfl) (Below.refl _ _) ?_
                repeat (go_big_quiet_step ((exact HCN.out _)))
                refine wpQuiet_nil ?_
                intro _ hw'
                obtain ⟨⟨W1, hW1⟩, rfl⟩ := hw'
                have HB1 := Lib.hid (HBB.out.trans (hW1.mono HBB.out.size))
                have HBX1 := Lib.hid (HBY.out.below hW1)
                have HQ := Lib.hid ht
                clear hW1
                go_wp2_with fail
                go_roundg mm
                case measure => exact Nat.lt_succ_self mm
                case rel =>
                  refine ⟨k + 1, false, rfl, by simp, by have := HKK.out; omega, Lib.hid (fun _ => ?_), HBX1, HB1⟩
                  rcases Nat.lt_or_ge k K with h | h
                  · exact h
                  · exfalso
                    have e : k = K := Nat.le_antisymm (HF.out (by simp)) h
                    have h1 := HZ.out
                    rw [e, HK.out.2] at h1
                    simp only [Option.some.injEq, Prod.mk.injEq] at h1
                    have h2 := HQ.out
                    have h3 := h1.2
                    unfold textV at h3
                    injection h3 with _ _ _ h3 _ _
                    rw [← h3, HLI.out] at h2
                    simp at h2
end Go.Proofs.YtjaeihbfkmflkaaDoor.Vals
