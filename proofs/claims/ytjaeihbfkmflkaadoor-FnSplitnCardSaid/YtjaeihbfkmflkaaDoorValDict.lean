/- Walk of impl.dictOf: a Go map becomes keys that ascend and their values. -/
import Derived.Test.YtjaeihbfkmflkaaDoorVA
import Derived.Test.YtjaeihbfkmflkaaDoorShelfS
import Derived.OwnWalk
import Derived.Deep.DeepMust
import Derived.Deep.RegionLaw
namespace Go.Proofs.YtjaeihbfkmflkaaDoor.Vals
open Go.RowKit Go.ChangeMaps Go.Proofs.YtjaeihbfkmflkaaDoorW.PrintWords Go.Proofs.YtjaeihbfkmflkaaDoor.Txt
open Go.Proofs (encStr)
set_option linter.unusedVariables false
set_option maxRecDepth 20000

theorem textInfo : (Tryd.prog.info? 9).map (fun i => (i.zero, i.size, i.bytes)) = some (some (.string ⟨#[]⟩), 1, 16) := by kernel_rfl

theorem len_le {α : Type} : ∀ {l : List α}, l.Nodup → ∀ (m : List α), (∀ x ∈ l, x ∈ m) → l.length ≤ m.length
  | [], _, m, _ => Nat.zero_le _
  | x :: l, h, m, hs => by
    obtain ⟨s, t, rfl⟩ := List.append_of_mem (hs x (by simp))
    have hn := List.nodup_cons.1 h
    have := len_le hn.2 (s ++ t) (fun y hy => by
      have h1 := hs y (by simp [hy])
      have h2 : y ≠ x := fun e => hn.1 (e ▸ hy)
      simpa [h2] using h1)
    simp only [List.length_append, List.length_cons] at this ⊢
    omega
/-- sort.Strings at a slice of the call's own, empty or not. -/
theorem sort_any {base : Nat} {ss : List (List UInt8)} {v : Value} {w : World} (h : w.ownsRow base 9 1 v ss.length (ss.map encStr)) (hs : ss.length < 4611686018427387904) : Calls Tryd.prog 50 #[v] w fun e w' =>
    e = .returned (.tuple #[]) ∧ Hid (w'.ownsRow base 9 1 v ss.length ((ss.mergeSort fun x y => decide (x ≤ y)).map encStr)) ∧ Hid (w.grownBy w' v.ownBlock) := by
  rcases h.2 with ⟨rfl, hn⟩ | ⟨g, cap, cur, rfl, hbase, hb, h1, h2, h3, h4⟩
  · obtain rfl : ss = [] := List.eq_nil_of_length_eq_zero hn
    refine (Tryd.sort_Strings_none none 0 w).mono ?_
    rintro e w' ⟨rfl, rfl⟩
    exact ⟨rfl, Lib.hid (by simpa using h), Lib.hid ⟨rfl, rfl, rfl, Nat.le_refl _, fun _ _ _ => rfl⟩⟩
  · refine (Tryd.sort_Strings g 0 cap ss w (holds_of_block hb (by simpa using h4)) (blk_lt hb) hs).mono ?_
    rintro e w' ⟨rfl, n, os, rfl⟩
    exact ⟨rfl, Lib.hid (ownsRow_sorted (by simp) hbase hb h1 h2 h3), Lib.hid (grownBy_sorted _)⟩

/-- The step of dictOf's second loop: a value is appended, the slice laid back into its box. -/
theorem dict_store {S g n cap i cap' g' : Nat} {G' : Option Addr} {c0 c1 c2 c3 z0 z1 z2 z3 z4 z5 : Value} {kv ys : List Value} {m : List V} {v : V} {cs : Array Value} {w wr w1 w2 : World}
    (hbx : Box6 wr (S + 1) c0 c1 c2 c3 (.slice (some ⟨g, 0, none⟩) n cap) (.slice G' i cap')) (hr : Box6 wr S z0 z1 z2 z3 z4 z5) (hrow : wr.ownsRow (S + 3) 9 1 (.slice (some ⟨g, 0, none⟩) n cap) n kv)
    (hys : wr.ownsRow (S + 3) 41 6 (.slice G' i cap') i ys) (his : IsVs wr (fun b => S + 3 ≤ b ∧ G'.map (·.block) ≠ some b) m ys) (hbe : Below S w wr) (hsz : S + 3 ≤ wr.heap.size) (hb1 : Below wr.heap.size wr w1) (hx : IsV w1 (fun b => wr.heap.size ≤ b) v cs.toList)
    (hgrow : (w1.alloc (.cells cs 41)).grownBy w2 (Value.slice G' i cap').ownBlock) (hat : (Value.slice G' i cap').ownBlock = some g' ∨ g' = (w1.alloc (.cells cs 41)).heap.size) :
    w2.cell? ⟨S + 1, 5, none⟩ = some (.slice G' i cap') ∧ w2.frozen? ⟨S + 1, 5, none⟩ = false ∧ Hid (∀ (nc : Nat) (w3 : World), w3 = w2.setCell ⟨S + 1, 5, none⟩ (.slice (some ⟨g', 0, none⟩) (i + 1) nc) → w2.ownsRow (S + 3) 41 6 (.slice (some ⟨g', 0, none⟩) (i + 1) nc) (i + 1) (ys ++ cs.toList) →
      Box6 w3 S z0 z1 z2 z3 z4 z5 ∧ Box6 w3 (S + 1) c0 c1 c2 c3 (.slice (some ⟨g, 0, none⟩) n cap) (.slice (some ⟨g', 0, none⟩) (i + 1) nc) ∧ w3.ownsRow (S + 3) 9 1 (.slice (some ⟨g, 0, none⟩) n cap) n kv ∧
      w3.ownsRow (S + 3) 41 6 (.slice (some ⟨g', 0, none⟩) (i + 1) nc) (i + 1) (ys ++ cs.toList) ∧ IsVs w3 (fun b => S + 3 ≤ b ∧ (some (⟨g', 0, none⟩ : Addr)).map (·.block) ≠ some b) (m ++ [v]) (ys ++ cs.toList) ∧ Below S w w3 ∧ S + 3 ≤ w3.heap.size) := by
  have hob : (Value.slice G' i cap').ownBlock = G'.map (·.block) := by cases G' <;> rfl
  have hg1 : ∀ g, G'.map (·.block) = some g → S + 3 ≤ g ∧ g < wr.heap.size := fun g hg => hys.lt g (by rw [hob]; exact hg)
  have hs1 := hb1.size
  have hsa : (w1.alloc (.cells cs 41)).heap.size = w1.heap.size + 1 := by simp
  have hs2 := hgrow.size
  rw [hob] at hgrow hat
  rw [hsa] at hat hs2
  have hk1 : ∀ j, j < w1.heap.size → G'.map (·.block) ≠ some j → w2.heap[j]? = w1.heap[j]? := fun j hj hn => by
    rw [hgrow.block j (by omega) (Ne.symm hn), Below.heap_alloc _ _ _ hj]
  have hk2 : ∀ j, j < wr.heap.size → G'.map (·.block) ≠ some j → w2.heap[j]? = wr.heap[j]? := fun j hj hn => (hk1 j (by omega) hn).trans (hb1.block j hj)
  have hlow : ∀ j, j < S + 3 → G'.map (·.block) ≠ some j := fun j hj e => by have := (hg1 j e).1; omega
  have hbx2 : Box6 w2 (S + 1) c0 c1 c2 c3 (.slice (some ⟨g, 0, none⟩) n cap) (.slice G' i cap') := (hk2 _ (by omega) (hlow _ (by omega))).trans hbx
  have hr2 : Box6 w2 S z0 z1 z2 z3 z4 z5 := (hk2 _ (by omega) (hlow _ (by omega))).trans hr
  refine ⟨hbx2.cells.2.2.2.2.2, by unfold Box6 at hbx2; simp [World.frozen?, hbx2], Lib.hid fun nc w3 hw3 hown => ?_⟩
  have hb3 := blk_set hbx2 5 (.slice (some ⟨g', 0, none⟩) (i + 1) nc)
  rw [← hw3] at hb3
  have hoth3 : ∀ j, j ≠ S + 1 → w3.heap[j]? = w2.heap[j]? := fun j hj => by rw [hw3, Below.heap_setCell _ _ _ _ hj]
  have hsz3 : w3.heap.size = w2.heap.size := by rw [hw3]; simp
  have hbe3 : Below (S + 1) w2 w3 := by rw [hw3]; exact (Below.refl _ _).setCell (p := ⟨S + 1, 5, none⟩) (Nat.le_refl _) _
  have hgr3 : w2.grownBy w3 (some (S + 1)) := ⟨hbe3.os, hbe3.tape, hbe3.output, hbe3.size, fun j hj hjr => hoth3 j (fun e => hjr (by rw [e]))⟩
  have hgp : S + 3 ≤ g' := by rcases hat with h | h; exact (hg1 _ h).1; omega
  have hne : ∀ b, b < w1.heap.size + 1 → G'.map (·.block) ≠ some b → b ≠ g' := fun b hb h e => by
    rcases hat with h' | h'
    · exact h (by rw [h', e])
    · omega
  have hrow1 : w1.ownsRow (S + 3) 9 1 (.slice (some ⟨g, 0, none⟩) n cap) n kv := hrow.kept (grown_of_below hb1 none) (by simp [Value.ownBlock])
  have hys1 : w1.ownsRow (S + 3) 41 6 (.slice G' i cap') i ys := hys.kept (grown_of_below hb1 none) (by cases G' <;> simp [Value.ownBlock])
  have hrow2 := (hrow1.alloc (.cells cs 41)).kept hgrow (by rw [← hob]; exact own_type_ne (hrow1.alloc (.cells cs 41)) (hys1.alloc (.cells cs 41)) (by decide))
  have k2 : Kept wr w3 (fun b => S + 3 ≤ b ∧ G'.map (·.block) ≠ some b) (fun b => S + 3 ≤ b ∧ (some (⟨g', 0, none⟩ : Addr)).map (·.block) ≠ some b) := fun b ⟨hb1', hb2⟩ hb3 => by
    refine ⟨⟨hb1', fun e => hne b (by omega) hb2 (by simpa using e.symm)⟩, ?_⟩
    rw [hoth3 b (by omega), hk2 b hb3 hb2]
  have k3 : Kept w1 w3 (fun b => wr.heap.size ≤ b) (fun b => S + 3 ≤ b ∧ (some (⟨g', 0, none⟩ : Addr)).map (·.block) ≠ some b) := fun b hb1' hb3 => by
    have hb1'' : wr.heap.size ≤ b := hb1'
    have hG : G'.map (·.block) ≠ some b := fun e => by have := (hg1 b e).2; omega
    refine ⟨⟨by omega, fun e => hne b (by omega) hG (by simpa using e.symm)⟩, ?_⟩
    rw [hoth3 b (by omega), hk1 b hb3 hG]
  refine ⟨(hoth3 _ (by omega)).trans hr2, by unfold Box6; simpa using hb3, hrow2.kept hgr3 (.inr (row_ne_low (b := S + 1) hrow2 (by omega)).symm), hown.kept hgr3 (.inr (row_ne_low (b := S + 1) hown (by omega)).symm), IsVs.snoc (IsVs.keep k2 _ his) (IsV.keep k3 _ hx), ?_, by omega⟩
  exact (((hbe.trans (hb1.mono (by omega))).alloc (by omega) _).grown hgrow (by simp; omega) (fun k hk => by have := (hg1 k hk).1; omega)).trans (hbe3.mono (by omega))

set_option maxHeartbeats 4000000 in
theorem dictOf_step (ks : List ByteArray) (l : List V) (hasc : Asc ks) (hks : ∀ x ∈ ks, x.size ≤ maxLen) (hok : ∀ i (h : i < l.length), ValueOfOk l[i]) (h300 : l.length ≤ 100000) : DictOfOk ks l := by
  intro b P w h
  obtain ⟨es, clk, xs, hP, hb, hborn, hnd, hsz, hlen, hperm, hg⟩ := h
  obtain ⟨j0, hj0, jz0, jz1, jz2⟩ := info_parts textInfo
  obtain ⟨i0, hi0, hz0, hz1, hz2⟩ := info_parts valueInfo
  have hxl : xs.length = ks.length := by rw [hg.len]; omega
  have hkp := keys_perm hperm (by omega)
  have HASC := Lib.hid hasc
  have HOK := Lib.hid hok
  have HKS := Lib.hid hks
  have HG := Lib.hid hg
  have HPERM := Lib.hid hperm
  have HKP := Lib.hid hkp
  have HXL := Lib.hid hxl
  have HLEN := Lib.hid hlen
  have hbl : b < w.heap.size := blk_lt hb
  have HBL := Lib.hid hbl
  have HB := Lib.hid hb
  have HBORN := Lib.hid hborn
  have HND := Lib.hid hnd
  have hel : es.toList.length = ks.length := by have := hkp.length_eq; simpa using this
  have HEL := Lib.hid hel
  have HLE : Hid (∀ done : List MapEntry, (done.map (·.born)).Nodup → (∀ e ∈ done, e ∈ es.toList) → done.length ≤ ks.length) := Lib.hid fun done h1 h2 => by
    have hd : done.Nodup := (List.pairwise_map.1 h1).imp fun hne e => hne (by rw [e])
    have := len_le hd es.toList (fun e he => h2 e he)
    omega
  clear hasc hok hks hg hperm hborn hnd hsz hb hP hbl hkp hxl hlen hel
  have hsf := store_float
  go_enter Tryd.func37, Tryd.ntmps37
  go_wp2_with (at_range; go_must (refine wpList_range_at _ rfl _ _ rfl _ _ Tryd.underlying66 b es clk rfl ((((((Below.refl w.heap.size w).alloc (Nat.le_refl _) _).alloc (by simp) _).block b HBL.out)).trans HB.out) (w.heap.size + 2) (by simp) ?_))
  go_frame
  go_loopg [4] (leftOf es #[]).size (fun kq v4 wr => ∃ (seen : Array Nat) (done : List MapEntry) (G : Option Addr) (cap : Nat), (leftOf es seen).size = kq ∧ Hid (Seen es seen done) ∧ Hid (wr.heap[w.heap.size + 2]? = some (.mapIter (some b) clk seen clk)) ∧
    Hid (Box6 wr w.heap.size (.int .i64 0) (.int .i64 0) (.float .f64 0) (.string ⟨#[]⟩) (.slice none 0 0) (.slice none 0 0)) ∧
    Hid (Box6 wr (w.heap.size + 1) (.int .i64 7) (.int .i64 0) (.float .f64 0) (.string ⟨#[]⟩) (.slice G done.length cap) (.slice none 0 0)) ∧
    Hid (wr.ownsRow (w.heap.size + 3) 9 1 (.slice G done.length cap) done.length (done.map (·.key))) ∧ Hid (Below w.heap.size w wr) ∧ Hid (w.heap.size + 3 ≤ wr.heap.size))
  case atStart =>
    refine ⟨#[], [], none, 0, rfl, Lib.hid (Seen.start es), Lib.hid ?_, Lib.hid ((Box6.new w _ _ _ _ _ _).below (((Below.refl _ _).alloc (Nat.le_refl _) _).alloc (by simp) _)), Lib.hid ?_, Lib.hid (World.ownsRow_nil _ _ _ _), Lib.hid ((((Below.refl _ _).alloc (Nat.le_refl _) _).alloc (by simp) _).alloc (by simp; omega) _), Lib.hid (by simp)⟩
    · have h := heap_alloc_new ((w.alloc (.cells #[.int .i64 0, .int .i64 0, .float .f64 0, .string ⟨#[]⟩, .slice none 0 0, .slice none 0 0] 41)).alloc (.cells #[.int .i64 7, .int .i64 0, .float .f64 0, .string ⟨#[]⟩, .slice none 0 0, .slice none 0 0] 41)) (.mapIter (some b) clk #[] clk)
      simpa using h
    · have h := (Box6.new (w.alloc (.cells #[.int .i64 0, .int .i64 0, .float .f64 0, .string ⟨#[]⟩, .slice none 0 0, .slice none 0 0] 41)) (.int .i64 7) (.int .i64 0) (.float .f64 0) (.string ⟨#[]⟩) (.slice none 0 0) (.slice none 0 0)).below ((Below.refl _ _).alloc (Nat.le_refl _) (.mapIter (some b) clk #[] clk))
      rw [World.size_alloc] at h
      exact h
  case round =>
    obtain ⟨seen, done, G, cap, hkq, HSN, HIT, HR, HBX, HOW, HBE, HSZ⟩ := hrel
    have HKQ := Lib.hid hkq
    clear hkq
    go_wp2_with (at_next; refine wpList_next_at _ rfl _ rfl (w.heap.size + 2) b clk seen es done rfl HIT.out ((HBE.out.block b HBL.out).trans HB.out) (fun x hx => HBORN.out x (by simpa using hx)) (by have := HBL.out; omega) HND.out HSN.out ?_ ?_)
    · intro h0
      have hdp := HSN.out.done HND.out (by rw [h0.out]; rfl)
      have hdl : done.length = ks.length := by rw [← HEL.out]; exact hdp.length_eq
      have hrow := HOW.out
      have hbx := HBX.out
      rw [keys_enc HKP.out HSN.out.mem] at hrow
      obtain ⟨ss, hss⟩ : ∃ ss, ss = done.map fun e => keyText e.key := ⟨_, rfl⟩
      rw [← hss] at hrow
      have hsl : ss.length = done.length := by rw [hss, List.length_map]
      have hsorted := sorted_keys HASC.out (ss := ss) (by rw [hss]; exact (hdp.map _).trans (keyTexts_perm HKP.out))
      have hkl : ks.length ≤ 100000 := by rw [HLEN.out]; exact h300
      rw [hdl] at hbx hrow hsl
      rw [← hsl] at hrow
      have HSORT := Lib.hid (sort_any hrow (by omega))
      have HSS := Lib.hid (And.intro hsorted hsl)
      obtain ⟨c0, c1, c2, c3, c4, c5⟩ := hbx.cells
      rw [hsl] at HSORT
      obtain ⟨n, hn⟩ : ∃ n, n = ks.length := ⟨_, rfl⟩
      rw [← hn] at c4 hkl HSORT
      have HN := Lib.hid hn
      have HBX2 := Lib.hid hbx
      clear HBX HOW h0 hdp hdl hrow hss hsorted hsl hbx hn
      go_wp2_with fail
      refine (HSORT.out).mono ?_
      rintro e w1 ⟨rfl, HS1, HS2⟩
      have hrow1 := HS1.out
      rw [HSS.out.1, enc_keys] at hrow1
      have hgr1 := HS2.out
      have hlow : ∀ j, j < w.heap.size + 3 → some j ≠ (Value.slice G n cap).ownBlock := fun j hj => row_ne_low hrow1 hj
      have hsz1 := HSZ.out
      have hbx1 : Box6 w1 (w.heap.size + 1) (.int .i64 7) (.int .i64 0) (.float .f64 0) (.string ⟨#[]⟩) (.slice G n cap) (.slice none 0 0) := (hgr1.block _ (by omega) (hlow _ (by omega))).trans (by rw [HN.out]; exact HBX2.out)
      have hr1 : Box6 w1 w.heap.size (.int .i64 0) (.int .i64 0) (.float .f64 0) (.string ⟨#[]⟩) (.slice none 0 0) (.slice none 0 0) := (hgr1.block _ (by omega) (hlow _ (by omega))).trans HR.out
      have hbe1 : Below w.heap.size w w1 := HBE.out.grown hgr1 (by omega) (fun k hk => by
        have := (hrow1.lt k hk).1; omega)
      have hs1 : w.heap.size + 3 ≤ w1.heap.size := by have := hgr1.size; omega
      have d4 := hbx1.cells.2.2.2.2.1
      have HBX1 := Lib.hid hbx1
      have HR1 := Lib.hid hr1
      have HBE1 := Lib.hid hbe1
      have HROW1 := Lib.hid hrow1
      have HS1' := Lib.hid hs1
      clear hrow1 hgr1 hlow hsz1 hbx1 hr1 hbe1 hs1 HS1 HS2 c0 c1 c2 c3 c4 c5 HBX2 HSORT HSS HR HBE HSZ HIT HSN
      go_wp2_with fail
      go_loopg [6, 26] n (fun kq v6 v26 wr => ∃ (i : Nat) (G' : Option Addr) (cap' : Nat) (ys : List Value), v26 = .int .i64 (i : Int) ∧ i + kq = n ∧
        Hid (Box6 wr w.heap.size (.int .i64 0) (.int .i64 0) (.float .f64 0) (.string ⟨#[]⟩) (.slice none 0 0) (.slice none 0 0)) ∧
        Hid (Box6 wr (w.heap.size + 1) (.int .i64 7) (.int .i64 0) (.float .f64 0) (.string ⟨#[]⟩) (.slice G n cap) (.slice G' i cap')) ∧
        Hid (wr.ownsRow (w.heap.size + 3) 9 1 (.slice G n cap) n (ks.map .string)) ∧ Hid (wr.ownsRow (w.heap.size + 3) 41 6 (.slice G' i cap') i ys) ∧
        Hid (IsVs wr (fun b => w.heap.size + 3 ≤ b ∧ G'.map (·.block) ≠ some b) (norms (l.take i)) ys) ∧ Hid (Below w.heap.size w wr) ∧ Hid (w.heap.size + 3 ≤ wr.heap.size))
      case atStart =>
        exact ⟨0, none, 0, [], rfl, by omega, HR1, HBX1, HROW1, Lib.hid (World.ownsRow_nil _ _ _ _), Lib.hid (by simp only [List.take_zero, norms]; unfold IsVs; rfl), HBE1, HS1'⟩
      case round =>
        obtain ⟨i, G', cap', ys, rfl, hik, HR, HBX, HROW, HYS, HIS, HBE, HSZ⟩ := hrel
        cases gk with
        | zero =>
          have hi : ¬ i < n := by omega
          have HIN := Lib.hid hik
          clear hik
          have hin : i = n := by have := HIN.out; omega
          obtain ⟨c0, c1, c2, c3, c4, c5⟩ := HBX.out.cells
          obtain ⟨d0, d1, d2, d3, d4, d5⟩ := HR.out.cells
          have fz : ∀ j, wr.frozen? ⟨w.heap.size, j, none⟩ = false := fun j => by have h := HR.out; unfold Box6 at h; simp [World.frozen?, h]
          have HIN2 := Lib.hid hin
          clear hin
          go_wp2_with fail
          obtain ⟨w2, hw2⟩ : ∃ w2, w2 = (((((wr.setCell ⟨w.heap.size, 0, none⟩ (.int .i64 7)).setCell ⟨w.heap.size, 1, none⟩ (.int .i64 0)).setCell ⟨w.heap.size, 2, none⟩ (.float .f64 0)).setCell ⟨w.heap.size, 3, none⟩ (.string ⟨#[]⟩)).setCell ⟨w.heap.size, 4, none⟩ (.slice G n cap)).setCell ⟨w.heap.size, 5, none⟩ (.slice G' i cap') := ⟨_, rfl⟩
          rw [← hw2]
          obtain ⟨hb2, ho2, hl2⟩ := set6 HR.out _ _ _ _ _ _ hw2
          have e0 : w2.cell? ⟨w.heap.size, 0, none⟩ = some (.int .i64 7) := by rw [blk_cell hb2]; rfl
          have e1 : w2.cell? ⟨w.heap.size, 1, none⟩ = some (.int .i64 0) := by rw [blk_cell hb2]; rfl
          have e2 : w2.cell? ⟨w.heap.size, 2, none⟩ = some (.float .f64 0) := by rw [blk_cell hb2]; rfl
          have e3 : w2.cell? ⟨w.heap.size, 3, none⟩ = some (.string ⟨#[]⟩) := by rw [blk_cell hb2]; rfl
          have e4 : w2.cell? ⟨w.heap.size, 4, none⟩ = some (.slice G n cap) := by rw [blk_cell hb2]; rfl
          have e5 : w2.cell? ⟨w.heap.size, 5, none⟩ = some (.slice G' i cap') := by rw [blk_cell hb2]; rfl
          refine bodyPost_ret (v := .agg #[.int .i64 7, .int .i64 0, .float .f64 0, .string ⟨#[]⟩, .slice G n cap, .slice G' i cap']) (by simp [results, Tryd.results37, go_sem, e0, e1, e2, e3, e4, e5]) rfl ?_
          have hnk := HN.out
          have hin2 := HIN2.out
          have hll := HLEN.out
          refine ⟨.slice G n cap, .slice G' i cap', rfl, Lib.hid ?_, Lib.hid (HBE.out.trans hl2)⟩
          have kk : Kept wr w2 (fun b => w.heap.size + 3 ≤ b) (fun b => w.heap.size ≤ b) := fun b hb _ => ⟨by have hb' : w.heap.size + 3 ≤ b := hb; omega, ho2 b (by have hb' : w.heap.size + 3 ≤ b := hb; omega)⟩
          have kk2 : Kept wr w2 (fun b => w.heap.size + 3 ≤ b ∧ G'.map (·.block) ≠ some b) (fun b => w.heap.size ≤ b) := fun b hb h => kk b hb.1 h
          have q0 := (RowIs.of_own (P := fun b => w.heap.size + 3 ≤ b) HROW.out (fun b hb => (HROW.out.lt b hb).1)).keep (by omega) kk
          have q1 := (RowIs.of_own (P := fun b => w.heap.size + 3 ≤ b) HYS.out (fun b hb => (HYS.out.lt b hb).1)).keep (by omega) kk
          have q2 := IsVs.keep kk2 _ HIS.out
          have hil : i = l.length := by omega
          rw [hil, List.take_length] at q2
          unfold IsV
          refine ⟨_, _, ys, rfl, i64_small (by omega) (by omega), i64_small (by omega) (by omega), (by show 0 ≤ maxLen; omega), HKS.out, by rw [← hnk]; exact q0, ?_, q2⟩
          rw [norms_len, ← hil]; exact q1
        | succ mm =>
          have hi : i < n := by omega
          have hik2 : i < ks.length := by have := HN.out; omega
          have hil : i < l.length := by have := HLEN.out; omega
          have hix : i < xs.length := by have := HXL.out; omega
          obtain ⟨e, he, hek, hev⟩ := entry_at HPERM.out i hik2 hix
          obtain ⟨x, hx, hgx⟩ := HG.out.at_ i hil
          have hxx : e.val = x := by rw [hev]; rw [List.getElem?_eq_getElem hix] at hx; injection hx
          obtain ⟨g, hG, hgc⟩ : ∃ g, G = some ⟨g, 0, none⟩ ∧ wr.cell? ⟨g, i, none⟩ = some (.string ks[i]) := by
            rcases HROW.out.2 with ⟨_, h0⟩ | ⟨g, cp, cur, hv, _⟩
            · omega
            · injection hv with hv1 hv2 hv3
              refine ⟨g, hv1, ?_⟩
              have h := HROW.out
              rw [hv1] at h
              have := h.cells (g := g) rfl i (.string ks[i]) (by simp [hik2])
              rw [add_plain] at this
              simpa using this
          subst hG
          obtain ⟨s, hs⟩ : ∃ s, s = ks[i] := ⟨_, rfl⟩
          rw [← hs] at hgc hek
          have hlook := run_lookup_yes (P := Tryd.prog) (w := wr.drew) Tryd.underlying66 Tryd.underlying9 ((HBE.out.block b HBL.out).trans HB.out) (keys_text HKP.out) s he hek (keys_nodup HKP.out HASC.out) false
          rw [hxx] at hlook
          simp only [Bool.false_eq_true, if_false] at hlook
          obtain ⟨u, hu⟩ : ∃ u, u = l[i] := ⟨_, rfl⟩
          have hok := HOK.out i hil
          rw [← hu] at hgx hok
          have hbd : Below w.heap.size w wr.drew := HBE.out.trans (c := wr.drew) ⟨rfl, rfl, rfl, Nat.le_refl _, fun _ _ => rfl⟩
          have HCALL : Hid (Calls Tryd.prog 51 #[x] wr.drew (ValRes u wr.drew)) := Lib.hid (hok x P wr.drew (GoV.keep (Kept.below hbd) u hgx))
          have x5 : wr.drew.cell? ⟨w.heap.size + 1, 5, none⟩ = some (.slice G' i cap') := HBX.out.cells.2.2.2.2.2
          have HU := Lib.hid hu
          have HIK := Lib.hid hik
          have HBD := Lib.hid hbd
          have hii0 : (0 : Int) ≤ (i : Int) := by omega
          have hiin : (i : Int) < (n : Int) := by omega
          clear hbd hik2 hix he hek hev hx hgx hxx hs hu hok hik
          go_wp2_with fail
          go_region_law (first
            | (refine step_append_lies _ rfl (.tmp 31) (.tmp 36) 39 rfl (w.heap.size + 3) 41 i0 _ 6 88 Tryd.underlying39 hi0 hz0 hz1 hz2 rfl (by decide) (.slice G' i cap') i ys (by simp [Act.eval]) (HOWN.out.alloc _) ⟨w1.heap.size, 0, none⟩ 1 1 [.int .i64 (norm u).k, .int .i64 (norm u).n, .float .f64 (norm u).r, .string (norm u).t, .slice Ak (norm u).ks.length ck, .slice Al (norm u).l.length cl] (by simp [Act.eval]) rfl (news_cells _ _ _) HONE.out (by decide) (by unfold maxLen; omega) (by omega) HC5.out _ rfl ?_; intro g2 cap2 w2 hown2 hgrow hat hlt; obtain ⟨z5, zf, HZ⟩ := HSTEP.out _ _ hgrow hat; have HO2 := Lib.hid hown2; clear hown2 hgrow hat hlt)
            | (go_simp; go_at_call 51; refine (HCALL.out).mono ?_; rintro e w1 ⟨kv, lv, rfl, HX, HB1⟩
               have hone := HX.out.one
               have HONE := Lib.hid hone
               obtain ⟨Ak, ck, rfl⟩ : ∃ A c, kv = .slice A (norm u).ks.length c := by obtain ⟨_, h, _⟩ := HX.out.parts; obtain ⟨A, c, h, _⟩ := h.form; exact ⟨A, c, h⟩
               obtain ⟨Al, cl, rfl⟩ : ∃ A c, lv = .slice A (norm u).l.length c := by obtain ⟨_, _, h, _⟩ := HX.out.parts; obtain ⟨A, c, h, _⟩ := h.form; exact ⟨A, c, h⟩
               have hs1 : wr.heap.size ≤ w1.heap.size := HB1.out.size
               have hs0 := HSZ.out
               have HOWN : Hid (w1.ownsRow (w.heap.size + 3) 41 6 (.slice G' i cap') i ys) := Lib.hid (World.ownsRow.kept (w := wr.drew) HYS.out (grown_of_below HB1.out none) (by cases G' <;> simp [Value.ownBlock]))
               have x5a : w1.cell? ⟨w.heap.size + 1, 5, none⟩ = some (.slice G' i cap') := (HB1.out.cell (p := ⟨w.heap.size + 1, 5, none⟩) (by show w.heap.size + 1 < wr.heap.size; omega)).trans x5
               have x5b : (w1.alloc (.cells #[.int .i64 (norm u).k, .int .i64 (norm u).n, .float .f64 (norm u).r, .string (norm u).t, .slice Ak (norm u).ks.length ck, .slice Al (norm u).l.length cl] 41)).cell? ⟨w.heap.size + 1, 5, none⟩ = some (.slice G' i cap') := by rw [← x5a]; exact World.cell?_of_block (Below.heap_alloc _ _ _ (by show w.heap.size + 1 < w1.heap.size; omega))
               have HC5 : Hid (w.heap.size + 3 ≤ (w1.alloc (.cells #[.int .i64 (norm u).k, .int .i64 (norm u).n, .float .f64 (norm u).r, .string (norm u).t, .slice Ak (norm u).ks.length ck, .slice Al (norm u).l.length cl] 41)).heap.size) := Lib.hid (by simp; omega)
               have HS1 := Lib.hid (And.intro hs1 hs0)
               have hb1' : Below wr.heap.size wr w1 := Below.trans (b := wr.drew) ⟨rfl, rfl, rfl, Nat.le_refl _, fun _ _ => rfl⟩ HB1.out
               have hx1 : IsV w1 (fun b => wr.heap.size ≤ b) (norm u) (#[.int .i64 (norm u).k, .int .i64 (norm u).n, .float .f64 (norm u).r, .string (norm u).t, .slice Ak (norm u).ks.length ck, .slice Al (norm u).l.length cl] : Array Value).toList := HX.out
               have HSTEP := Lib.hid (fun (g2 : Nat) (w2 : World) (hgrow : World.grownBy (w1.alloc (.cells #[.int .i64 (norm u).k, .int .i64 (norm u).n, .float .f64 (norm u).r, .string (norm u).t, .slice Ak (norm u).ks.length ck, .slice Al (norm u).l.length cl] 41)) w2 (Value.slice G' i cap').ownBlock) (hat : (Value.slice G' i cap').ownBlock = some g2 ∨ g2 = (w1.alloc (.cells #[.int .i64 (norm u).k, .int .i64 (norm u).n, .float .f64 (norm u).r, .string (norm u).t, .slice Ak (norm u).ks.length ck, .slice Al (norm u).l.length cl] 41)).heap.size) => dict_store (S := w.heap.size) HBX.out HR.out HROW.out HYS.out HIS.out HBE.out HSZ.out hb1' hx1 (g' := g2) hgrow hat)
               clear hone hs1 hs0 hb1' hx1))
          all_goals (
            go_wp2_with fail
            go_roundg mm
            case measure => exact Nat.lt_succ_self mm
            case rel =>
              obtain ⟨k1, k2, k3, k4, k5, k6, k7⟩ := HZ.out cap2 _ rfl HO2.out
              refine ⟨i + 1, some ⟨g2, 0, none⟩, cap2, ys ++ [.int .i64 (norm u).k, .int .i64 (norm u).n, .float .f64 (norm u).r, .string (norm u).t, .slice Ak (norm u).ks.length ck, .slice Al (norm u).l.length cl], by simp, by have := HIK.out; omega, Lib.hid k1, Lib.hid k2, Lib.hid k3, Lib.hid k4, Lib.hid ?_, Lib.hid k6, Lib.hid k7⟩
              rw [List.take_add_one, List.getElem?_eq_getElem hil, ← HU.out]
              simp only [Option.toList]
              rw [norms_snoc]
              exact k5)
    · intro e w1 HALL hen
      obtain ⟨he, hsn, hlt, hit, hoth, hsz, hbel, hgr⟩ := HALL.out
      replace he : e ∈ es.toList := by simpa using he
      clear HALL
      obtain ⟨key, val, born⟩ := e
      obtain ⟨s, hs⟩ := keys_text HKP.out _ he
      simp only at hs
      subst hs
      have hnk : done.length < 100000 := by
        have h1 := HLE.out _ hsn.nd hsn.mem
        have := HLEN.out
        rw [List.length_append, List.length_singleton] at h1
        omega
      have hbx1 : Box6 w1 (w.heap.size + 1) (.int .i64 7) (.int .i64 0) (.float .f64 0) (.string ⟨#[]⟩) (.slice G done.length cap) (.slice none 0 0) := (hoth _ (by omega)).trans HBX.out
      have hr1 : Box6 w1 w.heap.size (.int .i64 0) (.int .i64 0) (.float .f64 0) (.string ⟨#[]⟩) (.slice none 0 0) (.slice none 0 0) := (hoth _ (by omega)).trans HR.out
      have how1 : w1.ownsRow (w.heap.size + 3) 9 1 (.slice G done.length cap) done.length (done.map (·.key)) := HOW.out.kept hgr (.inr (row_ne_low (b := w.heap.size + 2) HOW.out (by omega)).symm)
      have HBX1 := Lib.hid hbx1
      have HR1 := Lib.hid hr1
      have HOW1 := Lib.hid how1
      have HSN1 := Lib.hid hsn
      have HLT := Lib.hid hlt
      have HIT1 := Lib.hid hit
      have HBE1 := Lib.hid (hbel _ _ HBE.out (by omega))
      have HSZ1 : Hid (w.heap.size + 3 ≤ w1.heap.size) := Lib.hid (by rw [hsz]; exact HSZ.out)
      have HC5 : Hid (w.heap.size + 3 ≤ (w1.alloc (.cells #[.string s] 9)).heap.size) := Lib.hid (by have := HSZ1.out; simp; omega)
      have c4 := hbx1.cells.2.2.2.2.1
      obtain ⟨k, hk⟩ : ∃ k, k = done.length := ⟨_, rfl⟩
      rw [← hk] at c4 hnk
      have HK := Lib.hid hk
      clear he hsn hlt hit hoth hsz hbel hgr hbx1 hr1 how1 hk HBX HR HOW HIT HBE HSZ HSN
      go_wp2_with (at_builtin; go_must (refine wpList_append_lies _ rfl _ _ 35 rfl (w.heap.size + 3) 9 j0 _ 1 16 Tryd.underlying35 hj0 jz0 jz1 jz2 rfl (by decide) (.slice G k cap) k (done.map (·.key)) rfl (by rw [HK.out]; exact HOW1.out.alloc _) ⟨w1.heap.size, 0, none⟩ 1 1 [.string s] rfl rfl (news_cells _ _ _) (by simp [Value.oneCell']) (by decide) (by unfold maxLen; omega) (by omega) HC5.out _ rfl ?_); intro g' cap' w2 hown2 hgrow hat hlt; refine Hid.out ?_)
      refine Lib.hid ?_
      have hlow : ∀ j, j < w.heap.size + 3 → some j ≠ (Value.slice G k cap).ownBlock := fun j hj => by rw [HK.out]; exact row_ne_low HOW1.out hj
      have hsz2 := HSZ1.out
      have hsza := hgrow.size
      have hoth2 : ∀ j, j < w.heap.size + 3 → w2.heap[j]? = w1.heap[j]? := fun j hj => by
        rw [hgrow.block j (by simp; omega) (hlow j hj), Below.heap_alloc _ _ _ (by omega)]
      have hbx2 : Box6 w2 (w.heap.size + 1) (.int .i64 7) (.int .i64 0) (.float .f64 0) (.string ⟨#[]⟩) (.slice G done.length cap) (.slice none 0 0) := (hoth2 _ (by omega)).trans HBX1.out
      have hr2 : Box6 w2 w.heap.size (.int .i64 0) (.int .i64 0) (.float .f64 0) (.string ⟨#[]⟩) (.slice none 0 0) (.slice none 0 0) := (hoth2 _ (by omega)).trans HR1.out
      have hit2 := (hoth2 (w.heap.size + 2) (by omega)).trans HIT1.out
      have hbe2 : Below w.heap.size w w2 := (HBE1.out.alloc (by omega) _).grown hgrow (by simp; omega) (fun j hj => by
        rw [HK.out] at hj; have := (HOW1.out.lt j hj).1; omega)
      have c4 := hbx2.cells.2.2.2.2.1
      have fz : w2.frozen? ⟨w.heap.size + 1, 4, none⟩ = false := by unfold Box6 at hbx2; simp [World.frozen?, hbx2]
      have HBX2 := Lib.hid hbx2
      have HR2 := Lib.hid hr2
      have HIT2 := Lib.hid hit2
      have HBE2 := Lib.hid hbe2
      have HOW2 := Lib.hid hown2
      have HSZ2 : Hid (w.heap.size + 3 ≤ w2.heap.size) := Lib.hid (by simp at hsza; omega)
      have HLOW : Hid (w.heap.size + 3 ≤ g') := Lib.hid (by
        rcases hat with h | h
        · have h' : (Value.slice G done.length cap).ownBlock = some g' := by rw [← HK.out]; exact h
          exact (HOW1.out.lt g' h').1
        · rw [h]; simp; omega)
      clear hlow hsz2 hsza hoth2 hbx2 hr2 hit2 hbe2 hown2 hgrow hat hlt HBX1 HR1 HIT1 HBE1 HOW1 HSZ1 HC5
      go_wp2_with fail
      obtain ⟨w3, hw3⟩ : ∃ w3, w3 = w2.setCell ⟨w.heap.size + 1, 4, none⟩ (.slice (some ⟨g', 0, none⟩) (k + 1) cap') := ⟨_, rfl⟩
      have hb3 := blk_set HBX2.out 4 (.slice (some ⟨g', 0, none⟩) (k + 1) cap')
      rw [← hw3] at hb3 ⊢
      have hoth3 : ∀ j, j ≠ w.heap.size + 1 → w3.heap[j]? = w2.heap[j]? := fun j hj => by rw [hw3, Below.heap_setCell _ _ _ _ hj]
      have hsz3 : w3.heap.size = w2.heap.size := by rw [hw3]; simp
      have hbe3 : Below (w.heap.size + 1) w2 w3 := by rw [hw3]; exact (Below.refl _ _).setCell (p := ⟨w.heap.size + 1, 4, none⟩) (Nat.le_refl _) _
      have HW3 := Lib.hid (And.intro hb3 (And.intro hoth3 (And.intro hsz3 hbe3)))
      clear hw3 hb3 hoth3 hsz3 hbe3
      go_roundg (leftOf es (seen.push born)).size
      case measure => rw [← HKQ.out]; exact HLT.out
      case rel =>
        obtain ⟨h1, h2, h3, h4⟩ := HW3.out
        refine ⟨seen.push born, done ++ [⟨.string s, val, born⟩], some ⟨g', 0, none⟩, cap', rfl, HSN1, Lib.hid ((h2 _ (by omega)).trans HIT2.out), Lib.hid ((h2 _ (by omega)).trans HR2.out), Lib.hid ?_, Lib.hid ?_, Lib.hid (HBE2.out.trans (h4.mono (by omega))), Lib.hid (by rw [h3]; exact HSZ2.out)⟩
        · rw [List.length_append, List.length_singleton, ← HK.out]
          unfold Box6; simpa using h1
        · rw [List.length_append, List.length_singleton, ← HK.out, List.map_append]
          exact World.ownsRow.kept HOW2.out ⟨h4.os, h4.tape, h4.output, h4.size, fun j hj hjr => h2 j (fun e => hjr (by rw [e]))⟩ (.inr (row_ne_low (b := w.heap.size + 1) HOW2.out (by omega)).symm)

theorem valueOf_walk : ∀ (N : Nat) (v : V), SizeOf.sizeOf v < N → Fine v → ValueOfOk v := by
  intro N
  induction N with
  | zero => intro v h; omega
  | succ N ih =>
    intro v hN hf
    have hf' := hf
    have hch : ∀ i (h : i < v.l.length), Fine v.l[i] → ValueOfOk v.l[i] := fun i h hfi => ih _ (by have := v.lt_of_get i h; omega) hfi
    obtain ⟨k, n, r, t, ks, l⟩ := v
    unfold Fine at hf
    obtain ⟨_, _, _, h300, hk7, hfs⟩ := hf
    have hok : ∀ i (h : i < l.length), ValueOfOk l[i] := fun i h => hch i h (hfs.at_ i h)
    refine valueOf_step _ hf' (fun h6 A c xs P w hl hv => valuesOf_step l hok h300 A c xs P w hl hv) (fun h7 => ?_)
    obtain ⟨_, h2, h3⟩ := hk7 h7
    exact dictOf_step ks l h2 h3 hok h300
theorem valueOf_of {v : V} (hf : Fine v) : ValueOfOk v := valueOf_walk _ v (Nat.lt_succ_self _) hf
theorem valuesOf_of {l : List V} (hf : Fines l) (h300 : l.length ≤ 100000) (A : Option Addr) (c : Nat) (xs : List Value) (P : Nat → Prop) (w : World)
    (hl : RowIs w P 1 (.slice A l.length c) l.length xs) (hv : GoVs w P l xs) : Calls Tryd.prog 58 #[.slice A l.length c] w (ValsRes l w) :=
  valuesOf_step l (fun i h => valueOf_of (hf.at_ i h)) h300 A c xs P w hl hv
end Go.Proofs.YtjaeihbfkmflkaaDoor.Vals
