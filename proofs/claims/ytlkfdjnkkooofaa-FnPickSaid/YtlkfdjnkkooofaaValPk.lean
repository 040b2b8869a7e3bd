/- Walks of sprig's pick and omit. -/
import Derived.Test.YtlkfdjnkkooofaaValSel
import Derived.Carry
namespace Go.Proofs.Ytlkfdjnkkooofaa.Vals
open Go.RowKit Go.ChangeMaps Go.Proofs.YtlkfdjnkkooofaaW.PrintWords Go.Proofs.Ytlkfdjnkkooofaa.Txt
set_option linter.unusedVariables false
set_option maxRecDepth 20000

theorem Sel.le {α : Type} {ks : List ByteArray} {l : List α} {q : ByteArray → Prop} {K : List ByteArray} {L : List α} (h : Sel ks l q K L) (hk : Asc ks) (hl : ks.length = l.length) : K.length ≤ ks.length := by
  have := (h.fin hk hl (fun j => @decide (∃ hj : j < ks.length, q ks[j]) (Classical.propDecidable _)) (fun j hj => by
    refine (@decide_eq_true_iff _ (Classical.propDecidable _)).trans ?_
    exact ⟨fun ⟨_, h⟩ => h, fun h => ⟨hj, h⟩⟩)).1
  rw [this]; exact pickI_le _ _ _
/-- A part of a dictionary's map, in a map of its own. -/
def PartRes (B : Nat) (p : Nat → Bool) (ks : List ByteArray) (l : List V) (w : World) (e : Ending) (w' : World) : Prop := ∃ r, e = .returned (.map (some r)) ∧ Hid (MapX w' (fun x => B ≤ x) (pickI p ks ks.length) (pickI p l ks.length) r) ∧ Hid (Below w.heap.size w w')
theorem mapX_nil {w : World} {b : Nat} {clk : Nat} {P : Nat → Prop} (hP : P b) (h : w.heap[b]? = some (.map #[] clk)) : MapX w P [] [] b :=
  ⟨#[], clk, [], hP, h, fun e he => by simp at he, by simp, by simp [maxLen], rfl, by simp, by unfold GoVs; rfl⟩

set_option maxHeartbeats 4000000 in
theorem sprigPick_walk (b B : Nat) (ks : List ByteArray) (l : List V) (ms : List ByteArray) (A : Option Addr) (c : Nat) (Pm : Nat → Prop) (w : World) (h : MapX w (fun x => B ≤ x) ks l b) (ha : Asc ks) (h300 : ks.length ≤ 300) (hB : B ≤ w.heap.size)
    (hm : RowIs w Pm 1 (.slice A ms.length c) ms.length (ms.map Value.string)) :
    Calls Try.prog 79 #[.map (some b), .slice A ms.length c] w (PartRes B (fun i => amongB (ks.getD i ⟨#[]⟩) ms == true) ks l w) := by
  obtain ⟨es, clk, xs, h1, h2, h3, h4, h5, h6, h7, h8⟩ := h
  have hxl : xs.length = ks.length := by rw [h8.len]; omega
  have hkp := keys_perm h7 (by omega)
  have htk := keys_text hkp
  have hnd := keys_nodup hkp ha
  have hbl : b < w.heap.size := blk_lt h2
  have hme : ∀ i (hi : i < ms.length), ∃ mb mo, A = some ⟨mb, mo, none⟩ ∧ mb < w.heap.size ∧ w.cell? ⟨mb, mo + i, none⟩ = some (.string ms[i]) := fun i hi => by
    obtain ⟨mb, mo, hA, _, hc⟩ := hm.elem (by omega)
    have := hc i (.string ms[i]) (by simp [hi])
    exact ⟨mb, mo, hA, World.block_lt_of_cell? w _ this, this⟩
  have HME := Lib.hid hme
  obtain ⟨hnc, hcm⟩ := hm.sizes
  unfold maxLen at hcm
  have HASC := Lib.hid ha
  have HLEN := Lib.hid h6
  have H300 := Lib.hid h300
  have HB := Lib.hid (And.intro h2 hbl)
  have HTK := Lib.hid (And.intro htk hnd)
  have HG := Lib.hid h8
  have HPERM := Lib.hid h7
  have HXL := Lib.hid hxl
  have HBB := Lib.hid hB
  clear ha h6 h300 h2 hbl htk hnd h8 h7 hxl hB hme hm h1 h3 h4 h5 hkp
  obtain ⟨m, hmm⟩ : ∃ m, m = ms.length := ⟨_, rfl⟩
  rw [← hmm] at hnc ⊢
  have HM := Lib.hid hmm
  clear hmm
  have hmk := @run_makeMap Try.prog
  go_enter Try.func79, Try.ntmps79
  go_wp2_with fail
  go_loopg [13] m (fun kq v13 wr => ∃ (i : Nat) (K : List ByteArray) (L : List V), v13 = .int .i64 (i : Int) ∧ i + kq = m ∧ Hid (MapX wr (fun x => B ≤ x ∧ x ≤ w.heap.size) K L w.heap.size) ∧ Hid (Sel ks l (fun x => x ∈ ms.take i) K L) ∧ Hid (Below w.heap.size w wr))
  case atStart => exact ⟨0, [], [], rfl, by omega, Lib.hid (mapX_nil ⟨HBB.out, Nat.le_refl _⟩ (heap_alloc_new w _)), Lib.hid (Sel.none fun s _ h => by simp at h), Lib.hid ((Below.refl _ _).alloc (Nat.le_refl _) _)⟩
  case round =>
    obtain ⟨i, K, L, rfl, hik, HX, HS, HBW⟩ := hrel
    cases gk with
    | zero =>
      have hi : ¬ i < m := by omega
      have HIM : Hid (i = m) := Lib.hid (by omega)
      clear hik
      go_wp2_with fail
      go_ret
      obtain ⟨e1, e2⟩ := HS.out.fin HASC.out HLEN.out (fun i => amongB (ks.getD i ⟨#[]⟩) ms == true) (fun j hj => by
        simp only [List.getD_eq_getElem?_getD, List.getElem?_eq_getElem hj, Option.getD_some, beq_true]
        rw [amongB_iff, HIM.out, HM.out, List.take_length])
      exact ⟨w.heap.size, rfl, Lib.hid (by rw [← e1, ← e2]; exact HX.out.keep (Kept.mono fun x hx _ => hx.1)), HBW⟩
    | succ mm =>
      have hi : i < m := by omega
      have hi' : i < ms.length := by have := HM.out; omega
      obtain ⟨mb, mo, hA, hmb, e0⟩ := HME.out i hi'
      subst hA
      obtain ⟨q, hq⟩ : ∃ q, q = ms[i] := ⟨_, rfl⟩
      rw [← hq] at e0
      have g0 := (HBW.out.cell (p := ⟨mb, mo + i, none⟩) hmb).trans e0
      have hb := (HBW.out.block b HB.out.2).trans HB.out.1
      have HQ : Hid (ms.take (i + 1) = ms.take i ++ [q]) := Lib.hid (by rw [List.take_add_one, List.getElem?_eq_getElem hi', ← hq]; rfl)
      have HIK := Lib.hid hik
      have hii0 : (0 : Int) ≤ (i : Int) := by omega
      have hiin : (i : Int) < (m : Int) := by omega
      clear hq hik e0 hmb
      by_cases hin : q ∈ ks
      · obtain ⟨a, hal, haq⟩ := List.mem_iff_getElem.1 hin
        have hax : a < xs.length := by have := HXL.out; omega
        have hall : a < l.length := by have := HLEN.out; omega
        obtain ⟨e, he, hek, hev⟩ := entry_at HPERM.out a hal hax
        obtain ⟨x, hx, hgx⟩ := HG.out.at_ a hall
        have hxx : e.val = x := by rw [hev]; rw [List.getElem?_eq_getElem hax] at hx; injection hx
        have hlook := run_lookup_yes (P := Try.prog) (w := wr) Try.underlying71 Try.underlying9 hb HTK.out.1 q he (by rw [hek, haq]) HTK.out.2 true
        rw [hxx] at hlook
        simp only [if_true] at hlook
        have hgv : GoV wr (fun y => (B ≤ y ∧ y ≤ w.heap.size) ∧ y ≠ w.heap.size) l[a] x := GoV.keep (fun y hy hlt => ⟨⟨⟨hy.1, by omega⟩, by omega⟩, HBW.out.block y hlt⟩) _ hgx
        obtain ⟨o, hrun, hmx⟩ := HX.out.update HS.out.1 (by have := HS.out.le HASC.out HLEN.out; have := H300.out; omega) q hgv
        have hsel := HS.out.put HASC.out HLEN.out hal
        rw [haq] at hsel
        have HMX := Lib.hid hmx
        have HSEL := Lib.hid hsel
        clear hin haq he hek hev hx hgx hxx hgv hmx hsel
        go_wp2_with fail
        go_roundg mm
        case measure => exact Nat.lt_succ_self mm
        case rel => exact ⟨i + 1, _, _, by simp, by have := HIK.out; omega, HMX, Lib.hid (HSEL.out.congr fun s _ => by rw [HQ.out, List.mem_append, List.mem_singleton]), Lib.hid (below_setBlock HBW.out (Nat.le_refl _) o)⟩
      · have hlook := run_lookup_no (P := Try.prog) (w := wr) Try.underlying71 Try.underlying9 hb HTK.out.1 q (fun e he hek => hin (by
          obtain ⟨j, hj, _, h1, _⟩ := entry_of HPERM.out he
          rw [h1] at hek
          injection hek with hek
          rw [← hek]; exact List.getElem_mem hj)) (z := .nilIface) (by kernel_rfl) true
        simp only [if_true] at hlook
        have HIN := Lib.hid hin
        clear hin
        go_wp2_with fail
        go_roundg mm
        case measure => exact Nat.lt_succ_self mm
        case rel => exact ⟨i + 1, K, L, by simp, by have := HIK.out; omega, HX, Lib.hid (HS.out.congr fun s hs => by
            rw [HQ.out, List.mem_append, List.mem_singleton]
            exact ⟨.inl, fun h => h.elim id fun e => absurd hs (by rw [e]; exact HIN.out)⟩), HBW⟩

theorem run_makeMapN {w : World} (n : Int) : (Instr.makeMap 94 (some (.int .i64 n))).run Try.prog w = .ok (.map (some w.heap.size)) (w.alloc (.map #[] 0)) := by
  unfold Instr.makeMap
  simp only [Sem.run_bind, run_underlying (P := Try.prog) Try.underlying94, Result.andThen]
  rfl
set_option maxHeartbeats 4000000 in
theorem sprigOmit_walk (b B : Nat) (ks : List ByteArray) (l : List V) (ms : List ByteArray) (A : Option Addr) (c : Nat) (Pm : Nat → Prop) (w : World) (h : MapX w (fun x => B ≤ x) ks l b) (ha : Asc ks) (h300 : ks.length ≤ 300) (hB : B ≤ w.heap.size)
    (hm : RowIs w Pm 1 (.slice A ms.length c) ms.length (ms.map Value.string)) :
    Calls Try.prog 80 #[.map (some b), .slice A ms.length c] w (PartRes B (fun i => amongB (ks.getD i ⟨#[]⟩) ms == false) ks l w) := by
  obtain ⟨es, clk, xs, h1, h2, h3, h4, h5, h6, h7, h8⟩ := h
  have hxl : xs.length = ks.length := by rw [h8.len]; omega
  have hkp := keys_perm h7 (by omega)
  have hbl : b < w.heap.size := blk_lt h2
  have hme : ∀ i (hi : i < ms.length), ∃ mb mo, A = some ⟨mb, mo, none⟩ ∧ mb < w.heap.size ∧ w.cell? ⟨mb, mo + i, none⟩ = some (.string ms[i]) := fun i hi => by
    obtain ⟨mb, mo, hA, _, hc⟩ := hm.elem (by omega)
    have := hc i (.string ms[i]) (by simp [hi])
    exact ⟨mb, mo, hA, World.block_lt_of_cell? w _ this, this⟩
  have HME := Lib.hid hme
  obtain ⟨hnc, hcm⟩ := hm.sizes
  unfold maxLen at hcm
  have HASC := Lib.hid ha
  have HLEN := Lib.hid h6
  have H300 := Lib.hid h300
  have HB := Lib.hid (And.intro h2 hbl)
  have HG := Lib.hid h8
  have HPERM := Lib.hid h7
  have HXL := Lib.hid hxl
  have HBB := Lib.hid hB
  have HBORN := Lib.hid h3
  have HND := Lib.hid h4
  have HKP := Lib.hid hkp
  clear ha h6 h300 h2 hbl h8 h7 hxl hB hme hm h1 h3 h4 h5 hkp
  obtain ⟨m, hmm⟩ : ∃ m, m = ms.length := ⟨_, rfl⟩
  rw [← hmm] at hnc ⊢
  have HM := Lib.hid hmm
  clear hmm
  have hmk := @run_makeMap Try.prog
  have hmn := fun W => @run_makeMapN W (m : Int)
  go_enter Try.func80, Try.ntmps80
  go_wp2_with fail
  obtain ⟨W0, hW0⟩ : ∃ W0, W0 = (w.alloc (.map #[] 0)).alloc (.map #[] 0) := ⟨_, rfl⟩
  have hm0 : W0.heap[w.heap.size]? = some (.map #[] 0) := by rw [hW0]; exact (Below.heap_alloc (w.alloc (.map #[] 0)) (.map #[] 0) _ (by simp)).trans (heap_alloc_new w _)
  have hm1 : W0.heap[w.heap.size + 1]? = some (.map #[] 0) := by have := heap_alloc_new (w.alloc (.map #[] 0)) (.map #[] 0); rw [hW0]; simpa using this
  have hbe : Below w.heap.size w W0 := by rw [hW0]; exact ((Below.refl _ _).alloc (Nat.le_refl _) _).alloc (by simp) _
  have hsz : W0.heap.size = w.heap.size + 2 := by rw [hW0]; simp
  have H0 := Lib.hid (And.intro hm0 (And.intro hm1 (And.intro hbe (And.intro hsz hW0))))
  clear hm0 hm1 hbe hsz hW0
  go_loopg [19] m (fun kq v19 wr => ∃ (i : Nat), v19 = .int .i64 (i : Int) ∧ i + kq = m ∧ Hid (wr.heap[w.heap.size]? = some (.map #[] 0)) ∧ Hid (SetIs wr (w.heap.size + 1) (ms.take i)) ∧ Hid (Below w.heap.size w wr) ∧ Hid (wr.heap.size = w.heap.size + 2))
  case atStart =>
    obtain ⟨h1, h2, h3, h4, h5⟩ := H0.out
    rw [← h5]
    exact ⟨0, rfl, by omega, Lib.hid h1, Lib.hid ⟨#[], 0, h2, fun e he => by simp at he, by simp, fun s => by simp⟩, Lib.hid h3, Lib.hid h4⟩
  case round =>
    obtain ⟨i, rfl, hik, HM0, HST, HBW, HSZ⟩ := hrel
    cases gk with
    | zero =>
      have hi : ¬ i < m := by omega
      have him : ms.take i = ms := by rw [List.take_of_length_le]; have := HM.out; omega
      rw [him] at HST
      have hsz := HSZ.out
      clear hik him HME
      go_wp2_with (at_range; go_must (refine wpList_range_at _ rfl _ _ rfl _ _ Try.underlying71 b es clk rfl ((HBW.out.block b HB.out.2).trans HB.out.1) (w.heap.size + 2) hsz ?_))
      go_frame
      have h0 : (wr.alloc (.mapIter (some b) clk #[] clk)).heap[w.heap.size]? = some (.map #[] 0) := (Below.heap_alloc wr _ _ (by omega)).trans HM0.out
      have h1 : SetIs (wr.alloc (.mapIter (some b) clk #[] clk)) (w.heap.size + 1) ms := HST.out.keep (Below.heap_alloc wr _ _ (by omega))
      have h2 : (wr.alloc (.mapIter (some b) clk #[] clk)).heap[w.heap.size + 2]? = some (.mapIter (some b) clk #[] clk) := by have := heap_alloc_new wr (.mapIter (some b) clk #[] clk); rwa [hsz] at this
      have h3 : Below w.heap.size w (wr.alloc (.mapIter (some b) clk #[] clk)) := HBW.out.alloc (by omega) _
      have H1 := Lib.hid (And.intro h0 (And.intro h1 (And.intro h2 h3)))
      clear h0 h1 h2 h3 hsz HM0 HST HBW HSZ
      go_loopg [9] (leftOf es #[]).size (fun kq v9 wr => ∃ (seen : Array Nat) (done : List MapEntry) (K : List ByteArray) (L : List V), (leftOf es seen).size = kq ∧ Hid (Seen es seen done) ∧ Hid (wr.heap[w.heap.size + 2]? = some (.mapIter (some b) clk seen clk)) ∧
        Hid (MapX wr (fun x => B ≤ x ∧ x ≤ w.heap.size) K L w.heap.size) ∧ Hid (Sel ks l (fun x => x ∉ ms ∧ ∃ e ∈ done, e.key = .string x) K L) ∧ Hid (SetIs wr (w.heap.size + 1) ms) ∧ Hid (Below w.heap.size w wr))
      case atStart => exact ⟨#[], [], [], [], rfl, Lib.hid (Seen.start es), Lib.hid H1.out.2.2.1, Lib.hid (mapX_nil ⟨HBB.out, Nat.le_refl _⟩ H1.out.1), Lib.hid (Sel.none fun s _ h => by obtain ⟨_, e, he, _⟩ := h; simp at he), Lib.hid H1.out.2.1, Lib.hid H1.out.2.2.2⟩
      case round =>
        obtain ⟨seen, done, K, L, hkq, HSN, HIT, HX, HS, HST, HBW⟩ := hrel
        have HKQ := Lib.hid hkq
        clear hkq
        go_wp2_with (at_next; refine wpList_next_at _ rfl _ rfl (w.heap.size + 2) b clk seen es done rfl HIT.out ((HBW.out.block b HB.out.2).trans HB.out.1) (fun x hx => HBORN.out x (by simpa using hx)) (by have := HB.out.2; omega) HND.out HSN.out ?_ ?_)
        · intro h0
          have hdp := HSN.out.done HND.out (by rw [h0.out]; rfl)
          have HDP := Lib.hid hdp
          clear hdp h0
          go_wp2_with fail
          go_ret
          obtain ⟨e1, e2⟩ := HS.out.fin HASC.out HLEN.out (fun i => amongB (ks.getD i ⟨#[]⟩) ms == false) (fun j hj => by
            simp only [List.getD_eq_getElem?_getD, List.getElem?_eq_getElem hj, Option.getD_some]
            obtain ⟨e, he, hek, _⟩ := entry_at HPERM.out j hj (by have := HXL.out; omega)
            constructor
            · intro h
              refine ⟨fun hm => ?_, e, HDP.out.mem_iff.2 he, hek⟩
              rw [amongB_iff.2 hm] at h; cases h
            · rintro ⟨h, _⟩
              cases ha : amongB ks[j] ms with
              | false => rfl
              | true => exact absurd (amongB_iff.1 ha) h)
          exact ⟨w.heap.size, rfl, Lib.hid (by rw [← e1, ← e2]; exact HX.out.keep (Kept.mono fun x hx _ => hx.1)), HBW⟩
        · intro e w1 HALL hen
          obtain ⟨he, hsn, hlt, hit, hoth, hsz, hbel, hgr⟩ := HALL.out
          replace he : e ∈ es.toList := by simpa using he
          clear HALL
          obtain ⟨a, hal, hax, hkey, hval⟩ := entry_of HPERM.out he
          have hall : a < l.length := by have := HLEN.out; omega
          obtain ⟨x, hx, hgx⟩ := HG.out.at_ a hall
          have hxx : e.val = x := by rw [hval]; rw [List.getElem?_eq_getElem hax] at hx; injection hx
          obtain ⟨key, val, born⟩ := e
          simp only at hkey hxx hen
          subst hkey
          subst hxx
          obtain ⟨s, hs⟩ : ∃ s, s = ks[a] := ⟨_, rfl⟩
          have hb1 : Below w.heap.size w w1 := hbel _ _ HBW.out (by omega)
          have hst1 : SetIs w1 (w.heap.size + 1) ms := HST.out.keep (hoth _ (by omega))
          have hx1 : MapX w1 (fun x => B ≤ x ∧ x ≤ w.heap.size) K L w.heap.size := HX.out.keep (fun y hy hlt => ⟨hy, hoth y (by have := hy.2; omega)⟩)
          rw [← hs] at hen ⊢
          have HSN1 := Lib.hid hsn
          have HLT := Lib.hid hlt
          have HIT1 := Lib.hid hit
          have HB1 := Lib.hid hb1
          have HX1 := Lib.hid hx1
          have HST1 := Lib.hid hst1
          have hdo : ∀ x, (∃ e ∈ done ++ [⟨.string s, val, born⟩], e.key = .string x) ↔ (∃ e ∈ done, e.key = .string x) ∨ x = s := fun x => by
            constructor
            · rintro ⟨e, he, hek⟩
              rcases List.mem_append.1 he with he | he
              · exact .inl ⟨e, he, hek⟩
              · rw [List.mem_singleton.1 he] at hek; injection hek with hek; exact .inr hek.symm
            · rintro (⟨e, he, hek⟩ | rfl)
              · exact ⟨e, List.mem_append_left _ he, hek⟩
              · exact ⟨_, List.mem_append_right _ (List.mem_singleton.2 rfl), rfl⟩
          have HDO := Lib.hid hdo
          by_cases hin : s ∈ ms
          · obtain ⟨v, hlook⟩ := hst1.yes (P := Try.prog) Try.underlying94 Try.underlying9 hin
            have HIN := Lib.hid hin
            have HS' := Lib.hid hs
            clear hin hs he hsn hlt hit hoth hsz hbel hgr hx hval hgx hb1 hst1 hx1 hdo
            go_wp2_with fail
            go_roundg (leftOf es (seen.push born)).size
            case measure => rw [← HKQ.out]; exact HLT.out
            case rel =>
              refine ⟨seen.push born, done ++ [⟨.string s, val, born⟩], K, L, rfl, by rw [HS'.out]; exact HSN1, HIT1, HX1, Lib.hid (HS.out.congr fun y _ => ?_), HST1, HB1⟩
              rw [HDO.out y]
              exact ⟨fun h => ⟨h.1, .inl h.2⟩, fun h => ⟨h.1, h.2.elim id fun e => absurd HIN.out (by rw [← e]; exact h.1)⟩⟩
          · have hlook := hst1.no (P := Try.prog) Try.underlying94 Try.underlying9 hin (z := .bool false) (by kernel_rfl)
            have hgv : GoV w1 (fun y => (B ≤ y ∧ y ≤ w.heap.size) ∧ y ≠ w.heap.size) l[a] val := GoV.keep (fun y hy hlt => ⟨⟨⟨hy.1, by omega⟩, by omega⟩, hb1.block y hlt⟩) _ hgx
            obtain ⟨o, hrun, hmx⟩ := hx1.update HS.out.1 (by have := HS.out.le HASC.out HLEN.out; have := H300.out; omega) s hgv
            have hsel := HS.out.put HASC.out HLEN.out hal
            rw [← hs] at hsel
            have HMX := Lib.hid hmx
            have HSEL := Lib.hid hsel
            have HIN := Lib.hid hin
            have HS' := Lib.hid hs
            clear hin hs he hsn hlt hit hoth hsz hbel hgr hx hval hgx hb1 hst1 hx1 hdo hgv hmx hsel
            go_wp2_with fail
            go_roundg (leftOf es (seen.push born)).size
            case measure => rw [← HKQ.out]; exact HLT.out
            case rel =>
              refine ⟨seen.push born, done ++ [⟨.string s, val, born⟩], _, _, rfl, by rw [HS'.out]; exact HSN1, Lib.hid ((setBlock_other o (by omega)).trans HIT1.out), HMX, Lib.hid (HSEL.out.congr fun y _ => ?_), Lib.hid (HST1.out.keep (setBlock_other o (by omega))), Lib.hid (below_setBlock HB1.out (Nat.le_refl _) o)⟩
              rw [HDO.out y]
              exact ⟨fun h => h.elim (fun h => ⟨h.1, .inl h.2⟩) fun e => ⟨by rw [e]; exact HIN.out, .inr e⟩, fun h => h.2.elim (fun k => .inl ⟨h.1, k⟩) .inr⟩
    | succ mm =>
      have hi : i < m := by omega
      have hi' : i < ms.length := by have := HM.out; omega
      obtain ⟨mb, mo, hA, hmb, e0⟩ := HME.out i hi'
      subst hA
      obtain ⟨q, hq⟩ : ∃ q, q = ms[i] := ⟨_, rfl⟩
      rw [← hq] at e0
      have g0 := (HBW.out.cell (p := ⟨mb, mo + i, none⟩) hmb).trans e0
      have hQ : ms.take (i + 1) = ms.take i ++ [q] := by rw [List.take_add_one, List.getElem?_eq_getElem hi', ← hq]; rfl
      obtain ⟨o, hrun, hst⟩ := HST.out.update (P := Try.prog) Try.underlying94 Try.underlying9 q (.bool true)
      rw [← hQ] at hst
      have HST2 := Lib.hid hst
      have HIK := Lib.hid hik
      have hii0 : (0 : Int) ≤ (i : Int) := by omega
      have hiin : (i : Int) < (m : Int) := by omega
      clear hq hQ hik e0 hmb hst
      go_wp2_with fail
      go_roundg mm
      case measure => exact Nat.lt_succ_self mm
      case rel => exact ⟨i + 1, by simp, by have := HIK.out; omega, Lib.hid ((setBlock_other o (by omega)).trans HM0.out), HST2, Lib.hid (below_setBlock HBW.out (by omega) o), Lib.hid (by rw [setBlock_size]; exact HSZ.out)⟩
end Go.Proofs.Ytlkfdjnkkooofaa.Vals
