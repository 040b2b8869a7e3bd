/- Walks of sprig's dig and Dig. -/
import Derived.Test.YtaclgcpfcejplaaValDg
import Derived.OwnWalk
import Derived.IntWalk
namespace Go.Proofs.Ytaclgcpfcejplaa.Vals
open Go.RowKit Go.ChangeMaps Go.Proofs.YtaclgcpfcejplaaW.PrintWords Go.Proofs.Ytaclgcpfcejplaa.Txt
set_option linter.unusedVariables false
set_option maxRecDepth 20000

/-- A row of one-celled elements of the call's own: one is overwritten. -/
theorem own_set1 {w : World} {B : Nat} {e : TypeId} {g n cap a : Nat} {xs : List Value} (h : w.ownsRow B e 1 (.slice (some ⟨g, 0, none⟩) n cap) n xs) (ha : a < n) (v : Value) {w' : World} (hw : w' = w.setCell ⟨g, a, none⟩ v) :
    w'.ownsRow B e 1 (.slice (some ⟨g, 0, none⟩) n cap) n (xs.set a v) ∧ (∀ k, k ≠ g → w'.heap[k]? = w.heap[k]?) ∧ Below g w w' := by
  obtain ⟨hl, hc⟩ := h
  rcases hc with ⟨h0, _⟩ | ⟨g', cap', cur, hv, hb, hh, h1, h2, h3, h4⟩
  · cases h0
  injection hv with hv1 _ hv3
  injection hv1 with hv1
  injection hv1 with hv1
  subst hv1
  subst hv3
  have h5 := blk_set hh a v
  rw [← hw] at h5
  refine ⟨⟨by simp [hl], .inr ⟨g, cap, _, rfl, hb, h5, h1, h2, by simp [h3], ?_⟩⟩, fun k hk => ?_, ?_⟩
  · simp only [Array.toList_setIfInBounds]
    rw [← h4, List.take_set]
  · rw [hw, Below.heap_setCell _ _ _ _ hk]
  · rw [hw]; exact (Below.refl _ _).setCell (p := ⟨g, a, none⟩) (Nat.le_refl _) v

def faceT (s : ByteArray) : Value := .iface 9 (.string s)
set_option maxHeartbeats 8000000 in
theorem sprigdig_walk (o : V) (x : Value) (rest : List ByteArray) (k : ByteArray) (n : Int) (r : Nat) (t : ByteArray) (ks : List ByteArray) (l : List V) (dd : Int) (hR : Right (.mk 7 n r t ks l) dd) (u : V) (hu : dug o (k :: rest) (.mk 7 n r t ks l) = some u) (A : Option Addr) (c m : Nat) (b : Nat) (P Q : Nat → Prop) (w : World)
    (hm : MapIs w P ks l b) (ho : GoV w P o x) (hlm : rest.length + 1 = m) (h30 : m ≤ 30) (hk : RowIs w Q 1 (.slice A (m + 2) c) (m + 2) ((k :: rest).map faceT ++ [x, .iface 39 (.map (some b))])) :
    Calls Try.prog 23 #[.slice A (m + 2) c] w fun e w' => ∃ y, e = .returned (.tuple #[y, .nilIface]) ∧ Hid (GoV w' P u y) ∧ Hid (Below w.heap.size w w') := by
  obtain ⟨hnc, hcm⟩ := hk.sizes
  unfold maxLen at hcm
  obtain ⟨ab, ao, hA, hq, hc⟩ := hk.elem (by omega)
  subst hA
  have hab : ab < w.heap.size := World.block_lt_of_cell? w _ (hc 0 (faceT k) (by simp))
  have hcm1 : w.cell? ⟨ab, ao + m, none⟩ = some x := hc m x (by
    rw [List.getElem?_append_right (by simp; omega)]; simp [hlm])
  have hcm2 : w.cell? ⟨ab, ao + (m + 1), none⟩ = some (.iface 39 (.map (some b))) := hc (m + 1) _ (by
    rw [List.getElem?_append_right (by simp; omega)]; simp only [List.length_map, List.length_cons, hlm]; rw [show m + 1 - m = 1 by omega]; rfl)
  have hce : ∀ i s, (k :: rest)[i]? = some s → w.cell? ⟨ab, ao + i, none⟩ = some (faceT s) := fun i s hi => hc i _ (by
    have hil := (List.getElem?_eq_some_iff.1 hi).1
    rw [List.getElem?_append_left (by simpa using hil), List.getElem?_map, hi]; rfl)
  obtain ⟨j0, hj0, jz0, jz1, jz2⟩ := info_parts textInfo
  obtain ⟨N, hN⟩ : ∃ N, N = m + 2 := ⟨_, rfl⟩
  obtain ⟨M1, hM1⟩ : ∃ M1, M1 = m + 1 := ⟨_, rfl⟩
  rw [← hN] at hnc ⊢
  rw [← hM1] at hcm2
  have hd3 : decide ((N : Int) < 3) = false := by simp; omega
  have hw1 : IntKind.i64.wrap ((N : Int) - 1) = (M1 : Int) := by rw [show (N : Int) - 1 = (M1 : Int) by omega]; exact IntWalk.i64_in _ (by omega)
  have hw2 : IntKind.i64.wrap ((N : Int) - 2) = (m : Int) := by rw [show (N : Int) - 2 = (m : Int) by omega]; exact IntWalk.i64_in _ (by omega)
  have hb1 : (M1 : Int) < (N : Int) := by omega
  have hb2 : (m : Int) < (N : Int) := by omega
  have hcast : ∀ W, (Instr.typeAssert (.iface 39 (.map (some b))) 20 39 false).run Try.prog W = .ok (.map (some b)) W := fun W => by kernel_rfl
  have hcst : ∀ W s, (Instr.typeAssert (.iface 9 (.string s)) 20 9 false).run Try.prog W = .ok (.string s) W := fun W s => by kernel_rfl
  have HCE := Lib.hid (And.intro hce hab)
  have HNM := Lib.hid (And.intro hN (And.intro hlm h30))
  have HDF : Hid (∀ (A' : Option Addr) (W : World), Below w.heap.size w W → RowIs W (fun _ => True) 1 (.slice A' m m) m ((k :: rest).map Value.string) →
      Calls Try.prog 26 #[.map (some b), x, .slice A' m m] W fun e w' => ∃ y, e = .returned (.tuple #[y, .nilIface]) ∧ Hid (GoV w' P u y) ∧ Hid (Below W.heap.size W w')) := Lib.hid fun A' W hW hr => by
    have hm' := hm.keep (Kept.below hW)
    subst hlm
    exact digFrom_walk o x rest k n r t ks l dd hR u hu A' (rest.length + 1) rest.length b P (fun _ => True) W hm' (GoV.keep (Kept.below hW) _ ho) rfl hr
  clear hR hu hm ho hk hc hce hab hN hM1 hlm hq
  go_enter Try.func23, Try.ntmps23
  go_wp2_with (at_make; refine wpList_make_full _ rfl _ _ 22 rfl w.heap.size 9 j0 _ 1 Try.underlying22 hj0 jz0 jz1 .i64 .i64 _ _ m rfl rfl rfl rfl (by rw [jz2]; omega) (by unfold maxLen; omega) (Nat.le_refl _) ?_; intro w1 hown hgr; refine Hid.out ?_)
  refine Lib.hid ?_
  have hbe : Below w.heap.size w w1 := (Below.refl _ _).grown hgr (Nat.le_refl _) (fun k hk => by cases hk)
  obtain ⟨g, hg⟩ : ∃ g, g = w.heap.size := ⟨_, rfl⟩
  rw [← hg] at hown ⊢
  have HOWN := Lib.hid hown
  have HBE := Lib.hid hbe
  have HG := Lib.hid hg
  clear hown hgr hbe hg
  go_wp2_with fail
  go_loopg [7] m (fun kq v7 wr => ∃ (i : Nat) (xs : List Value), v7 = .int .i64 (i : Int) ∧ i + kq = m ∧ Hid (wr.ownsRow g 9 1 (.slice (some ⟨g, 0, none⟩) m m) m xs) ∧ Hid (xs.length = m) ∧ Hid (∀ j, j < i → ∀ s, (k :: rest)[j]? = some s → xs[j]? = some (.string s)) ∧ Hid (Below w.heap.size w wr))
  case atStart => exact ⟨0, _, rfl, by omega, HOWN, Lib.hid (by have := HOWN.out.1; simpa using this), Lib.hid (fun j hj => by omega), HBE⟩
  case round =>
    obtain ⟨i, xs, rfl, hik, HO, HXL, HXE, HBW⟩ := hrel
    cases gk with
    | zero =>
      have hi : ¬ i < m := by omega
      have hxs : xs = (k :: rest).map Value.string := by
        have hlm := HNM.out.2.1
        apply List.ext_getElem?
        intro j
        rcases Nat.lt_or_ge j m with h | h
        · have hjl : j < (k :: rest).length := by simp; omega
          rw [HXE.out j (by omega) _ (List.getElem?_eq_getElem hjl), List.getElem?_map, List.getElem?_eq_getElem hjl]; rfl
        · rw [List.getElem?_eq_none (by have := HXL.out; omega), List.getElem?_eq_none (by simp; omega)]
      have hrow : RowIs wr (fun _ => True) 1 (.slice (some ⟨g, 0, none⟩) m m) m ((k :: rest).map Value.string) := by
        rw [← hxs]; exact RowIs.of_own (P := fun _ => True) HO.out (fun _ _ => trivial)
      have HC := Lib.hid (HDF.out _ wr HBW.out hrow)
      clear hik hxs hrow
      go_wp2_with fail
      refine (HC.out).mono ?_
      rintro e w2 ⟨y, rfl, HY, HB2⟩
      go_wp2_with fail
      go_ret2
      exact ⟨y, rfl, HY, Lib.hid (HBW.out.trans (HB2.out.mono HBW.out.size))⟩
    | succ mm =>
      have hi : i < m := by omega
      have hil : i < (k :: rest).length := by have := HNM.out.2.1; simp; omega
      obtain ⟨q, hq⟩ : ∃ q, q = (k :: rest)[i] := ⟨_, rfl⟩
      have hqe : (k :: rest)[i]? = some q := by rw [hq]; exact List.getElem?_eq_getElem hil
      have e0 := HCE.out.1 i q hqe
      unfold faceT at e0
      have g0 := (HBW.out.cell (p := ⟨ab, ao + i, none⟩) HCE.out.2).trans e0
      obtain ⟨⟨y0, k0⟩, f0⟩ := own_cell HO.out (j := i) (by omega)
      have HQ := Lib.hid hqe
      have HIK := Lib.hid hik
      have hii0 : (0 : Int) ≤ (i : Int) := by omega
      have hiin : (i : Int) < (N : Int) := by omega
      have hiim : (i : Int) < (m : Int) := by omega
      clear hik hil hq hqe e0
      go_wp2_with fail
      obtain ⟨w2, hw2⟩ : ∃ w2, w2 = wr.setCell ⟨g, i, none⟩ (.string q) := ⟨_, rfl⟩
      obtain ⟨o1, o2, o3⟩ := own_set1 HO.out hi (.string q) hw2
      go_roundg mm
      case measure => exact Nat.lt_succ_self mm
      case rel =>
        rw [← hw2]
        refine ⟨i + 1, _, by simp, by have := HIK.out; omega, Lib.hid o1, Lib.hid (by rw [List.length_set]; exact HXL.out), Lib.hid (fun j hj s hs => ?_), Lib.hid (HBW.out.trans (o3.mono (by rw [HG.out]; exact Nat.le_refl _)))⟩
        by_cases hji : j = i
        · subst hji
          rw [HQ.out] at hs
          injection hs with hs
          rw [List.getElem?_set_self (by have := HXL.out; omega), hs]
        · rw [List.getElem?_set_ne (Ne.symm hji)]
          exact HXE.out j (by omega) s hs
end Go.Proofs.Ytaclgcpfcejplaa.Vals
