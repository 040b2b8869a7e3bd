/- Walks of sprig's Dig, and of the closure that impl.Dig hands to caught. -/
import Derived.Test.YtaclgcpfcejplaaValDh
import Derived.Test.YtaclgcpfcejplaaValC
namespace Go.Proofs.Ytaclgcpfcejplaa.Vals
open Go.RowKit Go.ChangeMaps Go.Proofs.YtaclgcpfcejplaaW.PrintWords Go.Proofs.Ytaclgcpfcejplaa.Txt
set_option linter.unusedVariables false
set_option maxRecDepth 20000

theorem sprigDigU_walk (o : V) (x : Value) (rest : List ByteArray) (k : ByteArray) (n : Int) (r : Nat) (t : ByteArray) (ks : List ByteArray) (l : List V) (dd : Int) (hR : Right (.mk 7 n r t ks l) dd) (u : V) (hu : dug o (k :: rest) (.mk 7 n r t ks l) = some u) (A : Option Addr) (c m : Nat) (b : Nat) (P Q : Nat → Prop) (w : World)
    (hm : MapIs w P ks l b) (ho : GoV w P o x) (hlm : rest.length + 1 = m) (h30 : m ≤ 30) (hk : RowIs w Q 1 (.slice A (m + 2) c) (m + 2) ((k :: rest).map faceT ++ [x, .iface 39 (.map (some b))])) :
    Calls Try.prog 17 #[.slice A (m + 2) c] w fun e w' => ∃ y, e = .returned (.tuple #[y, .nilIface]) ∧ Hid (GoV w' P u y) ∧ Hid (Below w.heap.size w w') := by
  have HC := Lib.hid (sprigdig_walk o x rest k n r t ks l dd hR u hu A c m b P Q w hm ho hlm h30 hk)
  obtain ⟨N, hN⟩ : ∃ N, N = m + 2 := ⟨_, rfl⟩
  rw [← hN] at HC ⊢
  clear hR hu hm ho hlm h30 hk hN
  go_enter Try.func17, Try.ntmps17
  go_wp2_with (go_at_call 23; refine HC.out.mono ?_; rintro e w' ⟨y, rfl, H⟩)
  go_ret2
  exact ⟨y, rfl, H⟩

set_option maxHeartbeats 8000000 in
theorem digClosure_walk (o : V) (x : Value) (rest : List ByteArray) (k : ByteArray) (n : Int) (r : Nat) (t : ByteArray) (ks : List ByteArray) (l : List V) (dd : Int) (hR : Right (.mk 7 n r t ks l) dd) (u : V) (hu : dug o (k :: rest) (.mk 7 n r t ks l) = some u) (G : Option Addr) (cap m b B pa px pb pz pe : Nat) (z0 z1 : Value) (W : World)
    (hm : MapIs W (fun z => z < B) ks l b) (ho : GoV W (fun z => z < B) o x) (hlm : rest.length + 1 = m) (h30 : m ≤ 30) (hB : B ≤ W.heap.size)
    (hown : W.ownsRow B 20 1 (.slice G m cap) m ((k :: rest).map faceT)) (ca : W.cell? ⟨pa, 0, none⟩ = some (.slice G m cap)) (cx : W.cell? ⟨px, 0, none⟩ = some x) (cb : W.cell? ⟨pb, 0, none⟩ = some (.map (some b)))
    (cz : W.cell? ⟨pz, 0, none⟩ = some z0) (fz : W.frozen? ⟨pz, 0, none⟩ = false) (ce : W.cell? ⟨pe, 0, none⟩ = some z1) (fe : W.frozen? ⟨pe, 0, none⟩ = false) (hze : pz ≠ pe) (hzo : some pz ≠ (Value.slice G m cap).ownBlock) (heo : some pe ≠ (Value.slice G m cap).ownBlock) :
    Calls Try.prog 16 #[.pointer (some ⟨pa, 0, none⟩), .pointer (some ⟨px, 0, none⟩), .pointer (some ⟨pb, 0, none⟩), .pointer (some ⟨pz, 0, none⟩), .pointer (some ⟨pe, 0, none⟩)] W
      fun e w' => e = .returned (.tuple #[]) ∧ ∃ y W2, Hid (GoV W2 (fun z => z < B) u y) ∧ Hid (W.grownBy W2 (Value.slice G m cap).ownBlock) ∧ w' = (W2.setCell ⟨pz, 0, none⟩ y).setCell ⟨pe, 0, none⟩ .nilIface := by
  obtain ⟨i0, hi0, hz0, hz1, hz2⟩ := info_parts ifaceInfo
  have hpz : pz < W.heap.size := World.block_lt_of_cell? W _ cz
  have hpe : pe < W.heap.size := World.block_lt_of_cell? W _ ce
  have hface : Face x := ho.face
  have hone : x.oneCell' = true := ho.one
  have hone2 : ∀ y ∈ [x, .iface 39 (.map (some b))], y.oneCell' = true := fun y hy => by
    rcases List.mem_cons.1 hy with rfl | hy
    · exact hone
    · rw [List.mem_singleton.1 hy]; rfl
  have HONE := Lib.hid hone2
  have HOWN := Lib.hid hown
  have HB := Lib.hid hB
  have HZE := Lib.hid (And.intro hpz (And.intro hpe (And.intro hze (And.intro hzo heo))))
  have HCZ := Lib.hid (And.intro cz (And.intro fz (And.intro ce fe)))
  have HDG : Hid (∀ (W2 : World) (A' : Option Addr) (c' : Nat), Below B W W2 → RowIs W2 (fun _ => True) 1 (.slice A' (m + 2) c') (m + 2) ((k :: rest).map faceT ++ [x, .iface 39 (.map (some b))]) →
      Calls Try.prog 17 #[.slice A' (m + 2) c'] W2 fun e w' => ∃ y, e = .returned (.tuple #[y, .nilIface]) ∧ Hid (GoV w' (fun z => z < B) u y) ∧ Hid (Below W2.heap.size W2 w')) := Lib.hid fun W2 A' c' hb hr =>
    sprigDigU_walk o x rest k n r t ks l dd hR u hu A' c' m b (fun z => z < B) (fun _ => True) W2 (hm.keep fun z hz _ => ⟨hz, hb.block z hz⟩) (GoV.keep (fun z hz _ => ⟨hz, hb.block z hz⟩) _ ho) hlm h30 hr
  have HM := Lib.hid (And.intro hlm h30)
  clear hR hu hm ho hlm h30 hB hown hone2 hpz hpe hze hzo heo cz fz ce fe
  rcases hface with rfl | ⟨tx, vx, rfl⟩
  · go_enter Try.func16, Try.ntmps16
    go_wp2_with (at_builtin; go_must (refine wpList_append_lies _ rfl _ _ 42 rfl B 20 i0 .nilIface 1 16 Try.underlying42 hi0 hz0 hz1 hz2 rfl (by decide) (.slice G m cap) m ((k :: rest).map faceT) rfl (HOWN.out.alloc _) ⟨W.heap.size, 0, none⟩ 2 2 [.nilIface, .iface 39 (.map (some b))] rfl rfl (news_cells _ _ _) HONE.out (by decide) (by unfold maxLen; have := HM.out.2; omega) (by have := HM.out.2; omega) (by have := HB.out; simp; omega) _ rfl ?_); intro g2 cap2 w3 hown2 hgrow hat hlt; refine Hid.out ?_)
    refine Lib.hid ?_
    have hgw : W.grownBy w3 (Value.slice G m cap).ownBlock := ⟨hgrow.os, hgrow.tape, hgrow.output, Nat.le_trans (by simp) hgrow.size, fun j hj hjr => (hgrow.block j (by simp; omega) hjr).trans (Below.heap_alloc W _ _ hj)⟩
    have hbw : Below B W w3 := (Below.refl B W).grown hgw HB.out (fun j hj => (HOWN.out.lt j hj).1)
    have HC := Lib.hid (HDG.out w3 (some ⟨g2, 0, none⟩) cap2 hbw (RowIs.of_own (P := fun _ => True) hown2 (fun _ _ => trivial)))
    have HGW := Lib.hid hgw
    clear hgw hbw hown2 hgrow hat hlt HDG
    go_wp2_with fail
    refine (HC.out).mono ?_
    rintro e w4 ⟨y, rfl, HY, HB4⟩
    have hgw : W.grownBy w4 (Value.slice G m cap).ownBlock := ⟨HB4.out.os.trans HGW.out.os, HB4.out.tape.trans HGW.out.tape, HB4.out.output.trans HGW.out.output, Nat.le_trans HGW.out.size HB4.out.size, fun j hj hjr => (HB4.out.block j (by have := HGW.out.size; omega)).trans (HGW.out.block j hj hjr)⟩
    have hbz := hgw.block pz HZE.out.1 HZE.out.2.2.2.1
    have hbe := hgw.block pe HZE.out.2.1 HZE.out.2.2.2.2
    have c1 : w4.cell? ⟨pz, 0, none⟩ = some z0 := (World.cell?_of_block (a := ⟨pz, 0, none⟩) hbz).trans HCZ.out.1
    have c2 : w4.frozen? ⟨pz, 0, none⟩ = false := (World.frozen?_of_block (a := ⟨pz, 0, none⟩) hbz).trans HCZ.out.2.1
    have c3 : w4.cell? ⟨pe, 0, none⟩ = some z1 := (World.cell?_of_block (a := ⟨pe, 0, none⟩) hbe).trans HCZ.out.2.2.1
    have c4 : w4.frozen? ⟨pe, 0, none⟩ = false := (World.frozen?_of_block (a := ⟨pe, 0, none⟩) hbe).trans HCZ.out.2.2.2
    have hne := HZE.out.2.2.1
    have HGW4 := Lib.hid hgw
    clear hgw hbz hbe ca cx cb HC
    rcases (HY.out.face : Face y) with rfl | ⟨ty, vy, rfl⟩
    all_goals
      go_wp2_with fail
      go_end0
      exact ⟨rfl, _, w4, HY, HGW4, rfl⟩
  · go_enter Try.func16, Try.ntmps16
    go_wp2_with (at_builtin; go_must (refine wpList_append_lies _ rfl _ _ 42 rfl B 20 i0 .nilIface 1 16 Try.underlying42 hi0 hz0 hz1 hz2 rfl (by decide) (.slice G m cap) m ((k :: rest).map faceT) rfl (HOWN.out.alloc _) ⟨W.heap.size, 0, none⟩ 2 2 [.iface tx vx, .iface 39 (.map (some b))] rfl rfl (news_cells _ _ _) HONE.out (by decide) (by unfold maxLen; have := HM.out.2; omega) (by have := HM.out.2; omega) (by have := HB.out; simp; omega) _ rfl ?_); intro g2 cap2 w3 hown2 hgrow hat hlt; refine Hid.out ?_)
    refine Lib.hid ?_
    have hgw : W.grownBy w3 (Value.slice G m cap).ownBlock := ⟨hgrow.os, hgrow.tape, hgrow.output, Nat.le_trans (by simp) hgrow.size, fun j hj hjr => (hgrow.block j (by simp; omega) hjr).trans (Below.heap_alloc W _ _ hj)⟩
    have hbw : Below B W w3 := (Below.refl B W).grown hgw HB.out (fun j hj => (HOWN.out.lt j hj).1)
    have HC := Lib.hid (HDG.out w3 (some ⟨g2, 0, none⟩) cap2 hbw (RowIs.of_own (P := fun _ => True) hown2 (fun _ _ => trivial)))
    have HGW := Lib.hid hgw
    clear hgw hbw hown2 hgrow hat hlt HDG
    go_wp2_with fail
    refine (HC.out).mono ?_
    rintro e w4 ⟨y, rfl, HY, HB4⟩
    have hgw : W.grownBy w4 (Value.slice G m cap).ownBlock := ⟨HB4.out.os.trans HGW.out.os, HB4.out.tape.trans HGW.out.tape, HB4.out.output.trans HGW.out.output, Nat.le_trans HGW.out.size HB4.out.size, fun j hj hjr => (HB4.out.block j (by have := HGW.out.size; omega)).trans (HGW.out.block j hj hjr)⟩
    have hbz := hgw.block pz HZE.out.1 HZE.out.2.2.2.1
    have hbe := hgw.block pe HZE.out.2.1 HZE.out.2.2.2.2
    have c1 : w4.cell? ⟨pz, 0, none⟩ = some z0 := (World.cell?_of_block (a := ⟨pz, 0, none⟩) hbz).trans HCZ.out.1
    have c2 : w4.frozen? ⟨pz, 0, none⟩ = false := (World.frozen?_of_block (a := ⟨pz, 0, none⟩) hbz).trans HCZ.out.2.1
    have c3 : w4.cell? ⟨pe, 0, none⟩ = some z1 := (World.cell?_of_block (a := ⟨pe, 0, none⟩) hbe).trans HCZ.out.2.2.1
    have c4 : w4.frozen? ⟨pe, 0, none⟩ = false := (World.frozen?_of_block (a := ⟨pe, 0, none⟩) hbe).trans HCZ.out.2.2.2
    have hne := HZE.out.2.2.1
    have HGW4 := Lib.hid hgw
    clear hgw hbz hbe ca cx cb HC
    rcases (HY.out.face : Face y) with rfl | ⟨ty, vy, rfl⟩
    all_goals
      go_wp2_with fail
      go_end0
      exact ⟨rfl, _, w4, HY, HGW4, rfl⟩
end Go.Proofs.Ytaclgcpfcejplaa.Vals
