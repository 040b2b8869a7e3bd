/- Semantic versions: walk of zzLoose. -/
import Derived.Test.YtmoilbhkjmhoaaaDoorSvLoose
namespace Go.Proofs.YtmoilbhkjmhoaaaDoor.Sv
open Go.RowKit Go.Proofs.YtmoilbhkjmhoaaaDoor.PFnSemverOrderThree Go.Proofs.YtmoilbhkjmhoaaaDoorW.PrintWords Go.Proofs.YtmoilbhkjmhoaaaDoor.Txt Go.Proofs.YtmoilbhkjmhoaaaDoor
set_option linter.unusedVariables false
set_option linter.unusedSimpArgs false
set_option maxRecDepth 20000

theorem ext_self {v : ByteArray} (p : Nat) : v.extract p p = ⟨#[]⟩ := by apply ext_eq; rw [tl_extract, Nat.sub_self, List.take_zero, tl_nil]
theorem ext_gt {v : ByteArray} (p : Nat) : v.extract (p + 1) p = ⟨#[]⟩ := by apply ext_eq; rw [tl_extract, show p - (p + 1) = 0 by omega, List.take_zero, tl_nil]
abbrev E0 : Value := .string ⟨#[]⟩
/-- A block of nine texts. -/
def Nine (w : World) (b : Nat) (c0 c1 c2 c3 c4 c5 c6 c7 c8 : Value) : Prop := w.heap[b]? = some (.cells #[c0, c1, c2, c3, c4, c5, c6, c7, c8] 9 (0, 0))
theorem Nine.below {w w' : World} {b : Nat} {c0 c1 c2 c3 c4 c5 c6 c7 c8 : Value} (h : Nine w b c0 c1 c2 c3 c4 c5 c6 c7 c8) (hb : Below w.heap.size w w') : Nine w' b c0 c1 c2 c3 c4 c5 c6 c7 c8 := (hb.block _ (blk_lt h)).trans h
theorem Nine.cell {w : World} {b : Nat} {c0 c1 c2 c3 c4 c5 c6 c7 c8 : Value} (h : Nine w b c0 c1 c2 c3 c4 c5 c6 c7 c8) (j : Nat) : w.cell? ⟨b, j, none⟩ = #[c0, c1, c2, c3, c4, c5, c6, c7, c8][j]? ∧ w.frozen? ⟨b, j, none⟩ = false := by
  unfold Nine at h
  exact ⟨by rw [blk_cell h], by simp [World.frozen?, h]⟩
theorem digits_calls {v : ByteArray} {i : Int} {r : Int} (h : Ev (fun k => semver_zzDigits.f k v i) r) (w : World) : Calls Tryd.prog 52 #[.string v, .int .i64 i] w fun e w' => e = .returned (.int .i64 r) ∧ Drawn0 w w' := by
  obtain ⟨k, hk⟩ := Ev.rounds h
  exact semver_zzDigits.calls k v i r w hk
theorem parts_calls {v : ByteArray} {i c : Int} {r : Int} (h : Ev (fun k => semver_zzParts.f k v i c) r) (w : World) : Calls Tryd.prog 53 #[.string v, .int .i64 i, .int .u8 c] w fun e w' => e = .returned (.int .i64 r) ∧ Drawn0 w w' := by
  obtain ⟨k, hk⟩ := Ev.rounds h
  exact semver_zzParts.calls k v i c r w hk
/-- What zzLoose makes. -/
def LooseRes (v : ByteArray) (p1 p2 p3 p4 : Nat) (w : World) (e : Ending) (w' : World) : Prop := ∃ b, e = .returned (.slice (some ⟨b, 0, none⟩) 9 9) ∧ w.heap.size ≤ b ∧
  Hid (Nine w' b (.string v) (.string (v.extract 0 p1)) (.string (v.extract p1 p2)) (.string (v.extract p2 p3)) (.string (v.extract p3 p4)) (.string (v.extract (p3 + 1) p4)) E0 (.string (v.extract p4 v.size)) (.string (v.extract (p4 + 1) v.size))) ∧ Hid (Below w.heap.size w w')
set_option maxHeartbeats 4000000 in
theorem zzLoose_1 (v : ByteArray) (hv : v.size ≤ 256) (bp bm : Bool) (p1 p2 p3 p4 : Nat) (C : Cuts v false false bp bm p1 p2 p3 p4) (w : World) :
    Calls Tryd.prog 41 #[.string v] w (LooseRes v p1 p2 p3 p4 w) := by
  have HPP : Hid (if bp = true then p3 < p4 else p4 = p3) := Lib.hid C.pp
  have HPM : Hid (if bm = true then p4 < v.size else p4 = v.size) := Lib.hid C.pm
  have h1 := C.h1
  have hv0 : 0 < v.size := by have := C.h12; have := C.h23; have := C.h34; have := C.h45; omega
  have h12 := C.h12
  have h23 := C.h23
  have h34 := C.h34
  have h45 := C.h45
  have c0 : (((v[0]'hv0).toNat : Int) == 118) = false := by have := C.c0 hv0; simp; omega
  have HD1 := Lib.hid (fun W => digits_calls C.e1 W)
  have HP4 := Lib.hid (fun W => parts_calls C.e4 W)
  have HP5 := Lib.hid (fun W => parts_calls C.e5 W)
  obtain ⟨e2, x2⟩ := C.notwo rfl
  obtain ⟨e3, _⟩ := C.nothree rfl
  have e2' := e2.symm
  subst e2'
  have e3' := e3.symm
  subst e3'
  have X2 := Lib.hid x2
  clear x2
  have hmk : ∀ W, (Instr.makeSlice 44 (.int .i64 9) (.int .i64 9)).run Tryd.prog W = .ok (.slice (some ⟨W.heap.size, 0, none⟩) 9 9) (W.alloc (.cells #[E0, E0, E0, E0, E0, E0, E0, E0, E0] 9)) := fun W => by kernel_rfl
  have hp1 : ((p1 : Int) == 0) = false := by simp; omega
  have n0 : Nine (w.alloc (.cells #[.string v, E0, E0, E0, E0, E0, E0, E0, E0] 9)) w.heap.size (.string v) E0 E0 E0 E0 E0 E0 E0 E0 := heap_alloc_new w _
  have HN0 := Lib.hid n0
  have HB0 := Lib.hid ((Below.refl w.heap.size w).alloc (Nat.le_refl _) (.cells #[.string v, E0, E0, E0, E0, E0, E0, E0, E0] 9))
  clear C n0
  go_enter Tryd.func41, Tryd.ntmps41
  go_wp2_with fail
  refine (HD1.out _).mono ?_
  rintro e w1 ⟨rfl, hd_⟩
  have hn_ := HN0.out.below hd_.below
  have HB1 := Lib.hid (HB0.out.trans (hd_.below.mono HB0.out.size))
  have HN1 := Lib.hid hn_
  obtain ⟨kk_, f1⟩ := hn_.cell 1
  have k1 : w1.cell? ⟨w.heap.size, 1, none⟩ = some E0 := kk_
  clear kk_
  clear hn_ hd_
  go_wp2_with fail
  obtain ⟨w2, hw_⟩ : ∃ w2, w2 = w1.setCell ⟨w.heap.size, 1, none⟩ (.string (v.extract 0 p1)) := ⟨_, rfl⟩
  have hn_ : Nine w2 w.heap.size (.string v) (.string (v.extract 0 p1)) E0 E0 E0 E0 E0 E0 E0 := by rw [hw_]; exact blk_set HN1.out 1 _
  have HB2 : Hid (Below w.heap.size w w2) := Lib.hid (by rw [hw_]; exact HB1.out.setCell (p := ⟨w.heap.size, 1, none⟩) (Nat.le_refl _) _)
  have HN2 := Lib.hid hn_
  rw [← hw_]
  clear hn_ hw_
  clear k1 f1
  refine wp_loop_rounds 1 ?_
  rcases Nat.lt_or_ge p1 v.size with hlt | hge
  · have x2 : (((v[p1]'hlt).toNat : Int) == 46) = false := by have := X2.out hlt; simp; omega
    have hlt' : (p1 : Int) < (v.size : Int) := by omega
    rw [rounds_succ]
    go_wp2_with fail
    refine (HP4.out _).mono ?_
    rintro e w3 ⟨rfl, hd_⟩
    have hn_ := HN2.out.below hd_.below
    have HB3 := Lib.hid (HB2.out.trans (hd_.below.mono HB2.out.size))
    have HN3 := Lib.hid hn_
    obtain ⟨kk_, f4⟩ := hn_.cell 4
    have k4 : w3.cell? ⟨w.heap.size, 4, none⟩ = some E0 := kk_
    clear kk_
    obtain ⟨kk_, f5⟩ := hn_.cell 5
    have k5 : w3.cell? ⟨w.heap.size, 5, none⟩ = some E0 := kk_
    clear kk_
    clear hn_ hd_
    cases bp with
    | false =>
      have e4 : p4 = p1 := HPP.out
      have e4' := e4.symm
      subst e4'
      have g4 : decide ((p1 : Int) < (p1 : Int)) = false := by simp
      clear k4 f4 k5 f5
      go_wp2_with fail
      refine (HP5.out _).mono ?_
      rintro e w6 ⟨rfl, hd_⟩
      have hn_ := HN3.out.below hd_.below
      have HB6 := Lib.hid (HB3.out.trans (hd_.below.mono HB3.out.size))
      have HN6 := Lib.hid hn_
      obtain ⟨kk_, f7⟩ := hn_.cell 7
      have k7 : w6.cell? ⟨w.heap.size, 7, none⟩ = some E0 := kk_
      clear kk_
      obtain ⟨kk_, f8⟩ := hn_.cell 8
      have k8 : w6.cell? ⟨w.heap.size, 8, none⟩ = some E0 := kk_
      clear kk_
      clear hn_ hd_
      have gv : ((v.size : Int) == (v.size : Int)) = true := by simp
      have gv' : ((v.size : Int) != (v.size : Int)) = false := by simp
      cases bm with
      | false =>
        have e5 : p1 = v.size := HPM.out
        exact absurd e5 (by omega)
      | true =>
        have e5 : p1 < v.size := HPM.out
        have g5 : decide ((p1 : Int) < (v.size : Int)) = true := by simp; omega
        have g5' : decide (p1 < v.size) = true := by simp; omega
        have hw_ : IntKind.i64.wrap ((p1 : Int) + 1) = (p1 : Int) + 1 := IntWalk.i64_in _ (by omega)
        have ht_ : ((p1 : Int) + 1).toNat = p1 + 1 := by omega
        have hb1_ : (0 : Int) ≤ (p1 : Int) + 1 := by omega
        have hb2_ : (p1 : Int) + 1 ≤ (v.size : Int) := by omega
        have hb3_ : (p1 : Int) ≤ (v.size : Int) := by omega
        go_upto_region 21 with fail
        go_region
        clear hw_ ht_ hb1_ hb2_ hb3_
        obtain ⟨w7, hw_⟩ : ∃ w7, w7 = ((w6.setCell ⟨w.heap.size, 7, none⟩ (.string (v.extract p1 v.size))).setCell ⟨w.heap.size, 8, none⟩ (.string (v.extract (p1 + 1) v.size))).drew := ⟨_, rfl⟩
        have hn_ : Nine w7 w.heap.size (.string v) (.string (v.extract 0 p1)) E0 E0 E0 E0 E0 (.string (v.extract p1 v.size)) (.string (v.extract (p1 + 1) v.size)) := by rw [hw_]; exact blk_set (blk_set HN6.out 7 _) 8 _
        have HB7 : Hid (Below w.heap.size w w7) := Lib.hid (by rw [hw_]; exact Below.trans ((HB6.out.setCell (p := ⟨w.heap.size, 7, none⟩) (Nat.le_refl _) _).setCell (p := ⟨w.heap.size, 8, none⟩) (Nat.le_refl _) _) ⟨rfl, rfl, rfl, Nat.le_refl _, fun _ _ => rfl⟩)
        have HN7 := Lib.hid hn_
        rw [← hw_]
        clear hn_ hw_
        go_wp2_with fail
        go_ret
        refine ⟨w.heap.size, rfl, Nat.le_refl _, Lib.hid ?_, HB7⟩
        try simp only [ext_self, ext_gt]
        exact HN7.out
    | true =>
      have e4 : p1 < p4 := HPP.out
      have g4 : decide ((p1 : Int) < (p4 : Int)) = true := by simp; omega
      have g4' : decide (p1 < p4) = true := by simp; omega
      have hw_ : IntKind.i64.wrap ((p1 : Int) + 1) = (p1 : Int) + 1 := IntWalk.i64_in _ (by omega)
      have ht_ : ((p1 : Int) + 1).toNat = p1 + 1 := by omega
      have hb1_ : (0 : Int) ≤ (p1 : Int) + 1 := by omega
      have hb2_ : (p1 : Int) + 1 ≤ (p4 : Int) := by omega
      have hb3_ : (p1 : Int) ≤ (p4 : Int) := by omega
      have hb4_ : (p4 : Int) ≤ (v.size : Int) := by omega
      go_upto_region 18 with fail
      go_region
      clear hw_ ht_ hb1_ hb2_ hb3_ hb4_
      obtain ⟨w5, hw_⟩ : ∃ w5, w5 = ((w3.setCell ⟨w.heap.size, 4, none⟩ (.string (v.extract p1 p4))).setCell ⟨w.heap.size, 5, none⟩ (.string (v.extract (p1 + 1) p4))).drew := ⟨_, rfl⟩
      have hn_ : Nine w5 w.heap.size (.string v) (.string (v.extract 0 p1)) E0 E0 (.string (v.extract p1 p4)) (.string (v.extract (p1 + 1) p4)) E0 E0 E0 := by rw [hw_]; exact blk_set (blk_set HN3.out 4 _) 5 _
      have HB5 : Hid (Below w.heap.size w w5) := Lib.hid (by rw [hw_]; exact Below.trans ((HB3.out.setCell (p := ⟨w.heap.size, 4, none⟩) (Nat.le_refl _) _).setCell (p := ⟨w.heap.size, 5, none⟩) (Nat.le_refl _) _) ⟨rfl, rfl, rfl, Nat.le_refl _, fun _ _ => rfl⟩)
      have HN5 := Lib.hid hn_
      rw [← hw_]
      clear hn_ hw_
      go_wp2_with fail
      refine (HP5.out _).mono ?_
      rintro e w6 ⟨rfl, hd_⟩
      have hn_ := HN5.out.below hd_.below
      have HB6 := Lib.hid (HB5.out.trans (hd_.below.mono HB5.out.size))
      have HN6 := Lib.hid hn_
      obtain ⟨kk_, f7⟩ := hn_.cell 7
      have k7 : w6.cell? ⟨w.heap.size, 7, none⟩ = some E0 := kk_
      clear kk_
      obtain ⟨kk_, f8⟩ := hn_.cell 8
      have k8 : w6.cell? ⟨w.heap.size, 8, none⟩ = some E0 := kk_
      clear kk_
      clear hn_ hd_
      have gv : ((v.size : Int) == (v.size : Int)) = true := by simp
      have gv' : ((v.size : Int) != (v.size : Int)) = false := by simp
      cases bm with
      | false =>
        have e5 : p4 = v.size := HPM.out
        have g5 : decide ((p4 : Int) < (v.size : Int)) = false := by rw [e5]; simp
        have g5' : decide (p4 < v.size) = false := by rw [e5]; simp
        have g6 : ((p4 : Int) != (v.size : Int)) = false := by rw [e5]; simp
        have g7 : ((p4 : Int) == (v.size : Int)) = true := by rw [e5]; simp
        have E5 := Lib.hid e5
        clear e5 k7 f7 k8 f8
        go_wp2_with fail
        go_ret
        refine ⟨w.heap.size, rfl, Nat.le_refl _, Lib.hid ?_, HB6⟩
        have q1 : v.extract p4 v.size = ⟨#[]⟩ := by rw [← E5.out]; exact ext_self _
        have q2 : v.extract (p4 + 1) v.size = ⟨#[]⟩ := by rw [← E5.out]; exact ext_gt _
        simp only [ext_self, ext_gt, q1, q2]
        exact HN6.out
      | true =>
        have e5 : p4 < v.size := HPM.out
        have g5 : decide ((p4 : Int) < (v.size : Int)) = true := by simp; omega
        have g5' : decide (p4 < v.size) = true := by simp; omega
        have hw_ : IntKind.i64.wrap ((p4 : Int) + 1) = (p4 : Int) + 1 := IntWalk.i64_in _ (by omega)
        have ht_ : ((p4 : Int) + 1).toNat = p4 + 1 := by omega
        have hb1_ : (0 : Int) ≤ (p4 : Int) + 1 := by omega
        have hb2_ : (p4 : Int) + 1 ≤ (v.size : Int) := by omega
        have hb3_ : (p4 : Int) ≤ (v.size : Int) := by omega
        go_upto_region 21 with fail
        go_region
        clear hw_ ht_ hb1_ hb2_ hb3_
        obtain ⟨w7, hw_⟩ : ∃ w7, w7 = ((w6.setCell ⟨w.heap.size, 7, none⟩ (.string (v.extract p4 v.size))).setCell ⟨w.heap.size, 8, none⟩ (.string (v.extract (p4 + 1) v.size))).drew := ⟨_, rfl⟩
        have hn_ : Nine w7 w.heap.size (.string v) (.string (v.extract 0 p1)) E0 E0 (.string (v.extract p1 p4)) (.string (v.extract (p1 + 1) p4)) E0 (.string (v.extract p4 v.size)) (.string (v.extract (p4 + 1) v.size)) := by rw [hw_]; exact blk_set (blk_set HN6.out 7 _) 8 _
        have HB7 : Hid (Below w.heap.size w w7) := Lib.hid (by rw [hw_]; exact Below.trans ((HB6.out.setCell (p := ⟨w.heap.size, 7, none⟩) (Nat.le_refl _) _).setCell (p := ⟨w.heap.size, 8, none⟩) (Nat.le_refl _) _) ⟨rfl, rfl, rfl, Nat.le_refl _, fun _ _ => rfl⟩)
        have HN7 := Lib.hid hn_
        rw [← hw_]
        clear hn_ hw_
        go_wp2_with fail
        go_ret
        refine ⟨w.heap.size, rfl, Nat.le_refl _, Lib.hid ?_, HB7⟩
        try simp only [ext_self, ext_gt]
        exact HN7.out
  · have hge' : ¬ (p1 : Int) < (v.size : Int) := by omega
    rw [rounds_succ]
    go_wp2_with fail
    refine (HP4.out _).mono ?_
    rintro e w3 ⟨rfl, hd_⟩
    have hn_ := HN2.out.below hd_.below
    have HB3 := Lib.hid (HB2.out.trans (hd_.below.mono HB2.out.size))
    have HN3 := Lib.hid hn_
    obtain ⟨kk_, f4⟩ := hn_.cell 4
    have k4 : w3.cell? ⟨w.heap.size, 4, none⟩ = some E0 := kk_
    clear kk_
    obtain ⟨kk_, f5⟩ := hn_.cell 5
    have k5 : w3.cell? ⟨w.heap.size, 5, none⟩ = some E0 := kk_
    clear kk_
    clear hn_ hd_
    cases bp with
    | false =>
      have e4 : p4 = p1 := HPP.out
      have e4' := e4.symm
      subst e4'
      have g4 : decide ((p1 : Int) < (p1 : Int)) = false := by simp
      clear k4 f4 k5 f5
      go_wp2_with fail
      refine (HP5.out _).mono ?_
      rintro e w6 ⟨rfl, hd_⟩
      have hn_ := HN3.out.below hd_.below
      have HB6 := Lib.hid (HB3.out.trans (hd_.below.mono HB3.out.size))
      have HN6 := Lib.hid hn_
      obtain ⟨kk_, f7⟩ := hn_.cell 7
      have k7 : w6.cell? ⟨w.heap.size, 7, none⟩ = some E0 := kk_
      clear kk_
      obtain ⟨kk_, f8⟩ := hn_.cell 8
      have k8 : w6.cell? ⟨w.heap.size, 8, none⟩ = some E0 := kk_
      clear kk_
      clear hn_ hd_
      have gv : ((v.size : Int) == (v.size : Int)) = true := by simp
      have gv' : ((v.size : Int) != (v.size : Int)) = false := by simp
      cases bm with
      | false =>
        have e5 : p1 = v.size := HPM.out
        have g5 : decide ((p1 : Int) < (v.size : Int)) = false := by rw [e5]; simp
        have g5' : decide (p1 < v.size) = false := by rw [e5]; simp
        have g6 : ((p1 : Int) != (v.size : Int)) = false := by rw [e5]; simp
        have g7 : ((p1 : Int) == (v.size : Int)) = true := by rw [e5]; simp
        have E5 := Lib.hid e5
        clear e5 k7 f7 k8 f8
        go_wp2_with fail
        go_ret
        refine ⟨w.heap.size, rfl, Nat.le_refl _, Lib.hid ?_, HB6⟩
        have q1 : v.extract p1 v.size = ⟨#[]⟩ := by rw [← E5.out]; exact ext_self _
        have q2 : v.extract (p1 + 1) v.size = ⟨#[]⟩ := by rw [← E5.out]; exact ext_gt _
        simp only [ext_self, ext_gt, q1, q2]
        exact HN6.out
      | true =>
        have e5 : p1 < v.size := HPM.out
        exact absurd e5 (by omega)
    | true =>
      have e4 : p1 < p4 := HPP.out
      exact absurd e4 (by omega)
set_option maxHeartbeats 4000000 in
theorem zzLoose_2 (v : ByteArray) (hv : v.size ≤ 256) (bp bm : Bool) (p1 p2 p3 p4 : Nat) (C : Cuts v true false bp bm p1 p2 p3 p4) (w : World) :
    Calls Tryd.prog 41 #[.string v] w (LooseRes v p1 p2 p3 p4 w) := by
  have HPP : Hid (if bp = true then p3 < p4 else p4 = p3) := Lib.hid C.pp
  have HPM : Hid (if bm = true then p4 < v.size else p4 = v.size) := Lib.hid C.pm
  have h1 := C.h1
  have hv0 : 0 < v.size := by have := C.h12; have := C.h23; have := C.h34; have := C.h45; omega
  have h12 := C.h12
  have h23 := C.h23
  have h34 := C.h34
  have h45 := C.h45
  have c0 : (((v[0]'hv0).toNat : Int) == 118) = false := by have := C.c0 hv0; simp; omega
  have HD1 := Lib.hid (fun W => digits_calls C.e1 W)
  have HP4 := Lib.hid (fun W => parts_calls C.e4 W)
  have HP5 := Lib.hid (fun W => parts_calls C.e5 W)
  have HT2 := Lib.hid (C.two rfl)
  obtain ⟨e3, x2⟩ := C.nothree rfl
  have e3' := e3.symm
  subst e3'
  have X2 := Lib.hid x2
  clear x2
  have hmk : ∀ W, (Instr.makeSlice 44 (.int .i64 9) (.int .i64 9)).run Tryd.prog W = .ok (.slice (some ⟨W.heap.size, 0, none⟩) 9 9) (W.alloc (.cells #[E0, E0, E0, E0, E0, E0, E0, E0, E0] 9)) := fun W => by kernel_rfl
  have hp1 : ((p1 : Int) == 0) = false := by simp; omega
  have n0 : Nine (w.alloc (.cells #[.string v, E0, E0, E0, E0, E0, E0, E0, E0] 9)) w.heap.size (.string v) E0 E0 E0 E0 E0 E0 E0 E0 := heap_alloc_new w _
  have HN0 := Lib.hid n0
  have HB0 := Lib.hid ((Below.refl w.heap.size w).alloc (Nat.le_refl _) (.cells #[.string v, E0, E0, E0, E0, E0, E0, E0, E0] 9))
  clear C n0
  go_enter Tryd.func41, Tryd.ntmps41
  go_wp2_with fail
  refine (HD1.out _).mono ?_
  rintro e w1 ⟨rfl, hd_⟩
  have hn_ := HN0.out.below hd_.below
  have HB1 := Lib.hid (HB0.out.trans (hd_.below.mono HB0.out.size))
  have HN1 := Lib.hid hn_
  obtain ⟨kk_, f1⟩ := hn_.cell 1
  have k1 : w1.cell? ⟨w.heap.size, 1, none⟩ = some E0 := kk_
  clear kk_
  clear hn_ hd_
  go_wp2_with fail
  obtain ⟨w2, hw_⟩ : ∃ w2, w2 = w1.setCell ⟨w.heap.size, 1, none⟩ (.string (v.extract 0 p1)) := ⟨_, rfl⟩
  have hn_ : Nine w2 w.heap.size (.string v) (.string (v.extract 0 p1)) E0 E0 E0 E0 E0 E0 E0 := by rw [hw_]; exact blk_set HN1.out 1 _
  have HB2 : Hid (Below w.heap.size w w2) := Lib.hid (by rw [hw_]; exact HB1.out.setCell (p := ⟨w.heap.size, 1, none⟩) (Nat.le_refl _) _)
  have HN2 := Lib.hid hn_
  rw [← hw_]
  clear hn_ hw_
  clear k1 f1
  refine wp_loop_rounds 2 ?_
  obtain ⟨hlt_, xb_, hq_, hE_⟩ := HT2.out
  have xb : (((v[p1]'hlt_).toNat : Int) == 46) = true := by simp; omega
  have hlt' : (p1 : Int) < (v.size : Int) := by omega
  have hgt : decide ((p1 : Int) + 1 < (p2 : Int)) = true := by simp; omega
  have hQ : (p2 : Int) ≤ (v.size : Int) := by omega
  have hPQ : (p1 : Int) ≤ (p2 : Int) := by omega
  have HQ : Hid (∀ W, Calls Tryd.prog 52 #[.string v, .int .i64 ((p1 : Int) + 1)] W fun e w' => e = .returned (.int .i64 (p2 : Int)) ∧ Drawn0 W w') := Lib.hid (fun W => digits_calls hE_ W)
  clear xb_ hq_ hE_
  rw [rounds_succ]
  go_wp2_with fail
  refine (HQ.out _).mono ?_
  rintro e w2a ⟨rfl, hd_⟩
  have hn_ := HN2.out.below hd_.below
  have HB2a := Lib.hid (HB2.out.trans (hd_.below.mono HB2.out.size))
  have HN2a := Lib.hid hn_
  clear hn_ hd_
  go_wp2_with fail
  refine (HQ.out _).mono ?_
  rintro e w2b ⟨rfl, hd_⟩
  have hn_ := HN2a.out.below hd_.below
  have HB2b := Lib.hid (HB2a.out.trans (hd_.below.mono HB2a.out.size))
  have HN2b := Lib.hid hn_
  obtain ⟨kk_, f2⟩ := hn_.cell 2
  have k2 : w2b.cell? ⟨w.heap.size, 2, none⟩ = some E0 := kk_
  clear kk_
  clear hn_ hd_
  go_wp2_with fail
  obtain ⟨w2, hw_⟩ : ∃ w2, w2 = w2b.setCell ⟨w.heap.size, 2, none⟩ (.string (v.extract p1 p2)) := ⟨_, rfl⟩
  have hn_ : Nine w2 w.heap.size (.string v) (.string (v.extract 0 p1)) (.string (v.extract p1 p2)) E0 E0 E0 E0 E0 E0 := by rw [hw_]; exact blk_set HN2b.out 2 _
  have HB2 : Hid (Below w.heap.size w w2) := Lib.hid (by rw [hw_]; exact HB2b.out.setCell (p := ⟨w.heap.size, 2, none⟩) (Nat.le_refl _) _)
  have HN2 := Lib.hid hn_
  rw [← hw_]
  clear hn_ hw_
  clear k2 f2 xb hgt hQ hPQ HQ
  rcases Nat.lt_or_ge p2 v.size with hlt | hge
  · have x2 : (((v[p2]'hlt).toNat : Int) == 46) = false := by have := X2.out hlt; simp; omega
    have hlt' : (p2 : Int) < (v.size : Int) := by omega
    rw [rounds_succ]
    go_wp2_with fail
    refine (HP4.out _).mono ?_
    rintro e w3 ⟨rfl, hd_⟩
    have hn_ := HN2.out.below hd_.below
    have HB3 := Lib.hid (HB2.out.trans (hd_.below.mono HB2.out.size))
    have HN3 := Lib.hid hn_
    obtain ⟨kk_, f4⟩ := hn_.cell 4
    have k4 : w3.cell? ⟨w.heap.size, 4, none⟩ = some E0 := kk_
    clear kk_
    obtain ⟨kk_, f5⟩ := hn_.cell 5
    have k5 : w3.cell? ⟨w.heap.size, 5, none⟩ = some E0 := kk_
    clear kk_
    clear hn_ hd_
    cases bp with
    | false =>
      have e4 : p4 = p2 := HPP.out
      have e4' := e4.symm
      subst e4'
      have g4 : decide ((p2 : Int) < (p2 : Int)) = false := by simp
      clear k4 f4 k5 f5
      go_wp2_with fail
      refine (HP5.out _).mono ?_
      rintro e w6 ⟨rfl, hd_⟩
      have hn_ := HN3.out.below hd_.below
      have HB6 := Lib.hid (HB3.out.trans (hd_.below.mono HB3.out.size))
      have HN6 := Lib.hid hn_
      obtain ⟨kk_, f7⟩ := hn_.cell 7
      have k7 : w6.cell? ⟨w.heap.size, 7, none⟩ = some E0 := kk_
      clear kk_
      obtain ⟨kk_, f8⟩ := hn_.cell 8
      have k8 : w6.cell? ⟨w.heap.size, 8, none⟩ = some E0 := kk_
      clear kk_
      clear hn_ hd_
      have gv : ((v.size : Int) == (v.size : Int)) = true := by simp
      have gv' : ((v.size : Int) != (v.size : Int)) = false := by simp
      cases bm with
      | false =>
        have e5 : p2 = v.size := HPM.out
        exact absurd e5 (by omega)
      | true =>
        have e5 : p2 < v.size := HPM.out
        have g5 : decide ((p2 : Int) < (v.size : Int)) = true := by simp; omega
        have g5' : decide (p2 < v.size) = true := by simp; omega
        have hw_ : IntKind.i64.wrap ((p2 : Int) + 1) = (p2 : Int) + 1 := IntWalk.i64_in _ (by omega)
        have ht_ : ((p2 : Int) + 1).toNat = p2 + 1 := by omega
        have hb1_ : (0 : Int) ≤ (p2 : Int) + 1 := by omega
        have hb2_ : (p2 : Int) + 1 ≤ (v.size : Int) := by omega
        have hb3_ : (p2 : Int) ≤ (v.size : Int) := by omega
        go_upto_region 21 with fail
        go_region
        clear hw_ ht_ hb1_ hb2_ hb3_
        obtain ⟨w7, hw_⟩ : ∃ w7, w7 = ((w6.setCell ⟨w.heap.size, 7, none⟩ (.string (v.extract p2 v.size))).setCell ⟨w.heap.size, 8, none⟩ (.string (v.extract (p2 + 1) v.size))).drew := ⟨_, rfl⟩
        have hn_ : Nine w7 w.heap.size (.string v) (.string (v.extract 0 p1)) (.string (v.extract p1 p2)) E0 E0 E0 E0 (.string (v.extract p2 v.size)) (.string (v.extract (p2 + 1) v.size)) := by rw [hw_]; exact blk_set (blk_set HN6.out 7 _) 8 _
        have HB7 : Hid (Below w.heap.size w w7) := Lib.hid (by rw [hw_]; exact Below.trans ((HB6.out.setCell (p := ⟨w.heap.size, 7, none⟩) (Nat.le_refl _) _).setCell (p := ⟨w.heap.size, 8, none⟩) (Nat.le_refl _) _) ⟨rfl, rfl, rfl, Nat.le_refl _, fun _ _ => rfl⟩)
        have HN7 := Lib.hid hn_
        rw [← hw_]
        clear hn_ hw_
        go_wp2_with fail
        go_ret
        refine ⟨w.heap.size, rfl, Nat.le_refl _, Lib.hid ?_, HB7⟩
        try simp only [ext_self, ext_gt]
        exact HN7.out
    | true =>
      have e4 : p2 < p4 := HPP.out
      have g4 : decide ((p2 : Int) < (p4 : Int)) = true := by simp; omega
      have g4' : decide (p2 < p4) = true := by simp; omega
      have hw_ : IntKind.i64.wrap ((p2 : Int) + 1) = (p2 : Int) + 1 := IntWalk.i64_in _ (by omega)
      have ht_ : ((p2 : Int) + 1).toNat = p2 + 1 := by omega
      have hb1_ : (0 : Int) ≤ (p2 : Int) + 1 := by omega
      have hb2_ : (p2 : Int) + 1 ≤ (p4 : Int) := by omega
      have hb3_ : (p2 : Int) ≤ (p4 : Int) := by omega
      have hb4_ : (p4 : Int) ≤ (v.size : Int) := by omega
      go_upto_region 18 with fail
      go_region
      clear hw_ ht_ hb1_ hb2_ hb3_ hb4_
      obtain ⟨w5, hw_⟩ : ∃ w5, w5 = ((w3.setCell ⟨w.heap.size, 4, none⟩ (.string (v.extract p2 p4))).setCell ⟨w.heap.size, 5, none⟩ (.string (v.extract (p2 + 1) p4))).drew := ⟨_, rfl⟩
      have hn_ : Nine w5 w.heap.size (.string v) (.string (v.extract 0 p1)) (.string (v.extract p1 p2)) E0 (.string (v.extract p2 p4)) (.string (v.extract (p2 + 1) p4)) E0 E0 E0 := by rw [hw_]; exact blk_set (blk_set HN3.out 4 _) 5 _
      have HB5 : Hid (Below w.heap.size w w5) := Lib.hid (by rw [hw_]; exact Below.trans ((HB3.out.setCell (p := ⟨w.heap.size, 4, none⟩) (Nat.le_refl _) _).setCell (p := ⟨w.heap.size, 5, none⟩) (Nat.le_refl _) _) ⟨rfl, rfl, rfl, Nat.le_refl _, fun _ _ => rfl⟩)
      have HN5 := Lib.hid hn_
      rw [← hw_]
      clear hn_ hw_
      go_wp2_with fail
      refine (HP5.out _).mono ?_
      rintro e w6 ⟨rfl, hd_⟩
      have hn_ := HN5.out.below hd_.below
      have HB6 := Lib.hid (HB5.out.trans (hd_.below.mono HB5.out.size))
      have HN6 := Lib.hid hn_
      obtain ⟨kk_, f7⟩ := hn_.cell 7
      have k7 : w6.cell? ⟨w.heap.size, 7, none⟩ = some E0 := kk_
      clear kk_
      obtain ⟨kk_, f8⟩ := hn_.cell 8
      have k8 : w6.cell? ⟨w.heap.size, 8, none⟩ = some E0 := kk_
      clear kk_
      clear hn_ hd_
      have gv : ((v.size : Int) == (v.size : Int)) = true := by simp
      have gv' : ((v.size : Int) != (v.size : Int)) = false := by simp
      cases bm with
      | false =>
        have e5 : p4 = v.size := HPM.out
        have g5 : decide ((p4 : Int) < (v.size : Int)) = false := by rw [e5]; simp
        have g5' : decide (p4 < v.size) = false := by rw [e5]; simp
        have g6 : ((p4 : Int) != (v.size : Int)) = false := by rw [e5]; simp
        have g7 : ((p4 : Int) == (v.size : Int)) = true := by rw [e5]; simp
        have E5 := Lib.hid e5
        clear e5 k7 f7 k8 f8
        go_wp2_with fail
        go_ret
        refine ⟨w.heap.size, rfl, Nat.le_refl _, Lib.hid ?_, HB6⟩
        have q1 : v.extract p4 v.size = ⟨#[]⟩ := by rw [← E5.out]; exact ext_self _
        have q2 : v.extract (p4 + 1) v.size = ⟨#[]⟩ := by rw [← E5.out]; exact ext_gt _
        simp only [ext_self, ext_gt, q1, q2]
        exact HN6.out
      | true =>
        have e5 : p4 < v.size := HPM.out
        have g5 : decide ((p4 : Int) < (v.size : Int)) = true := by simp; omega
        have g5' : decide (p4 < v.size) = true := by simp; omega
        have hw_ : IntKind.i64.wrap ((p4 : Int) + 1) = (p4 : Int) + 1 := IntWalk.i64_in _ (by omega)
        have ht_ : ((p4 : Int) + 1).toNat = p4 + 1 := by omega
        have hb1_ : (0 : Int) ≤ (p4 : Int) + 1 := by omega
        have hb2_ : (p4 : Int) + 1 ≤ (v.size : Int) := by omega
        have hb3_ : (p4 : Int) ≤ (v.size : Int) := by omega
        go_upto_region 21 with fail
        go_region
        clear hw_ ht_ hb1_ hb2_ hb3_
        obtain ⟨w7, hw_⟩ : ∃ w7, w7 = ((w6.setCell ⟨w.heap.size, 7, none⟩ (.string (v.extract p4 v.size))).setCell ⟨w.heap.size, 8, none⟩ (.string (v.extract (p4 + 1) v.size))).drew := ⟨_, rfl⟩
        have hn_ : Nine w7 w.heap.size (.string v) (.string (v.extract 0 p1)) (.string (v.extract p1 p2)) E0 (.string (v.extract p2 p4)) (.string (v.extract (p2 + 1) p4)) E0 (.string (v.extract p4 v.size)) (.string (v.extract (p4 + 1) v.size)) := by rw [hw_]; exact blk_set (blk_set HN6.out 7 _) 8 _
        have HB7 : Hid (Below w.heap.size w w7) := Lib.hid (by rw [hw_]; exact Below.trans ((HB6.out.setCell (p := ⟨w.heap.size, 7, none⟩) (Nat.le_refl _) _).setCell (p := ⟨w.heap.size, 8, none⟩) (Nat.le_refl _) _) ⟨rfl, rfl, rfl, Nat.le_refl _, fun _ _ => rfl⟩)
        have HN7 := Lib.hid hn_
        rw [← hw_]
        clear hn_ hw_
        go_wp2_with fail
        go_ret
        refine ⟨w.heap.size, rfl, Nat.le_refl _, Lib.hid ?_, HB7⟩
        try simp only [ext_self, ext_gt]
        exact HN7.out
  · have hge' : ¬ (p2 : Int) < (v.size : Int) := by omega
    rw [rounds_succ]
    go_wp2_with fail
    refine (HP4.out _).mono ?_
    rintro e w3 ⟨rfl, hd_⟩
    have hn_ := HN2.out.below hd_.below
    have HB3 := Lib.hid (HB2.out.trans (hd_.below.mono HB2.out.size))
    have HN3 := Lib.hid hn_
    obtain ⟨kk_, f4⟩ := hn_.cell 4
    have k4 : w3.cell? ⟨w.heap.size, 4, none⟩ = some E0 := kk_
    clear kk_
    obtain ⟨kk_, f5⟩ := hn_.cell 5
    have k5 : w3.cell? ⟨w.heap.size, 5, none⟩ = some E0 := kk_
    clear kk_
    clear hn_ hd_
    cases bp with
    | false =>
      have e4 : p4 = p2 := HPP.out
      have e4' := e4.symm
      subst e4'
      have g4 : decide ((p2 : Int) < (p2 : Int)) = false := by simp
      clear k4 f4 k5 f5
      go_wp2_with fail
      refine (HP5.out _).mono ?_
      rintro e w6 ⟨rfl, hd_⟩
      have hn_ := HN3.out.below hd_.below
      have HB6 := Lib.hid (HB3.out.trans (hd_.below.mono HB3.out.size))
      have HN6 := Lib.hid hn_
      obtain ⟨kk_, f7⟩ := hn_.cell 7
      have k7 : w6.cell? ⟨w.heap.size, 7, none⟩ = some E0 := kk_
      clear kk_
      obtain ⟨kk_, f8⟩ := hn_.cell 8
      have k8 : w6.cell? ⟨w.heap.size, 8, none⟩ = some E0 := kk_
      clear kk_
      clear hn_ hd_
      have gv : ((v.size : Int) == (v.size : Int)) = true := by simp
      have gv' : ((v.size : Int) != (v.size : Int)) = false := by simp
      cases bm with
      | false =>
        have e5 : p2 = v.size := HPM.out
        have g5 : decide ((p2 : Int) < (v.size : Int)) = false := by rw [e5]; simp
        have g5' : decide (p2 < v.size) = false := by rw [e5]; simp
        have g6 : ((p2 : Int) != (v.size : Int)) = false := by rw [e5]; simp
        have g7 : ((p2 : Int) == (v.size : Int)) = true := by rw [e5]; simp
        have E5 := Lib.hid e5
        clear e5 k7 f7 k8 f8
        go_wp2_with fail
        go_ret
        refine ⟨w.heap.size, rfl, Nat.le_refl _, Lib.hid ?_, HB6⟩
        have q1 : v.extract p2 v.size = ⟨#[]⟩ := by rw [← E5.out]; exact ext_self _
        have q2 : v.extract (p2 + 1) v.size = ⟨#[]⟩ := by rw [← E5.out]; exact ext_gt _
        simp only [ext_self, ext_gt, q1, q2]
        exact HN6.out
      | true =>
        have e5 : p2 < v.size := HPM.out
        exact absurd e5 (by omega)
    | true =>
      have e4 : p2 < p4 := HPP.out
      exact absurd e4 (by omega)
set_option maxHeartbeats 4000000 in
theorem zzLoose_3 (v : ByteArray) (hv : v.size ≤ 256) (bp bm : Bool) (p1 p2 p3 p4 : Nat) (C : Cuts v true true bp bm p1 p2 p3 p4) (w : World) :
    Calls Tryd.prog 41 #[.string v] w (LooseRes v p1 p2 p3 p4 w) := by
  have HPP : Hid (if bp = true then p3 < p4 else p4 = p3) := Lib.hid C.pp
  have HPM : Hid (if bm = true then p4 < v.size else p4 = v.size) := Lib.hid C.pm
  have h1 := C.h1
  have hv0 : 0 < v.size := by have := C.h12; have := C.h23; have := C.h34; have := C.h45; omega
  have h12 := C.h12
  have h23 := C.h23
  have h34 := C.h34
  have h45 := C.h45
  have c0 : (((v[0]'hv0).toNat : Int) == 118) = false := by have := C.c0 hv0; simp; omega
  have HD1 := Lib.hid (fun W => digits_calls C.e1 W)
  have HP4 := Lib.hid (fun W => parts_calls C.e4 W)
  have HP5 := Lib.hid (fun W => parts_calls C.e5 W)
  have HT2 := Lib.hid (C.two rfl)
  have HT3 := Lib.hid (C.three rfl)
  have hmk : ∀ W, (Instr.makeSlice 44 (.int .i64 9) (.int .i64 9)).run Tryd.prog W = .ok (.slice (some ⟨W.heap.size, 0, none⟩) 9 9) (W.alloc (.cells #[E0, E0, E0, E0, E0, E0, E0, E0, E0] 9)) := fun W => by kernel_rfl
  have hp1 : ((p1 : Int) == 0) = false := by simp; omega
  have n0 : Nine (w.alloc (.cells #[.string v, E0, E0, E0, E0, E0, E0, E0, E0] 9)) w.heap.size (.string v) E0 E0 E0 E0 E0 E0 E0 E0 := heap_alloc_new w _
  have HN0 := Lib.hid n0
  have HB0 := Lib.hid ((Below.refl w.heap.size w).alloc (Nat.le_refl _) (.cells #[.string v, E0, E0, E0, E0, E0, E0, E0, E0] 9))
  clear C n0
  go_enter Tryd.func41, Tryd.ntmps41
  go_wp2_with fail
  refine (HD1.out _).mono ?_
  rintro e w1 ⟨rfl, hd_⟩
  have hn_ := HN0.out.below hd_.below
  have HB1 := Lib.hid (HB0.out.trans (hd_.below.mono HB0.out.size))
  have HN1 := Lib.hid hn_
  obtain ⟨kk_, f1⟩ := hn_.cell 1
  have k1 : w1.cell? ⟨w.heap.size, 1, none⟩ = some E0 := kk_
  clear kk_
  clear hn_ hd_
  go_wp2_with fail
  obtain ⟨w2, hw_⟩ : ∃ w2, w2 = w1.setCell ⟨w.heap.size, 1, none⟩ (.string (v.extract 0 p1)) := ⟨_, rfl⟩
  have hn_ : Nine w2 w.heap.size (.string v) (.string (v.extract 0 p1)) E0 E0 E0 E0 E0 E0 E0 := by rw [hw_]; exact blk_set HN1.out 1 _
  have HB2 : Hid (Below w.heap.size w w2) := Lib.hid (by rw [hw_]; exact HB1.out.setCell (p := ⟨w.heap.size, 1, none⟩) (Nat.le_refl _) _)
  have HN2 := Lib.hid hn_
  rw [← hw_]
  clear hn_ hw_
  clear k1 f1
  refine wp_loop_rounds 3 ?_
  obtain ⟨hlt_, xb_, hq_, hE_⟩ := HT2.out
  have xb : (((v[p1]'hlt_).toNat : Int) == 46) = true := by simp; omega
  have hlt' : (p1 : Int) < (v.size : Int) := by omega
  have hgt : decide ((p1 : Int) + 1 < (p2 : Int)) = true := by simp; omega
  have hQ : (p2 : Int) ≤ (v.size : Int) := by omega
  have hPQ : (p1 : Int) ≤ (p2 : Int) := by omega
  have HQ : Hid (∀ W, Calls Tryd.prog 52 #[.string v, .int .i64 ((p1 : Int) + 1)] W fun e w' => e = .returned (.int .i64 (p2 : Int)) ∧ Drawn0 W w') := Lib.hid (fun W => digits_calls hE_ W)
  clear xb_ hq_ hE_
  rw [rounds_succ]
  go_wp2_with fail
  refine (HQ.out _).mono ?_
  rintro e w2a ⟨rfl, hd_⟩
  have hn_ := HN2.out.below hd_.below
  have HB2a := Lib.hid (HB2.out.trans (hd_.below.mono HB2.out.size))
  have HN2a := Lib.hid hn_
  clear hn_ hd_
  go_wp2_with fail
  refine (HQ.out _).mono ?_
  rintro e w2b ⟨rfl, hd_⟩
  have hn_ := HN2a.out.below hd_.below
  have HB2b := Lib.hid (HB2a.out.trans (hd_.below.mono HB2a.out.size))
  have HN2b := Lib.hid hn_
  obtain ⟨kk_, f2⟩ := hn_.cell 2
  have k2 : w2b.cell? ⟨w.heap.size, 2, none⟩ = some E0 := kk_
  clear kk_
  clear hn_ hd_
  go_wp2_with fail
  obtain ⟨w2, hw_⟩ : ∃ w2, w2 = w2b.setCell ⟨w.heap.size, 2, none⟩ (.string (v.extract p1 p2)) := ⟨_, rfl⟩
  have hn_ : Nine w2 w.heap.size (.string v) (.string (v.extract 0 p1)) (.string (v.extract p1 p2)) E0 E0 E0 E0 E0 E0 := by rw [hw_]; exact blk_set HN2b.out 2 _
  have HB2 : Hid (Below w.heap.size w w2) := Lib.hid (by rw [hw_]; exact HB2b.out.setCell (p := ⟨w.heap.size, 2, none⟩) (Nat.le_refl _) _)
  have HN2 := Lib.hid hn_
  rw [← hw_]
  clear hn_ hw_
  clear k2 f2 xb hgt hQ hPQ HQ
  obtain ⟨hlt_, xb_, hq_, hE_⟩ := HT3.out
  have xb : (((v[p2]'hlt_).toNat : Int) == 46) = true := by simp; omega
  have hlt' : (p2 : Int) < (v.size : Int) := by omega
  have hgt : decide ((p2 : Int) + 1 < (p3 : Int)) = true := by simp; omega
  have hQ : (p3 : Int) ≤ (v.size : Int) := by omega
  have hPQ : (p2 : Int) ≤ (p3 : Int) := by omega
  have HQ : Hid (∀ W, Calls Tryd.prog 52 #[.string v, .int .i64 ((p2 : Int) + 1)] W fun e w' => e = .returned (.int .i64 (p3 : Int)) ∧ Drawn0 W w') := Lib.hid (fun W => digits_calls hE_ W)
  clear xb_ hq_ hE_
  rw [rounds_succ]
  go_wp2_with fail
  refine (HQ.out _).mono ?_
  rintro e w2a ⟨rfl, hd_⟩
  have hn_ := HN2.out.below hd_.below
  have HB2a := Lib.hid (HB2.out.trans (hd_.below.mono HB2.out.size))
  have HN2a := Lib.hid hn_
  clear hn_ hd_
  go_wp2_with fail
  refine (HQ.out _).mono ?_
  rintro e w2b ⟨rfl, hd_⟩
  have hn_ := HN2a.out.below hd_.below
  have HB2b := Lib.hid (HB2a.out.trans (hd_.below.mono HB2a.out.size))
  have HN2b := Lib.hid hn_
  obtain ⟨kk_, f3⟩ := hn_.cell 3
  have k3 : w2b.cell? ⟨w.heap.size, 3, none⟩ = some E0 := kk_
  clear kk_
  clear hn_ hd_
  go_wp2_with fail
  obtain ⟨w2, hw_⟩ : ∃ w2, w2 = w2b.setCell ⟨w.heap.size, 3, none⟩ (.string (v.extract p2 p3)) := ⟨_, rfl⟩
  have hn_ : Nine w2 w.heap.size (.string v) (.string (v.extract 0 p1)) (.string (v.extract p1 p2)) (.string (v.extract p2 p3)) E0 E0 E0 E0 E0 := by rw [hw_]; exact blk_set HN2b.out 3 _
  have HB2 : Hid (Below w.heap.size w w2) := Lib.hid (by rw [hw_]; exact HB2b.out.setCell (p := ⟨w.heap.size, 3, none⟩) (Nat.le_refl _) _)
  have HN2 := Lib.hid hn_
  rw [← hw_]
  clear hn_ hw_
  clear k3 f3 xb hgt hQ hPQ HQ
  rw [rounds_succ]
  go_wp2_with fail
  refine (HP4.out _).mono ?_
  rintro e w3 ⟨rfl, hd_⟩
  have hn_ := HN2.out.below hd_.below
  have HB3 := Lib.hid (HB2.out.trans (hd_.below.mono HB2.out.size))
  have HN3 := Lib.hid hn_
  obtain ⟨kk_, f4⟩ := hn_.cell 4
  have k4 : w3.cell? ⟨w.heap.size, 4, none⟩ = some E0 := kk_
  clear kk_
  obtain ⟨kk_, f5⟩ := hn_.cell 5
  have k5 : w3.cell? ⟨w.heap.size, 5, none⟩ = some E0 := kk_
  clear kk_
  clear hn_ hd_
  cases bp with
  | false =>
    have e4 : p4 = p3 := HPP.out
    have e4' := e4.symm
    subst e4'
    have g4 : decide ((p3 : Int) < (p3 : Int)) = false := by simp
    clear k4 f4 k5 f5
    go_wp2_with fail
    refine (HP5.out _).mono ?_
    rintro e w6 ⟨rfl, hd_⟩
    have hn_ := HN3.out.below hd_.below
    have HB6 := Lib.hid (HB3.out.trans (hd_.below.mono HB3.out.size))
    have HN6 := Lib.hid hn_
    obtain ⟨kk_, f7⟩ := hn_.cell 7
    have k7 : w6.cell? ⟨w.heap.size, 7, none⟩ = some E0 := kk_
    clear kk_
    obtain ⟨kk_, f8⟩ := hn_.cell 8
    have k8 : w6.cell? ⟨w.heap.size, 8, none⟩ = some E0 := kk_
    clear kk_
    clear hn_ hd_
    have gv : ((v.size : Int) == (v.size : Int)) = true := by simp
    have gv' : ((v.size : Int) != (v.size : Int)) = false := by simp
    cases bm with
    | false =>
      have e5 : p3 = v.size := HPM.out
      have g5 : decide ((p3 : Int) < (v.size : Int)) = false := by rw [e5]; simp
      have g5' : decide (p3 < v.size) = false := by rw [e5]; simp
      have g6 : ((p3 : Int) != (v.size : Int)) = false := by rw [e5]; simp
      have g7 : ((p3 : Int) == (v.size : Int)) = true := by rw [e5]; simp
      have E5 := Lib.hid e5
      clear e5 k7 f7 k8 f8
      go_wp2_with fail
      go_ret
      refine ⟨w.heap.size, rfl, Nat.le_refl _, Lib.hid ?_, HB6⟩
      have q1 : v.extract p3 v.size = ⟨#[]⟩ := by rw [← E5.out]; exact ext_self _
      have q2 : v.extract (p3 + 1) v.size = ⟨#[]⟩ := by rw [← E5.out]; exact ext_gt _
      simp only [ext_self, ext_gt, q1, q2]
      exact HN6.out
    | true =>
      have e5 : p3 < v.size := HPM.out
      have g5 : decide ((p3 : Int) < (v.size : Int)) = true := by simp; omega
      have g5' : decide (p3 < v.size) = true := by simp; omega
      have hw_ : IntKind.i64.wrap ((p3 : Int) + 1) = (p3 : Int) + 1 := IntWalk.i64_in _ (by omega)
      have ht_ : ((p3 : Int) + 1).toNat = p3 + 1 := by omega
      have hb1_ : (0 : Int) ≤ (p3 : Int) + 1 := by omega
      have hb2_ : (p3 : Int) + 1 ≤ (v.size : Int) := by omega
      have hb3_ : (p3 : Int) ≤ (v.size : Int) := by omega
      go_upto_region 21 with fail
      go_region
      clear hw_ ht_ hb1_ hb2_ hb3_
      obtain ⟨w7, hw_⟩ : ∃ w7, w7 = ((w6.setCell ⟨w.heap.size, 7, none⟩ (.string (v.extract p3 v.size))).setCell ⟨w.heap.size, 8, none⟩ (.string (v.extract (p3 + 1) v.size))).drew := ⟨_, rfl⟩
      have hn_ : Nine w7 w.heap.size (.string v) (.string (v.extract 0 p1)) (.string (v.extract p1 p2)) (.string (v.extract p2 p3)) E0 E0 E0 (.string (v.extract p3 v.size)) (.string (v.extract (p3 + 1) v.size)) := by rw [hw_]; exact blk_set (blk_set HN6.out 7 _) 8 _
      have HB7 : Hid (Below w.heap.size w w7) := Lib.hid (by rw [hw_]; exact Below.trans ((HB6.out.setCell (p := ⟨w.heap.size, 7, none⟩) (Nat.le_refl _) _).setCell (p := ⟨w.heap.size, 8, none⟩) (Nat.le_refl _) _) ⟨rfl, rfl, rfl, Nat.le_refl _, fun _ _ => rfl⟩)
      have HN7 := Lib.hid hn_
      rw [← hw_]
      clear hn_ hw_
      go_wp2_with fail
      go_ret
      refine ⟨w.heap.size, rfl, Nat.le_refl _, Lib.hid ?_, HB7⟩
      try simp only [ext_self, ext_gt]
      exact HN7.out
  | true =>
    have e4 : p3 < p4 := HPP.out
    have g4 : decide ((p3 : Int) < (p4 : Int)) = true := by simp; omega
    have g4' : decide (p3 < p4) = true := by simp; omega
    have hw_ : IntKind.i64.wrap ((p3 : Int) + 1) = (p3 : Int) + 1 := IntWalk.i64_in _ (by omega)
    have ht_ : ((p3 : Int) + 1).toNat = p3 + 1 := by omega
    have hb1_ : (0 : Int) ≤ (p3 : Int) + 1 := by omega
    have hb2_ : (p3 : Int) + 1 ≤ (p4 : Int) := by omega
    have hb3_ : (p3 : Int) ≤ (p4 : Int) := by omega
    have hb4_ : (p4 : Int) ≤ (v.size : Int) := by omega
    go_upto_region 18 with fail
    go_region
    clear hw_ ht_ hb1_ hb2_ hb3_ hb4_
    obtain ⟨w5, hw_⟩ : ∃ w5, w5 = ((w3.setCell ⟨w.heap.size, 4, none⟩ (.string (v.extract p3 p4))).setCell ⟨w.heap.size, 5, none⟩ (.string (v.extract (p3 + 1) p4))).drew := ⟨_, rfl⟩
    have hn_ : Nine w5 w.heap.size (.string v) (.string (v.extract 0 p1)) (.string (v.extract p1 p2)) (.string (v.extract p2 p3)) (.string (v.extract p3 p4)) (.string (v.extract (p3 + 1) p4)) E0 E0 E0 := by rw [hw_]; exact blk_set (blk_set HN3.out 4 _) 5 _
    have HB5 : Hid (Below w.heap.size w w5) := Lib.hid (by rw [hw_]; exact Below.trans ((HB3.out.setCell (p := ⟨w.heap.size, 4, none⟩) (Nat.le_refl _) _).setCell (p := ⟨w.heap.size, 5, none⟩) (Nat.le_refl _) _) ⟨rfl, rfl, rfl, Nat.le_refl _, fun _ _ => rfl⟩)
    have HN5 := Lib.hid hn_
    rw [← hw_]
    clear hn_ hw_
    go_wp2_with fail
    refine (HP5.out _).mono ?_
    rintro e w6 ⟨rfl, hd_⟩
    have hn_ := HN5.out.below hd_.below
    have HB6 := Lib.hid (HB5.out.trans (hd_.below.mono HB5.out.size))
    have HN6 := Lib.hid hn_
    obtain ⟨kk_, f7⟩ := hn_.cell 7
    have k7 : w6.cell? ⟨w.heap.size, 7, none⟩ = some E0 := kk_
    clear kk_
    obtain ⟨kk_, f8⟩ := hn_.cell 8
    have k8 : w6.cell? ⟨w.heap.size, 8, none⟩ = some E0 := kk_
    clear kk_
    clear hn_ hd_
    have gv : ((v.size : Int) == (v.size : Int)) = true := by simp
    have gv' : ((v.size : Int) != (v.size : Int)) = false := by simp
    cases bm with
    | false =>
      have e5 : p4 = v.size := HPM.out
      have g5 : decide ((p4 : Int) < (v.size : Int)) = false := by rw [e5]; simp
      have g5' : decide (p4 < v.size) = false := by rw [e5]; simp
      have g6 : ((p4 : Int) != (v.size : Int)) = false := by rw [e5]; simp
      have g7 : ((p4 : Int) == (v.size : Int)) = true := by rw [e5]; simp
      have E5 := Lib.hid e5
      clear e5 k7 f7 k8 f8
      go_wp2_with fail
      go_ret
      refine ⟨w.heap.size, rfl, Nat.le_refl _, Lib.hid ?_, HB6⟩
      have q1 : v.extract p4 v.size = ⟨#[]⟩ := by rw [← E5.out]; exact ext_self _
      have q2 : v.extract (p4 + 1) v.size = ⟨#[]⟩ := by rw [← E5.out]; exact ext_gt _
      simp only [ext_self, ext_gt, q1, q2]
      exact HN6.out
    | true =>
      have e5 : p4 < v.size := HPM.out
      have g5 : decide ((p4 : Int) < (v.size : Int)) = true := by simp; omega
      have g5' : decide (p4 < v.size) = true := by simp; omega
      have hw_ : IntKind.i64.wrap ((p4 : Int) + 1) = (p4 : Int) + 1 := IntWalk.i64_in _ (by omega)
      have ht_ : ((p4 : Int) + 1).toNat = p4 + 1 := by omega
      have hb1_ : (0 : Int) ≤ (p4 : Int) + 1 := by omega
      have hb2_ : (p4 : Int) + 1 ≤ (v.size : Int) := by omega
      have hb3_ : (p4 : Int) ≤ (v.size : Int) := by omega
      go_upto_region 21 with fail
      go_region
      clear hw_ ht_ hb1_ hb2_ hb3_
      obtain ⟨w7, hw_⟩ : ∃ w7, w7 = ((w6.setCell ⟨w.heap.size, 7, none⟩ (.string (v.extract p4 v.size))).setCell ⟨w.heap.size, 8, none⟩ (.string (v.extract (p4 + 1) v.size))).drew := ⟨_, rfl⟩
      have hn_ : Nine w7 w.heap.size (.string v) (.string (v.extract 0 p1)) (.string (v.extract p1 p2)) (.string (v.extract p2 p3)) (.string (v.extract p3 p4)) (.string (v.extract (p3 + 1) p4)) E0 (.string (v.extract p4 v.size)) (.string (v.extract (p4 + 1) v.size)) := by rw [hw_]; exact blk_set (blk_set HN6.out 7 _) 8 _
      have HB7 : Hid (Below w.heap.size w w7) := Lib.hid (by rw [hw_]; exact Below.trans ((HB6.out.setCell (p := ⟨w.heap.size, 7, none⟩) (Nat.le_refl _) _).setCell (p := ⟨w.heap.size, 8, none⟩) (Nat.le_refl _) _) ⟨rfl, rfl, rfl, Nat.le_refl _, fun _ _ => rfl⟩)
      have HN7 := Lib.hid hn_
      rw [← hw_]
      clear hn_ hw_
      go_wp2_with fail
      go_ret
      refine ⟨w.heap.size, rfl, Nat.le_refl _, Lib.hid ?_, HB7⟩
      try simp only [ext_self, ext_gt]
      exact HN7.out
end Go.Proofs.YtmoilbhkjmhoaaaDoor.Sv
