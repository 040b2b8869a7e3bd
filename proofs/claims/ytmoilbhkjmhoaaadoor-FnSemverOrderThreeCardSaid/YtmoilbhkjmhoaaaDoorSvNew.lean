/- Semantic versions: NewVersion at the text of a version. -/
import Derived.Test.YtmoilbhkjmhoaaaDoorSvVer
import Derived.Test.YtmoilbhkjmhoaaaDoorShelf
import Derived.Lib.ConvBytes
import Derived.Lib.LazyBuf
namespace Go.Proofs.YtmoilbhkjmhoaaaDoor.Sv
open Go.RowKit Go.Proofs.YtmoilbhkjmhoaaaDoor.PFnSemverOrderThree Go.Proofs.YtmoilbhkjmhoaaaDoorW.PrintWords Go.Proofs.YtmoilbhkjmhoaaaDoor.Txt Go.Proofs.YtmoilbhkjmhoaaaDoor
set_option linter.unusedVariables false
set_option linter.unusedSimpArgs false
set_option maxRecDepth 20000

/-- A version in memory. -/
def VerIs (w : World) (b : Nat) (a m p : Nat) (pre meta_ orig : ByteArray) : Prop := w.heap[b]? = some (.cells #[.int .u64 (a : Int), .int .u64 (m : Int), .int .u64 (p : Int), .string pre, .string meta_, .string orig] 69 (0, 0))
def VerRes (a m p : Nat) (pre meta_ orig : ByteArray) (w : World) (e : Ending) (w' : World) : Prop := ∃ b, e = .returned (.tuple #[.pointer (some ⟨b, 0, none⟩), .nilIface]) ∧ w.heap.size ≤ b ∧ Hid (VerIs w' b a m p pre meta_ orig) ∧ Hid (Below w.heap.size w w')
theorem uint_walk {s : ByteArray} (hs : s.size ≤ 1000) {u : Nat} (h : Lib.parseUintB 64 s.toList = .ok u) (w : World) :
    Calls Tryd.prog 42 #[.string s, .int .i64 10, .int .i64 64] w fun e w' => e = .returned (.tuple #[.int .u64 (u : Int), .nilIface]) ∧ Below w.heap.size w w' := by
  rw [Lib.toList_data] at h
  refine (Tryd.strconv_ParseUint_10_at64_ok s (by omega) u h w).mono ?_
  rintro e w' ⟨rfl, hw⟩
  refine ⟨rfl, ?_⟩
  rcases hw with rfl | rfl
  · exact Below.refl _ _
  · exact Lib.bytesWorld_below _ _ _
theorem trim_walk {s r : ByteArray} {l : List UInt8} (hs : s.size ≤ 1000) (h : s.toList = 46 :: l) (hr : r.toList = l) (w : World) :
    Calls Tryd.prog 44 #[.string s, .string ⟨#[46]⟩] w fun e w' => e = .returned (.string r) ∧ Drawn0 w w' := by
  have hl := len_eq s
  rw [h] at hl
  simp only [List.length_cons] at hl
  refine strings_TrimPrefix.calls s _ r w ?_
  have h1 : (⟨#[46]⟩ : ByteArray).size = 1 := rfl
  have e1 : stringslite_HasPrefix.f s ⟨#[46]⟩ = some true := by
    unfold stringslite_HasPrefix.f
    rw [h1, if_pos (by omega), if_pos (by omega), if_pos (by omega)]
    have : (s.extract 0 ((1 : Nat) : Int).toNat).toList = [46] := by rw [tl_extract, h]; rfl
    rw [this]
    have : (⟨#[46]⟩ : ByteArray).toList = [46] := by rw [Lib.toList_data]
    rw [this]; rfl
  unfold strings_TrimPrefix.f stringslite_TrimPrefix.f
  rw [e1, h1]
  simp only [Option.bind_some, if_true]
  rw [if_pos (by omega), if_pos (by omega)]
  have e2 : s.extract ((1 : Nat) : Int).toNat s.size = r := by
    apply ext_eq
    rw [extract_self, h, hr]; rfl
  simp only [Option.bind_some]
  exact congrArg some e2
set_option maxHeartbeats 4000000 in
theorem coerce_walk (v t1 t2 t3 q2 q3 pre meta_ c4 c7 : ByteArray) (a m p : Nat) (hs : t1.size ≤ 1000 ∧ q2.size ≤ 1000 ∧ q3.size ≤ 1000) (w : World)
    (HL : ∀ W, Calls Tryd.prog 41 #[.string v] W fun e w' => ∃ b, e = .returned (.slice (some ⟨b, 0, none⟩) 9 9) ∧ W.heap.size ≤ b ∧ Hid (Nine w' b (.string v) (.string t1) (.string t2) (.string t3) (.string c4) (.string pre) E0 (.string c7) (.string meta_)) ∧ Hid (Below W.heap.size W w'))
    (U1 : Lib.parseUintB 64 t1.toList = .ok a)
    (U2 : (t2.toList = [] ∧ m = 0) ∨ (t2.toList = 46 :: q2.toList ∧ t2.size ≤ 1000 ∧ Lib.parseUintB 64 q2.toList = .ok m))
    (U3 : (t3.toList = [] ∧ p = 0) ∨ (t3.toList = 46 :: q3.toList ∧ t3.size ≤ 1000 ∧ Lib.parseUintB 64 q3.toList = .ok p))
    (VP : pre.toList ≠ [] → ∀ W, Calls Tryd.prog 45 #[.string pre] W fun e w' => e = .returned .nilIface ∧ Below W.heap.size W w')
    (VM : meta_.toList ≠ [] → ∀ W, Calls Tryd.prog 46 #[.string meta_] W fun e w' => e = .returned .nilIface ∧ Below W.heap.size W w') :
    Calls Tryd.prog 30 #[.string v] w (VerRes a m p pre meta_ v w) := by
  have HLL := Lib.hid (HL w)
  have HU1 := Lib.hid (fun W => uint_walk hs.1 U1 W)
  have HU2 := Lib.hid U2
  have HU3 := Lib.hid U3
  have HVP := Lib.hid VP
  have HVM := Lib.hid VM
  have HS := Lib.hid hs
  clear HL U1 U2 U3 VP VM hs
  have hnil : ∀ (W : World) (ad : Addr) (n c : Nat), (binOp .eql 44 (.slice (some ad) n c) (.slice none 0 0)).run Tryd.prog W = .ok (.bool false) W := fun W ad n c => by kernel_rfl
  go_enter Tryd.func30, Tryd.ntmps30
  go_wp2_with fail
  refine HLL.out.mono ?_
  rintro e w1 ⟨b, rfl, hbb, HN1, HB1⟩
  have hn := HN1.out
  obtain ⟨k5, f5⟩ := hn.cell 5
  obtain ⟨k8, f8⟩ := hn.cell 8
  have k5' : w1.cell? ⟨b, 5, none⟩ = some (.string pre) := k5
  have k8' : w1.cell? ⟨b, 8, none⟩ = some (.string meta_) := k8
  clear k5 k8 f5 f8 hn
  go_upto_region 4 with fail
  go_region
  obtain ⟨w2, hw2⟩ : ∃ w2, w2 = (w1.alloc (.cells #[.int .u64 0, .int .u64 0, .int .u64 0, .string pre, .string meta_, .string v] 69)).drew := ⟨_, rfl⟩
  have hv2 : VerIs w2 w1.heap.size 0 0 0 pre meta_ v := by rw [hw2]; exact heap_alloc_new w1 _
  have hb2 : Below w1.heap.size w1 w2 := by rw [hw2]; exact Below.trans ((Below.refl _ _).alloc (Nat.le_refl _) _) ⟨rfl, rfl, rfl, Nat.le_refl _, fun _ _ => rfl⟩
  have hn2 := HN1.out.below hb2
  rw [← hw2]
  obtain ⟨bv, hbv⟩ : ∃ bv, bv = w1.heap.size := ⟨_, rfl⟩
  have HBV : Hid (w1.heap.size = bv) := Lib.hid hbv.symm
  rw [← hbv] at hv2 ⊢
  have HB2 := Lib.hid (HB1.out.trans (hb2.mono HB1.out.size))
  have HN2 := Lib.hid hn2
  have HV2 := Lib.hid hv2
  have HWB : Hid (w.heap.size ≤ bv) := Lib.hid (by rw [hbv]; exact HB1.out.size)
  have HNE : Hid (b ≠ bv) := Lib.hid (by have := blk_lt HN1.out; omega)
  obtain ⟨k1, f1⟩ := hn2.cell 1
  have k1' : w2.cell? ⟨b, 1, none⟩ = some (.string t1) := k1
  clear k1 f1 k5' k8' hw2 hv2 hb2 hn2 hbv
  go_wp2_with fail
  refine (HU1.out _).mono ?_
  rintro e w3 ⟨rfl, hb_⟩
  have hv_ := HV2.out
  have hv_' : VerIs w3 bv 0 0 0 pre meta_ v := (hb_.block _ (blk_lt hv_)).trans hv_
  have hn_ := HN2.out.below hb_
  have HB3 := Lib.hid (HB2.out.trans (hb_.mono HB2.out.size))
  have HN3 := Lib.hid hn_
  have HV3 := Lib.hid hv_'
  have d0 : w3.cell? ⟨bv, 0, none⟩ = some (.int .u64 0) := by unfold VerIs at hv_'; rw [blk_cell hv_']; rfl
  have fd0 : w3.frozen? ⟨bv, 0, none⟩ = false := by unfold VerIs at hv_'; simp [World.frozen?, hv_']
  clear hb_ hv_ hv_' hn_
  go_upto_region 7 with fail
  obtain ⟨w4, hw_⟩ : ∃ w4, w4 = w3.setCell ⟨bv, 0, none⟩ (.int .u64 (a : Int)) := ⟨_, rfl⟩
  have hv_ : VerIs w4 bv a 0 0 pre meta_ v := by rw [hw_]; exact blk_set HV3.out 0 _
  have hn_ : Nine w4 b (.string v) (.string t1) (.string t2) (.string t3) (.string c4) (.string pre) E0 (.string c7) (.string meta_) := by rw [hw_]; exact (Below.heap_setCell _ _ _ _ HNE.out).trans HN3.out
  have HB4 : Hid (Below w.heap.size w w4) := Lib.hid (by rw [hw_]; exact HB3.out.setCell (p := ⟨bv, 0, none⟩) HWB.out _)
  have HV4 := Lib.hid hv_
  have HN4 := Lib.hid hn_
  rw [← hw_]
  clear hw_ hv_ hn_ d0 fd0
  have hn_ := HN4.out
  obtain ⟨kk_, _⟩ := hn_.cell 2
  have k2 : w4.cell? ⟨b, 2, none⟩ = some (.string t2) := kk_
  clear kk_
  clear hn_
  rcases HU2.out with ⟨h0_, hm_⟩ | ⟨h0_, hz_, hu_⟩
  · have y1 : (t2.toList == []) = true := by rw [h0_]; rfl
    have y2 : t2.toList.isEmpty = true := by rw [h0_]; rfl
    have y3 : (t2.toList != []) = false := by rw [h0_]; rfl
    subst hm_
    clear h0_
    have d1 : w4.cell? ⟨bv, 1, none⟩ = some (.int .u64 0) := by have hv_ := HV4.out; unfold VerIs at hv_; rw [blk_cell hv_]; rfl
    have fd1 : w4.frozen? ⟨bv, 1, none⟩ = false := by have hv_ := HV4.out; unfold VerIs at hv_; simp [World.frozen?, hv_]
    go_upto_region 14 with fail
    obtain ⟨w34, hw_⟩ : ∃ w34, w34 = w4.setCell ⟨bv, 1, none⟩ (.int .u64 0) := ⟨_, rfl⟩
    have hv_ : VerIs w34 bv a 0 0 pre meta_ v := by rw [hw_]; exact blk_set HV4.out 1 _
    have hn_ : Nine w34 b (.string v) (.string t1) (.string t2) (.string t3) (.string c4) (.string pre) E0 (.string c7) (.string meta_) := by rw [hw_]; exact (Below.heap_setCell _ _ _ _ HNE.out).trans HN4.out
    have HB5 : Hid (Below w.heap.size w w34) := Lib.hid (by rw [hw_]; exact HB4.out.setCell (p := ⟨bv, 1, none⟩) HWB.out _)
    have HV5 := Lib.hid hv_
    have HN5 := Lib.hid hn_
    rw [← hw_]
    clear hw_ hv_ hn_ d1 fd1
    clear k2 y1 y2 y3
    have hn_ := HN5.out
    obtain ⟨kk_, _⟩ := hn_.cell 3
    have k3 : w34.cell? ⟨b, 3, none⟩ = some (.string t3) := kk_
    clear kk_
    clear hn_
    rcases HU3.out with ⟨h0_, hm_⟩ | ⟨h0_, hz_, hu_⟩
    · have y1 : (t3.toList == []) = true := by rw [h0_]; rfl
      have y2 : t3.toList.isEmpty = true := by rw [h0_]; rfl
      have y3 : (t3.toList != []) = false := by rw [h0_]; rfl
      subst hm_
      clear h0_
      have d2 : w34.cell? ⟨bv, 2, none⟩ = some (.int .u64 0) := by have hv_ := HV5.out; unfold VerIs at hv_; rw [blk_cell hv_]; rfl
      have fd2 : w34.frozen? ⟨bv, 2, none⟩ = false := by have hv_ := HV5.out; unfold VerIs at hv_; simp [World.frozen?, hv_]
      go_upto_region 19 with fail
      obtain ⟨w35, hw_⟩ : ∃ w35, w35 = w34.setCell ⟨bv, 2, none⟩ (.int .u64 0) := ⟨_, rfl⟩
      have hv_ : VerIs w35 bv a 0 0 pre meta_ v := by rw [hw_]; exact blk_set HV5.out 2 _
      have hn_ : Nine w35 b (.string v) (.string t1) (.string t2) (.string t3) (.string c4) (.string pre) E0 (.string c7) (.string meta_) := by rw [hw_]; exact (Below.heap_setCell _ _ _ _ HNE.out).trans HN5.out
      have HB6 : Hid (Below w.heap.size w w35) := Lib.hid (by rw [hw_]; exact HB5.out.setCell (p := ⟨bv, 2, none⟩) HWB.out _)
      have HV6 := Lib.hid hv_
      have HN6 := Lib.hid hn_
      rw [← hw_]
      clear hw_ hv_ hn_ d2 fd2
      clear k3 y1 y2 y3
      have d3 : w35.cell? ⟨bv, 3, none⟩ = some (.string pre) := by have hv_ := HV6.out; unfold VerIs at hv_; rw [blk_cell hv_]; rfl
      by_cases h0_ : pre.toList = []
      · have y1 : (pre.toList == []) = true := by rw [h0_]; rfl
        have y3 : (pre.toList != []) = false := by rw [h0_]; rfl
        clear h0_
        go_upto_region 23 with fail
        clear y1 y3 d3
        have d4 : w35.cell? ⟨bv, 4, none⟩ = some (.string meta_) := by have hv_ := HV6.out; unfold VerIs at hv_; rw [blk_cell hv_]; rfl
        by_cases h0_ : meta_.toList = []
        · have y1 : (meta_.toList == []) = true := by rw [h0_]; rfl
          have y3 : (meta_.toList != []) = false := by rw [h0_]; rfl
          clear h0_
          go_wp2_with fail
          go_ret2
          exact ⟨bv, rfl, HWB.out, HV6, HB6⟩
        · have HVV := Lib.hid (HVM.out h0_ w35)
          have y1 : (meta_.toList == []) = false := beq_eq_false_iff_ne.mpr h0_
          have y3 : (meta_.toList != []) = true := by simp [bne, y1]
          clear h0_
          go_wp2_with fail
          refine HVV.out.mono ?_
          rintro e w26 ⟨rfl, hb_⟩
          have hv_ := HV6.out
          have HV7 : Hid (VerIs w26 bv a 0 0 pre meta_ v) := Lib.hid ((hb_.block _ (blk_lt hv_)).trans hv_)
          have HB7 := Lib.hid (HB6.out.trans (hb_.mono HB6.out.size))
          clear hb_ hv_ y1 y3 d4
          go_wp2_with fail
          go_ret2
          exact ⟨bv, rfl, HWB.out, HV7, HB7⟩
      · have HVV := Lib.hid (HVP.out h0_ w35)
        have y1 : (pre.toList == []) = false := beq_eq_false_iff_ne.mpr h0_
        have y3 : (pre.toList != []) = true := by simp [bne, y1]
        clear h0_
        go_wp2_with fail
        refine HVV.out.mono ?_
        rintro e w26 ⟨rfl, hb_⟩
        have hv_ := HV6.out
        have HV7 : Hid (VerIs w26 bv a 0 0 pre meta_ v) := Lib.hid ((hb_.block _ (blk_lt hv_)).trans hv_)
        have HB7 := Lib.hid (HB6.out.trans (hb_.mono HB6.out.size))
        clear hb_ hv_ y1 y3 d3
        go_upto_region 23 with fail
        have d4 : w26.cell? ⟨bv, 4, none⟩ = some (.string meta_) := by have hv_ := HV7.out; unfold VerIs at hv_; rw [blk_cell hv_]; rfl
        by_cases h0_ : meta_.toList = []
        · have y1 : (meta_.toList == []) = true := by rw [h0_]; rfl
          have y3 : (meta_.toList != []) = false := by rw [h0_]; rfl
          clear h0_
          go_wp2_with fail
          go_ret2
          exact ⟨bv, rfl, HWB.out, HV7, HB7⟩
        · have HVV := Lib.hid (HVM.out h0_ w26)
          have y1 : (meta_.toList == []) = false := beq_eq_false_iff_ne.mpr h0_
          have y3 : (meta_.toList != []) = true := by simp [bne, y1]
          clear h0_
          go_wp2_with fail
          refine HVV.out.mono ?_
          rintro e w27 ⟨rfl, hb_⟩
          have hv_ := HV7.out
          have HV8 : Hid (VerIs w27 bv a 0 0 pre meta_ v) := Lib.hid ((hb_.block _ (blk_lt hv_)).trans hv_)
          have HB8 := Lib.hid (HB7.out.trans (hb_.mono HB7.out.size))
          clear hb_ hv_ y1 y3 d4
          go_wp2_with fail
          go_ret2
          exact ⟨bv, rfl, HWB.out, HV8, HB8⟩
    · have y0 : t3.toList ≠ [] := by rw [h0_]; exact List.cons_ne_nil _ _
      have y1 : (t3.toList == []) = false := beq_eq_false_iff_ne.mpr y0
      have y2 : t3.toList.isEmpty = false := by rw [h0_]; rfl
      have y3 : (t3.toList != []) = true := by simp [bne, y1]
      have HTR := Lib.hid (fun W => trim_walk hz_ h0_ (r := q3) rfl W)
      have HUQ := Lib.hid (fun W => uint_walk HS.out.2.2 hu_ W)
      clear h0_ hz_ hu_ y0
      go_wp2_with fail
      refine (HTR.out _).mono ?_
      rintro e w5t ⟨rfl, hd_⟩
      have hb_ := hd_.below
      have hv_ := HV5.out
      have HV6 : Hid (VerIs w5t bv a 0 0 pre meta_ v) := Lib.hid ((hb_.block _ (blk_lt hv_)).trans hv_)
      have HN6 := Lib.hid (HN5.out.below hb_)
      have HB6 := Lib.hid (HB5.out.trans (hb_.mono HB5.out.size))
      clear hb_ hv_ hd_ k3 y1 y2 y3
      go_wp2_with fail
      refine (HUQ.out _).mono ?_
      rintro e w5u ⟨rfl, hb_⟩
      have hv_ := HV6.out
      have hv_' : VerIs w5u bv a 0 0 pre meta_ v := (hb_.block _ (blk_lt hv_)).trans hv_
      have hn_ := HN6.out.below hb_
      have HB7 := Lib.hid (HB6.out.trans (hb_.mono HB6.out.size))
      have HN7 := Lib.hid hn_
      have HV7 := Lib.hid hv_'
      have d2 : w5u.cell? ⟨bv, 2, none⟩ = some (.int .u64 0) := by unfold VerIs at hv_'; rw [blk_cell hv_']; rfl
      have fd2 : w5u.frozen? ⟨bv, 2, none⟩ = false := by unfold VerIs at hv_'; simp [World.frozen?, hv_']
      clear hb_ hv_ hv_' hn_
      go_upto_region 16 with fail
      obtain ⟨w5v, hw_⟩ : ∃ w5v, w5v = w5u.setCell ⟨bv, 2, none⟩ (.int .u64 (p : Int)) := ⟨_, rfl⟩
      have hv_ : VerIs w5v bv a 0 p pre meta_ v := by rw [hw_]; exact blk_set HV7.out 2 _
      have hn_ : Nine w5v b (.string v) (.string t1) (.string t2) (.string t3) (.string c4) (.string pre) E0 (.string c7) (.string meta_) := by rw [hw_]; exact (Below.heap_setCell _ _ _ _ HNE.out).trans HN7.out
      have HB8 : Hid (Below w.heap.size w w5v) := Lib.hid (by rw [hw_]; exact HB7.out.setCell (p := ⟨bv, 2, none⟩) HWB.out _)
      have HV8 := Lib.hid hv_
      have HN8 := Lib.hid hn_
      rw [← hw_]
      clear hw_ hv_ hn_ d2 fd2
      go_upto_region 19 with fail
      have d3 : w5v.cell? ⟨bv, 3, none⟩ = some (.string pre) := by have hv_ := HV8.out; unfold VerIs at hv_; rw [blk_cell hv_]; rfl
      by_cases h0_ : pre.toList = []
      · have y1 : (pre.toList == []) = true := by rw [h0_]; rfl
        have y3 : (pre.toList != []) = false := by rw [h0_]; rfl
        clear h0_
        go_upto_region 23 with fail
        clear y1 y3 d3
        have d4 : w5v.cell? ⟨bv, 4, none⟩ = some (.string meta_) := by have hv_ := HV8.out; unfold VerIs at hv_; rw [blk_cell hv_]; rfl
        by_cases h0_ : meta_.toList = []
        · have y1 : (meta_.toList == []) = true := by rw [h0_]; rfl
          have y3 : (meta_.toList != []) = false := by rw [h0_]; rfl
          clear h0_
          go_wp2_with fail
          go_ret2
          exact ⟨bv, rfl, HWB.out, HV8, HB8⟩
        · have HVV := Lib.hid (HVM.out h0_ w5v)
          have y1 : (meta_.toList == []) = false := beq_eq_false_iff_ne.mpr h0_
          have y3 : (meta_.toList != []) = true := by simp [bne, y1]
          clear h0_
          go_wp2_with fail
          refine HVV.out.mono ?_
          rintro e w28 ⟨rfl, hb_⟩
          have hv_ := HV8.out
          have HV9 : Hid (VerIs w28 bv a 0 p pre meta_ v) := Lib.hid ((hb_.block _ (blk_lt hv_)).trans hv_)
          have HB9 := Lib.hid (HB8.out.trans (hb_.mono HB8.out.size))
          clear hb_ hv_ y1 y3 d4
          go_wp2_with fail
          go_ret2
          exact ⟨bv, rfl, HWB.out, HV9, HB9⟩
      · have HVV := Lib.hid (HVP.out h0_ w5v)
        have y1 : (pre.toList == []) = false := beq_eq_false_iff_ne.mpr h0_
        have y3 : (pre.toList != []) = true := by simp [bne, y1]
        clear h0_
        go_wp2_with fail
        refine HVV.out.mono ?_
        rintro e w28 ⟨rfl, hb_⟩
        have hv_ := HV8.out
        have HV9 : Hid (VerIs w28 bv a 0 p pre meta_ v) := Lib.hid ((hb_.block _ (blk_lt hv_)).trans hv_)
        have HB9 := Lib.hid (HB8.out.trans (hb_.mono HB8.out.size))
        clear hb_ hv_ y1 y3 d3
        go_upto_region 23 with fail
        have d4 : w28.cell? ⟨bv, 4, none⟩ = some (.string meta_) := by have hv_ := HV9.out; unfold VerIs at hv_; rw [blk_cell hv_]; rfl
        by_cases h0_ : meta_.toList = []
        · have y1 : (meta_.toList == []) = true := by rw [h0_]; rfl
          have y3 : (meta_.toList != []) = false := by rw [h0_]; rfl
          clear h0_
          go_wp2_with fail
          go_ret2
          exact ⟨bv, rfl, HWB.out, HV9, HB9⟩
        · have HVV := Lib.hid (HVM.out h0_ w28)
          have y1 : (meta_.toList == []) = false := beq_eq_false_iff_ne.mpr h0_
          have y3 : (meta_.toList != []) = true := by simp [bne, y1]
          clear h0_
          go_wp2_with fail
          refine HVV.out.mono ?_
          rintro e w29 ⟨rfl, hb_⟩
          have hv_ := HV9.out
          have HV10 : Hid (VerIs w29 bv a 0 p pre meta_ v) := Lib.hid ((hb_.block _ (blk_lt hv_)).trans hv_)
          have HB10 := Lib.hid (HB9.out.trans (hb_.mono HB9.out.size))
          clear hb_ hv_ y1 y3 d4
          go_wp2_with fail
          go_ret2
          exact ⟨bv, rfl, HWB.out, HV10, HB10⟩
  · have y0 : t2.toList ≠ [] := by rw [h0_]; exact List.cons_ne_nil _ _
    have y1 : (t2.toList == []) = false := beq_eq_false_iff_ne.mpr y0
    have y2 : t2.toList.isEmpty = false := by rw [h0_]; rfl
    have y3 : (t2.toList != []) = true := by simp [bne, y1]
    have HTR := Lib.hid (fun W => trim_walk hz_ h0_ (r := q2) rfl W)
    have HUQ := Lib.hid (fun W => uint_walk HS.out.2.1 hu_ W)
    clear h0_ hz_ hu_ y0
    go_wp2_with fail
    refine (HTR.out _).mono ?_
    rintro e w4t ⟨rfl, hd_⟩
    have hb_ := hd_.below
    have hv_ := HV4.out
    have HV5 : Hid (VerIs w4t bv a 0 0 pre meta_ v) := Lib.hid ((hb_.block _ (blk_lt hv_)).trans hv_)
    have HN5 := Lib.hid (HN4.out.below hb_)
    have HB5 := Lib.hid (HB4.out.trans (hb_.mono HB4.out.size))
    clear hb_ hv_ hd_ k2 y1 y2 y3
    go_wp2_with fail
    refine (HUQ.out _).mono ?_
    rintro e w4u ⟨rfl, hb_⟩
    have hv_ := HV5.out
    have hv_' : VerIs w4u bv a 0 0 pre meta_ v := (hb_.block _ (blk_lt hv_)).trans hv_
    have hn_ := HN5.out.below hb_
    have HB6 := Lib.hid (HB5.out.trans (hb_.mono HB5.out.size))
    have HN6 := Lib.hid hn_
    have HV6 := Lib.hid hv_'
    have d1 : w4u.cell? ⟨bv, 1, none⟩ = some (.int .u64 0) := by unfold VerIs at hv_'; rw [blk_cell hv_']; rfl
    have fd1 : w4u.frozen? ⟨bv, 1, none⟩ = false := by unfold VerIs at hv_'; simp [World.frozen?, hv_']
    clear hb_ hv_ hv_' hn_
    go_upto_region 11 with fail
    obtain ⟨w4v, hw_⟩ : ∃ w4v, w4v = w4u.setCell ⟨bv, 1, none⟩ (.int .u64 (m : Int)) := ⟨_, rfl⟩
    have hv_ : VerIs w4v bv a m 0 pre meta_ v := by rw [hw_]; exact blk_set HV6.out 1 _
    have hn_ : Nine w4v b (.string v) (.string t1) (.string t2) (.string t3) (.string c4) (.string pre) E0 (.string c7) (.string meta_) := by rw [hw_]; exact (Below.heap_setCell _ _ _ _ HNE.out).trans HN6.out
    have HB7 : Hid (Below w.heap.size w w4v) := Lib.hid (by rw [hw_]; exact HB6.out.setCell (p := ⟨bv, 1, none⟩) HWB.out _)
    have HV7 := Lib.hid hv_
    have HN7 := Lib.hid hn_
    rw [← hw_]
    clear hw_ hv_ hn_ d1 fd1
    go_upto_region 14 with fail
    have hn_ := HN7.out
    obtain ⟨kk_, _⟩ := hn_.cell 3
    have k3 : w4v.cell? ⟨b, 3, none⟩ = some (.string t3) := kk_
    clear kk_
    clear hn_
    rcases HU3.out with ⟨h0_, hm_⟩ | ⟨h0_, hz_, hu_⟩
    · have y1 : (t3.toList == []) = true := by rw [h0_]; rfl
      have y2 : t3.toList.isEmpty = true := by rw [h0_]; rfl
      have y3 : (t3.toList != []) = false := by rw [h0_]; rfl
      subst hm_
      clear h0_
      have d2 : w4v.cell? ⟨bv, 2, none⟩ = some (.int .u64 0) := by have hv_ := HV7.out; unfold VerIs at hv_; rw [blk_cell hv_]; rfl
      have fd2 : w4v.frozen? ⟨bv, 2, none⟩ = false := by have hv_ := HV7.out; unfold VerIs at hv_; simp [World.frozen?, hv_]
      go_upto_region 19 with fail
      obtain ⟨w37, hw_⟩ : ∃ w37, w37 = w4v.setCell ⟨bv, 2, none⟩ (.int .u64 0) := ⟨_, rfl⟩
      have hv_ : VerIs w37 bv a m 0 pre meta_ v := by rw [hw_]; exact blk_set HV7.out 2 _
      have hn_ : Nine w37 b (.string v) (.string t1) (.string t2) (.string t3) (.string c4) (.string pre) E0 (.string c7) (.string meta_) := by rw [hw_]; exact (Below.heap_setCell _ _ _ _ HNE.out).trans HN7.out
      have HB8 : Hid (Below w.heap.size w w37) := Lib.hid (by rw [hw_]; exact HB7.out.setCell (p := ⟨bv, 2, none⟩) HWB.out _)
      have HV8 := Lib.hid hv_
      have HN8 := Lib.hid hn_
      rw [← hw_]
      clear hw_ hv_ hn_ d2 fd2
      clear k3 y1 y2 y3
      have d3 : w37.cell? ⟨bv, 3, none⟩ = some (.string pre) := by have hv_ := HV8.out; unfold VerIs at hv_; rw [blk_cell hv_]; rfl
      by_cases h0_ : pre.toList = []
      · have y1 : (pre.toList == []) = true := by rw [h0_]; rfl
        have y3 : (pre.toList != []) = false := by rw [h0_]; rfl
        clear h0_
        go_upto_region 23 with fail
        clear y1 y3 d3
        have d4 : w37.cell? ⟨bv, 4, none⟩ = some (.string meta_) := by have hv_ := HV8.out; unfold VerIs at hv_; rw [blk_cell hv_]; rfl
        by_cases h0_ : meta_.toList = []
        · have y1 : (meta_.toList == []) = true := by rw [h0_]; rfl
          have y3 : (meta_.toList != []) = false := by rw [h0_]; rfl
          clear h0_
          go_wp2_with fail
          go_ret2
          exact ⟨bv, rfl, HWB.out, HV8, HB8⟩
        · have HVV := Lib.hid (HVM.out h0_ w37)
          have y1 : (meta_.toList == []) = false := beq_eq_false_iff_ne.mpr h0_
          have y3 : (meta_.toList != []) = true := by simp [bne, y1]
          clear h0_
          go_wp2_with fail
          refine HVV.out.mono ?_
          rintro e w28 ⟨rfl, hb_⟩
          have hv_ := HV8.out
          have HV9 : Hid (VerIs w28 bv a m 0 pre meta_ v) := Lib.hid ((hb_.block _ (blk_lt hv_)).trans hv_)
          have HB9 := Lib.hid (HB8.out.trans (hb_.mono HB8.out.size))
          clear hb_ hv_ y1 y3 d4
          go_wp2_with fail
          go_ret2
          exact ⟨bv, rfl, HWB.out, HV9, HB9⟩
      · have HVV := Lib.hid (HVP.out h0_ w37)
        have y1 : (pre.toList == []) = false := beq_eq_false_iff_ne.mpr h0_
        have y3 : (pre.toList != []) = true := by simp [bne, y1]
        clear h0_
        go_wp2_with fail
        refine HVV.out.mono ?_
        rintro e w28 ⟨rfl, hb_⟩
        have hv_ := HV8.out
        have HV9 : Hid (VerIs w28 bv a m 0 pre meta_ v) := Lib.hid ((hb_.block _ (blk_lt hv_)).trans hv_)
        have HB9 := Lib.hid (HB8.out.trans (hb_.mono HB8.out.size))
        clear hb_ hv_ y1 y3 d3
        go_upto_region 23 with fail
        have d4 : w28.cell? ⟨bv, 4, none⟩ = some (.string meta_) := by have hv_ := HV9.out; unfold VerIs at hv_; rw [blk_cell hv_]; rfl
        by_cases h0_ : meta_.toList = []
        · have y1 : (meta_.toList == []) = true := by rw [h0_]; rfl
          have y3 : (meta_.toList != []) = false := by rw [h0_]; rfl
          clear h0_
          go_wp2_with fail
          go_ret2
          exact ⟨bv, rfl, HWB.out, HV9, HB9⟩
        · have HVV := Lib.hid (HVM.out h0_ w28)
          have y1 : (meta_.toList == []) = false := beq_eq_false_iff_ne.mpr h0_
          have y3 : (meta_.toList != []) = true := by simp [bne, y1]
          clear h0_
          go_wp2_with fail
          refine HVV.out.mono ?_
          rintro e w29 ⟨rfl, hb_⟩
          have hv_ := HV9.out
          have HV10 : Hid (VerIs w29 bv a m 0 pre meta_ v) := Lib.hid ((hb_.block _ (blk_lt hv_)).trans hv_)
          have HB10 := Lib.hid (HB9.out.trans (hb_.mono HB9.out.size))
          clear hb_ hv_ y1 y3 d4
          go_wp2_with fail
          go_ret2
          exact ⟨bv, rfl, HWB.out, HV10, HB10⟩
    · have y0 : t3.toList ≠ [] := by rw [h0_]; exact List.cons_ne_nil _ _
      have y1 : (t3.toList == []) = false := beq_eq_false_iff_ne.mpr y0
      have y2 : t3.toList.isEmpty = false := by rw [h0_]; rfl
      have y3 : (t3.toList != []) = true := by simp [bne, y1]
      have HTR := Lib.hid (fun W => trim_walk hz_ h0_ (r := q3) rfl W)
      have HUQ := Lib.hid (fun W => uint_walk HS.out.2.2 hu_ W)
      clear h0_ hz_ hu_ y0
      go_wp2_with fail
      refine (HTR.out _).mono ?_
      rintro e w7t ⟨rfl, hd_⟩
      have hb_ := hd_.below
      have hv_ := HV7.out
      have HV8 : Hid (VerIs w7t bv a m 0 pre meta_ v) := Lib.hid ((hb_.block _ (blk_lt hv_)).trans hv_)
      have HN8 := Lib.hid (HN7.out.below hb_)
      have HB8 := Lib.hid (HB7.out.trans (hb_.mono HB7.out.size))
      clear hb_ hv_ hd_ k3 y1 y2 y3
      go_wp2_with fail
      refine (HUQ.out _).mono ?_
      rintro e w7u ⟨rfl, hb_⟩
      have hv_ := HV8.out
      have hv_' : VerIs w7u bv a m 0 pre meta_ v := (hb_.block _ (blk_lt hv_)).trans hv_
      have hn_ := HN8.out.below hb_
      have HB9 := Lib.hid (HB8.out.trans (hb_.mono HB8.out.size))
      have HN9 := Lib.hid hn_
      have HV9 := Lib.hid hv_'
      have d2 : w7u.cell? ⟨bv, 2, none⟩ = some (.int .u64 0) := by unfold VerIs at hv_'; rw [blk_cell hv_']; rfl
      have fd2 : w7u.frozen? ⟨bv, 2, none⟩ = false := by unfold VerIs at hv_'; simp [World.frozen?, hv_']
      clear hb_ hv_ hv_' hn_
      go_upto_region 16 with fail
      obtain ⟨w7v, hw_⟩ : ∃ w7v, w7v = w7u.setCell ⟨bv, 2, none⟩ (.int .u64 (p : Int)) := ⟨_, rfl⟩
      have hv_ : VerIs w7v bv a m p pre meta_ v := by rw [hw_]; exact blk_set HV9.out 2 _
      have hn_ : Nine w7v b (.string v) (.string t1) (.string t2) (.string t3) (.string c4) (.string pre) E0 (.string c7) (.string meta_) := by rw [hw_]; exact (Below.heap_setCell _ _ _ _ HNE.out).trans HN9.out
      have HB10 : Hid (Below w.heap.size w w7v) := Lib.hid (by rw [hw_]; exact HB9.out.setCell (p := ⟨bv, 2, none⟩) HWB.out _)
      have HV10 := Lib.hid hv_
      have HN10 := Lib.hid hn_
      rw [← hw_]
      clear hw_ hv_ hn_ d2 fd2
      go_upto_region 19 with fail
      have d3 : w7v.cell? ⟨bv, 3, none⟩ = some (.string pre) := by have hv_ := HV10.out; unfold VerIs at hv_; rw [blk_cell hv_]; rfl
      by_cases h0_ : pre.toList = []
      · have y1 : (pre.toList == []) = true := by rw [h0_]; rfl
        have y3 : (pre.toList != []) = false := by rw [h0_]; rfl
        clear h0_
        go_upto_region 23 with fail
        clear y1 y3 d3
        have d4 : w7v.cell? ⟨bv, 4, none⟩ = some (.string meta_) := by have hv_ := HV10.out; unfold VerIs at hv_; rw [blk_cell hv_]; rfl
        by_cases h0_ : meta_.toList = []
        · have y1 : (meta_.toList == []) = true := by rw [h0_]; rfl
          have y3 : (meta_.toList != []) = false := by rw [h0_]; rfl
          clear h0_
          go_wp2_with fail
          go_ret2
          exact ⟨bv, rfl, HWB.out, HV10, HB10⟩
        · have HVV := Lib.hid (HVM.out h0_ w7v)
          have y1 : (meta_.toList == []) = false := beq_eq_false_iff_ne.mpr h0_
          have y3 : (meta_.toList != []) = true := by simp [bne, y1]
          clear h0_
          go_wp2_with fail
          refine HVV.out.mono ?_
          rintro e w30 ⟨rfl, hb_⟩
          have hv_ := HV10.out
          have HV11 : Hid (VerIs w30 bv a m p pre meta_ v) := Lib.hid ((hb_.block _ (blk_lt hv_)).trans hv_)
          have HB11 := Lib.hid (HB10.out.trans (hb_.mono HB10.out.size))
          clear hb_ hv_ y1 y3 d4
          go_wp2_with fail
          go_ret2
          exact ⟨bv, rfl, HWB.out, HV11, HB11⟩
      · have HVV := Lib.hid (HVP.out h0_ w7v)
        have y1 : (pre.toList == []) = false := beq_eq_false_iff_ne.mpr h0_
        have y3 : (pre.toList != []) = true := by simp [bne, y1]
        clear h0_
        go_wp2_with fail
        refine HVV.out.mono ?_
        rintro e w30 ⟨rfl, hb_⟩
        have hv_ := HV10.out
        have HV11 : Hid (VerIs w30 bv a m p pre meta_ v) := Lib.hid ((hb_.block _ (blk_lt hv_)).trans hv_)
        have HB11 := Lib.hid (HB10.out.trans (hb_.mono HB10.out.size))
        clear hb_ hv_ y1 y3 d3
        go_upto_region 23 with fail
        have d4 : w30.cell? ⟨bv, 4, none⟩ = some (.string meta_) := by have hv_ := HV11.out; unfold VerIs at hv_; rw [blk_cell hv_]; rfl
        by_cases h0_ : meta_.toList = []
        · have y1 : (meta_.toList == []) = true := by rw [h0_]; rfl
          have y3 : (meta_.toList != []) = false := by rw [h0_]; rfl
          clear h0_
          go_wp2_with fail
          go_ret2
          exact ⟨bv, rfl, HWB.out, HV11, HB11⟩
        · have HVV := Lib.hid (HVM.out h0_ w30)
          have y1 : (meta_.toList == []) = false := beq_eq_false_iff_ne.mpr h0_
          have y3 : (meta_.toList != []) = true := by simp [bne, y1]
          clear h0_
          go_wp2_with fail
          refine HVV.out.mono ?_
          rintro e w31 ⟨rfl, hb_⟩
          have hv_ := HV11.out
          have HV12 : Hid (VerIs w31 bv a m p pre meta_ v) := Lib.hid ((hb_.block _ (blk_lt hv_)).trans hv_)
          have HB12 := Lib.hid (HB11.out.trans (hb_.mono HB11.out.size))
          clear hb_ hv_ y1 y3 d4
          go_wp2_with fail
          go_ret2
          exact ⟨bv, rfl, HWB.out, HV12, HB12⟩
end Go.Proofs.YtmoilbhkjmhoaaaDoor.Sv
