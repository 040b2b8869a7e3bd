/- strconv.FormatUint at base 10, over the shelf's numDigits, formatBase10 and small. -/
import Derived.Test.YtoebognfkigooaaGreatDoorPow
import Derived.Lib.ItoaMem
import Derived.Laws.IdiomStrings
import Derived.Laws.Slices
import Derived.Sort.Row
import Derived.Test.YtoebognfkigooaaGreatDoorMB
import Derived.Test.YtoebognfkigooaaGreatDoorMA
import Derived.Deep.RegionWith
import Derived.Lib.LazyBuf
import Derived.Test.YtoebognfkigooaaGreatDoorMD
import Derived.Deep.OwnRows
namespace Go.Proofs.YtoebognfkigooaaGreatDoor.Giv
open Go.RowKit Go.Sort Go.Proofs.YtoebognfkigooaaGreatDoorW.PrintWords Go.Proofs.YtoebognfkigooaaGreatDoor.Txt
set_option linter.unusedVariables false
set_option maxRecDepth 100000

abbrev u8v (b : UInt8) : Value := Value.int .u8 (b.toNat : Int)
theorem zeros_at0 (w : World) (T : TypeId) (nd : Nat) (hs : nd ≤ 24) : Holds (fun (b : UInt8) => Value.int .u8 (b.toNat : Int)) (w.alloc (.cells Lib.zeros24 T)) w.heap.size 0 (Array.replicate nd (0 : UInt8)) := fun j hj => by
  have hj' : j < nd := by simpa using hj
  refine ⟨?_, World.frozen?_alloc_new _ _ _ _⟩
  rw [World.cell?_alloc_new, Lib.zeros24_at _ (by omega), getElem!_pos _ j hj]
  simp
end Go.Proofs.YtoebognfkigooaaGreatDoor.Giv
namespace Go.Proofs.YtoebognfkigooaaGreatDoor.Sv
open Go.RowKit Go.Proofs.YtoebognfkigooaaGreatDoor.Vals Go.Proofs.YtoebognfkigooaaGreatDoorW.PrintWords Go.Proofs.YtoebognfkigooaaGreatDoor.Txt Go.Proofs.YtoebognfkigooaaGreatDoor.Giv Go.Proofs.YtoebognfkigooaaGreatDoor
set_option linter.unusedVariables false
set_option linter.unusedSimpArgs false
set_option maxRecDepth 20000

/-- A number in decimal. -/
def decB (n : Nat) : ByteArray := ba (Lib.decDigits n)
theorem decB_tl (n : Nat) : (decB n).toList = Lib.decDigits n := tl_ba _
/-- One byte as a text. -/
theorem conv1 (W : World) (b : Nat) (c : Nat) (hc : c < 256) (h : W.cell? ⟨b, 0, none⟩ = some (.int .u8 (c : Int))) : (convert 69 9 (.slice (some ⟨b, 0, none⟩) 1 1)).run Tryz.prog W = .ok (.string ⟨#[UInt8.ofNat c]⟩) W := by
  have e : ((UInt8.ofNat c).toNat : Int) = (c : Int) := by rw [UInt8.toNat_ofNat']; omega
  refine run_convert_bytes_back (P := Tryz.prog) _ 69 9 5 ⟨b, 0, none⟩ 1 [UInt8.ofNat c] Tryz.underlying69 Tryz.underlying5 Tryz.underlying9 ?_
  intro j hj
  have hj0 : j = 0 := by simpa using hj
  subst hj0
  have e1 : (⟨b, 0, none⟩ : Addr).add 0 = ⟨b, 0, none⟩ := by simp [Addr.add]
  rw [e1, h]
  simp only [List.getElem_cons_zero, e]
theorem bcell {W w1 : World} (hb : Below W.heap.size W w1) : ∀ b o, b < W.heap.size → w1.cell? ⟨b, o, none⟩ = W.cell? ⟨b, o, none⟩ := fun b o h => hb.cell (p := ⟨b, o, none⟩) h
/-- Three numbers with points between. -/
def text3 (a m p : Nat) : ByteArray := decB a ++ ⟨#[46]⟩ ++ decB m ++ ⟨#[46]⟩ ++ decB p
theorem decB_size {n : Nat} (h : n < 1000000000) : (decB n).size ≤ 9 := by unfold decB; rw [ba_size]; exact dec_len 8 n (by omega)
theorem point_size : (⟨#[46]⟩ : ByteArray).size = 1 := rfl
end Go.Proofs.YtoebognfkigooaaGreatDoor.Sv
namespace Go.Proofs.YtoebognfkigooaaGreatDoor.Sv
open Go.RowKit Go.Proofs.YtoebognfkigooaaGreatDoor.Vals Go.Proofs.YtoebognfkigooaaGreatDoorW.PrintWords Go.Proofs.YtoebognfkigooaaGreatDoor.Txt Go.Proofs.YtoebognfkigooaaGreatDoor.Giv Go.Proofs.YtoebognfkigooaaGreatDoor
set_option linter.unusedVariables false
set_option linter.unusedSimpArgs false
set_option maxRecDepth 20000

theorem itoa_dec (n : Nat) : itoaB (n : Int) = decB n := by unfold itoaB decB ba; rw [Lib.itoa_nonneg]
/-- A version of numbers alone. -/
def numTx (d1 d2 d3 : List UInt8) : Tx := ⟨d1, d2, d3, [], []⟩
theorem numTx_ok {d1 d2 d3 : List UInt8} (h1 : d1 ≠ []) (g1 : d1.all isDig = true) (g2 : d2.all isDig = true) (g3 : d3.all isDig = true) (h : d2 = [] → d3 = []) : (numTx d1 d2 d3).Ok :=
  ⟨h1, g1, g2, g3, h, .inl rfl, .inl rfl⟩
theorem numTx_text (d1 d2 d3 : List UInt8) : (numTx d1 d2 d3).text = d1 ++ (sg 46 d2 ++ sg 46 d3) := by
  unfold numTx Tx.text Tx.pre Tx.meta_; simp [sg, dots]
/-- NewVersion of numbers alone. -/
theorem newNum_walk {d1 d2 d3 : List UInt8} (h : (numTx d1 d2 d3).Ok) (v : ByteArray) (hv : v.toList = d1 ++ (sg 46 d2 ++ sg 46 d3)) (hs : v.size ≤ 256) (a m p : Nat) (U1 : Lib.parseUintB 64 d1 = .ok a) (U2 : NumOf d2 m) (U3 : NumOf d3 p) (w : World) :
    Calls Tryz.prog 29 #[.string v] w (VerRes a m p ⟨#[]⟩ ⟨#[]⟩ v w) :=
  newVersion_walk (numTx d1 d2 d3) h v (by rw [numTx_text]; exact hv) hs a m p U1 U2 U3 (fun hh => absurd rfl hh) (fun hh => absurd rfl hh) w
end Go.Proofs.YtoebognfkigooaaGreatDoor.Sv
namespace Go.Proofs.YtoebognfkigooaaGreatDoor.Sv
open Go.RowKit Go.Proofs.YtoebognfkigooaaGreatDoor.PFnSemverEither Go.Proofs.YtoebognfkigooaaGreatDoorW.PrintWords Go.Proofs.YtoebognfkigooaaGreatDoor.Txt Go.Proofs.YtoebognfkigooaaGreatDoor Go.Proofs.YtoebognfkigooaaGreatDoor.Vals
set_option linter.unusedVariables false
set_option linter.unusedSimpArgs false
set_option maxRecDepth 20000

/-- A test in memory. -/
def Six (w : World) (b : Nat) (c0 c1 c2 c3 c4 c5 : Value) : Prop := w.heap[b]? = some (.cells #[c0, c1, c2, c3, c4, c5] 65 (0, 0))
theorem Six.below {w w' : World} {b : Nat} {c0 c1 c2 c3 c4 c5 : Value} (h : Six w b c0 c1 c2 c3 c4 c5) (hb : Below w.heap.size w w') : Six w' b c0 c1 c2 c3 c4 c5 := (hb.block _ (blk_lt h)).trans h
theorem Six.cell {w : World} {b : Nat} {c0 c1 c2 c3 c4 c5 : Value} (h : Six w b c0 c1 c2 c3 c4 c5) (j : Nat) : w.cell? ⟨b, j, none⟩ = #[c0, c1, c2, c3, c4, c5][j]? ∧ w.frozen? ⟨b, j, none⟩ = false := by
  unfold Six at h
  exact ⟨by rw [blk_cell h], by simp [World.frozen?, h]⟩
/-- Seven texts. -/
def Seven (w : World) (b : Nat) (c0 c1 c2 c3 c4 c5 c6 : ByteArray) : Prop := w.heap[b]? = some (.cells #[.string c0, .string c1, .string c2, .string c3, .string c4, .string c5, .string c6] 9 (0, 0))
theorem Seven.below {w w' : World} {b : Nat} {c0 c1 c2 c3 c4 c5 c6 : ByteArray} (h : Seven w b c0 c1 c2 c3 c4 c5 c6) (hb : Below w.heap.size w w') : Seven w' b c0 c1 c2 c3 c4 c5 c6 := (hb.block _ (blk_lt h)).trans h
theorem Seven.cell {w : World} {b : Nat} {c0 c1 c2 c3 c4 c5 c6 : ByteArray} (h : Seven w b c0 c1 c2 c3 c4 c5 c6) (j : Nat) : w.cell? ⟨b, j, none⟩ = #[.string c0, .string c1, .string c2, .string c3, .string c4, .string c5, .string c6][j]? := by
  unfold Seven at h
  rw [blk_cell h]
/-- What parseConstraint answers. -/
def ParseRes (a m p : Nat) (og orig op : ByteArray) (md di pd : Bool) (w : World) (e : Ending) (w' : World) : Prop := ∃ b vb, e = .returned (.tuple #[.pointer (some ⟨b, 0, none⟩), .nilIface]) ∧ w.heap.size ≤ b ∧ w.heap.size ≤ vb ∧ Hid (Six w' b (.pointer (some ⟨vb, 0, none⟩)) (.string orig) (.string op) (.bool md) (.bool di) (.bool pd)) ∧ Hid (VerIs w' vb a m p ⟨#[]⟩ ⟨#[]⟩ og) ∧ Hid (Below w.heap.size w w')
set_option maxHeartbeats 4000000 in
theorem parse_1 (s : ByteArray) (hs0 : 0 < s.size) (hs : s.size ≤ 512) (k0 q : Nat) (op m0 ver : ByteArray) (hqz : q ≤ s.size) (hz : m0.size ≤ 100) (a m p : Nat)
    (S0 : ∀ W, Calls Tryz.prog 31 #[.string s, .int .i64 0] W fun e w' => e = .returned (.int .i64 (k0 : Int)) ∧ Drawn0 W w')
    (SE : ∀ W, Calls Tryz.prog 31 #[.string s, .int .i64 (s.size : Int)] W fun e w' => e = .returned (.int .i64 (s.size : Int)) ∧ Drawn0 W w')
    (CS : ∀ W, Calls Tryz.prog 35 #[.string s, .int .i64 (k0 : Int)] W fun e w' => e = .returned (.tuple #[.int .i64 (s.size : Int), .int .i64 (q : Int), .string op]) ∧ Below W.heap.size W w')
    (VS : ∀ W, Calls Tryz.prog 32 #[.string s, .int .i64 (q : Int)] W fun e w' => e = .returned (.tuple #[.int .i64 (s.size : Int), .agg #[.string m0, .string (⟨#[]⟩), .string (⟨#[]⟩), .string ⟨#[]⟩]]) ∧ Below W.heap.size W w')
    (X0 : ∀ W, Calls Tryz.prog 36 #[.string m0] W fun e w' => e = .returned (.bool false) ∧ Drawn0 W w') (E0 : (m0.toList == []) = false)
    (T1 : ∀ W, Calls Tryz.prog 37 #[.string ⟨#[]⟩, .string ⟨#[46]⟩] W fun e w' => e = .returned (.string ⟨#[]⟩) ∧ Drawn0 W w') (X1 : ∀ W, Calls Tryz.prog 36 #[.string ⟨#[]⟩] W fun e w' => e = .returned (.bool false) ∧ Drawn0 W w')
    (hver : m0 ++ ⟨#[46, 48, 46, 48]⟩ ++ ⟨#[]⟩ = ver) (NV : ∀ W, Calls Tryz.prog 29 #[.string ver] W (VerRes a m p ⟨#[]⟩ ⟨#[]⟩ ver W)) (w : World) :
    Calls Tryz.prog 23 #[.string s] w (ParseRes a m p ver (s.extract q s.size) op true true false w) := by
  have hs0' : (0 : Int) < (s.size : Int) := by omega
  have HB0 := Lib.hid (Below.refl w.heap.size w)
  have HS0 := Lib.hid S0
  have HSE := Lib.hid SE
  have HCS := Lib.hid CS
  have HVS := Lib.hid VS
  have HX0 := Lib.hid X0
  have HT1 := Lib.hid T1
  have HX1 := Lib.hid X1
  have HNV := Lib.hid NV
  clear S0 SE CS VS X0 T1 X1 NV
  go_enter Tryz.func23, Tryz.ntmps23
  go_wp2_with fail
  refine (HS0.out _).mono ?_
  rintro e w1 ⟨rfl, hd1⟩
  have HB1 := Lib.hid (HB0.out.trans (hd1.below.mono HB0.out.size))
  clear hd1
  go_wp2_with fail
  refine (HCS.out _).mono ?_
  rintro e w2 ⟨rfl, hd2⟩
  have HB2 := Lib.hid (HB1.out.trans (hd2.mono HB1.out.size))
  clear hd2
  have hneg : ((s.size : Int) < 0) = False := eq_false (by omega)
  have hneg' : decide ((s.size : Int) < 0) = false := by simp
  go_wp2_with fail
  refine (HSE.out _).mono ?_
  rintro e w3 ⟨rfl, hd3⟩
  have HB3 := Lib.hid (HB2.out.trans (hd3.below.mono HB2.out.size))
  clear hd3
  have hne : ((s.size : Int) != (s.size : Int)) = false := by simp
  go_wp2_with fail
  refine (HVS.out _).mono ?_
  rintro e w4 ⟨rfl, hd4⟩
  have HB4 := Lib.hid (HB3.out.trans (hd4.mono HB3.out.size))
  clear hd4 hneg hneg' hne
  have n4 : Four (w4.alloc (.cells #[.string m0, .string (⟨#[]⟩), .string (⟨#[]⟩), .string ⟨#[]⟩] 79)) w4.heap.size m0 (⟨#[]⟩) (⟨#[]⟩) ⟨#[]⟩ := heap_alloc_new w4 _
  have HB5 : Hid (Below w.heap.size w (w4.alloc (.cells #[.string m0, .string (⟨#[]⟩), .string (⟨#[]⟩), .string ⟨#[]⟩] 79))) := Lib.hid (HB4.out.alloc HB4.out.size _)
  go_upto_region 6 with fail
  obtain ⟨w5, hw5⟩ : ∃ w5, w5 = w4.alloc (.cells #[.string m0, .string (⟨#[]⟩), .string (⟨#[]⟩), .string ⟨#[]⟩] 79) := ⟨_, rfl⟩
  have hsz5 : w4.heap.size < w5.heap.size := by rw [hw5]; simp
  rw [← hw5] at n4 HB5 ⊢
  clear hw5
  obtain ⟨k0_, -⟩ := n4.cell 0
  obtain ⟨k1_, -⟩ := n4.cell 1
  obtain ⟨k2_, -⟩ := n4.cell 2
  obtain ⟨k3_, -⟩ := n4.cell 3
  have hb1_ : (q : Int) ≤ (s.size : Int) := by omega
  clear n4
  go_region
  obtain ⟨w6, hw6⟩ : ∃ w6, w6 = (w5.alloc (.cells #[.string (s), .string (op), .string (s.extract q s.size), .string (m0), .string (⟨#[]⟩), .string (⟨#[]⟩), .string (⟨#[]⟩)] 9)).drew := ⟨_, rfl⟩
  have n6 : Seven w6 w5.heap.size s op (s.extract q s.size) m0 (⟨#[]⟩) (⟨#[]⟩) ⟨#[]⟩ := by rw [hw6]; exact heap_alloc_new w5 _
  have HB6 : Hid (Below w.heap.size w w6) := Lib.hid (by rw [hw6]; exact Below.trans (HB5.out.alloc HB5.out.size _) ⟨rfl, rfl, rfl, Nat.le_refl _, fun _ _ => rfl⟩)
  have hsz6 : w5.heap.size < w6.heap.size := blk_lt n6
  rw [← hw6]
  clear hw6 k0_ k1_ k2_ k3_ hb1_
  have j1_ := n6.cell 1
  have j2_ := n6.cell 2
  go_upto_region 7 with fail
  go_region
  obtain ⟨w7, hw7⟩ : ∃ w7, w7 = (w6.alloc (.cells #[.pointer none, .string (s.extract q s.size), .string op, .bool false, .bool false, .bool false] 65)).drew := ⟨_, rfl⟩
  have n7 : Six w7 w6.heap.size (.pointer none) (.string (s.extract q s.size)) (.string op) (.bool false) (.bool false) (.bool false) := by rw [hw7]; exact heap_alloc_new w6 _
  have HB7 : Hid (Below w.heap.size w w7) := Lib.hid (by rw [hw7]; exact Below.trans (HB6.out.alloc HB6.out.size _) ⟨rfl, rfl, rfl, Nat.le_refl _, fun _ _ => rfl⟩)
  have hb67 : Below w6.heap.size w6 w7 := by rw [hw7]; exact Below.trans ((Below.refl _ _).alloc (Nat.le_refl _) _) ⟨rfl, rfl, rfl, Nat.le_refl _, fun _ _ => rfl⟩
  have m7 := n6.below hb67
  rw [← hw7]
  have HSV7 := Lib.hid m7
  have HN7 := Lib.hid n7
  clear hw7 j1_ j2_ hb67 n6 n7
  have j2_ := m7.cell 2
  have j3_ := m7.cell 3
  clear m7
  go_wp2_with fail
  refine (HX0.out _).mono ?_
  rintro e w8 ⟨rfl, hd_⟩
  have hn_ := HSV7.out.below hd_.below
  have HN8 := Lib.hid (HN7.out.below hd_.below)
  have HB8 := Lib.hid (HB7.out.trans (hd_.below.mono HB7.out.size))
  have HSV8 := Lib.hid hn_
  clear hd_ j2_ j3_
  have j3_ := hn_.cell 3
  have j4_ := hn_.cell 4
  clear hn_
  go_wp2_with fail
  refine (HT1.out _).mono ?_
  rintro e w9 ⟨rfl, hd_⟩
  have hn_ := HSV8.out.below hd_.below
  have HN9 := Lib.hid (HN8.out.below hd_.below)
  have HB9 := Lib.hid (HB8.out.trans (hd_.below.mono HB8.out.size))
  have HSV9 := Lib.hid hn_
  clear hd_ j3_ j4_
  have j4_ := hn_.cell 4
  clear hn_
  go_wp2_with fail
  refine (HX1.out _).mono ?_
  rintro e w10 ⟨rfl, hd_⟩
  have hn_ := HSV9.out.below hd_.below
  have HN10 := Lib.hid (HN9.out.below hd_.below)
  have HB10 := Lib.hid (HB9.out.trans (hd_.below.mono HB9.out.size))
  have HSV10 := Lib.hid hn_
  clear hd_ j4_
  have j3_ := hn_.cell 3
  have j4_ := hn_.cell 4
  have j5_ := hn_.cell 5
  have j6_ := hn_.cell 6
  clear hn_
  have ee_ : ((⟨#[]⟩ : ByteArray).toList == []) = true := by rw [tl_nil]; rfl
  have hq1_ : (9223372036854775807 < m0.size + 4) = False := eq_false (by omega)
  go_wp2_with fail
  go_region
  clear j3_ j4_ j5_ j6_
  obtain ⟨wA, hwA⟩ : ∃ wA, wA = w10.drew := ⟨_, rfl⟩
  have HNA : Hid (Six wA w6.heap.size (.pointer none) (.string (s.extract q s.size)) (.string op) (.bool false) (.bool false) (.bool false)) := Lib.hid (by rw [hwA]; exact HN10.out)
  have HBA : Hid (Below w.heap.size w wA) := Lib.hid (by rw [hwA]; exact Below.trans HB10.out ⟨rfl, rfl, rfl, Nat.le_refl _, fun _ _ => rfl⟩)
  rw [← hwA]
  clear hwA
  go_wp2_with fail
  refine (HNV.out _).mono ?_
  rintro e wB ⟨vb, rfl, hvb, HV, hdB⟩
  have hn_ := HNA.out.below hdB.out
  have HVB := Lib.hid (Nat.le_trans HBA.out.size hvb)
  have hvne : vb ≠ w6.heap.size := fun h => by have := blk_lt HNA.out; omega
  have HBB := Lib.hid (HBA.out.trans (hdB.out.mono HBA.out.size))
  have HNB := Lib.hid hn_
  obtain ⟨-, f0_⟩ := hn_.cell 0
  obtain ⟨-, f3_⟩ := hn_.cell 3
  obtain ⟨-, f4_⟩ := hn_.cell 4
  obtain ⟨-, f5_⟩ := hn_.cell 5
  obtain ⟨k0_, -⟩ := hn_.cell 0
  obtain ⟨k3_, -⟩ := hn_.cell 3
  obtain ⟨k4_, -⟩ := hn_.cell 4
  obtain ⟨k5_, -⟩ := hn_.cell 5
  clear hn_ hdB hvb
  go_wp2_with fail
  obtain ⟨wZ, hwZ⟩ : ∃ wZ, wZ = ((((wB.setCell ⟨w6.heap.size, 0, none⟩ (.pointer (some ⟨vb, 0, none⟩))).setCell ⟨w6.heap.size, 3, none⟩ (.bool true)).setCell ⟨w6.heap.size, 5, none⟩ (.bool false)).setCell ⟨w6.heap.size, 4, none⟩ (.bool true)) := ⟨_, rfl⟩
  rw [← hwZ]
  have nz_ : Six wZ w6.heap.size (.pointer (some ⟨vb, 0, none⟩)) (.string (s.extract q s.size)) (.string op) (.bool true) (.bool true) (.bool false) := by
    rw [hwZ]; exact blk_set (blk_set (blk_set (blk_set HNB.out 0 _) 3 _) 5 _) 4 _
  have vz_ : VerIs wZ vb a m p ⟨#[]⟩ ⟨#[]⟩ ver := by
    rw [hwZ]
    have o_ : ∀ (W : World) (j : Nat) (v : Value), (W.setCell ⟨w6.heap.size, j, none⟩ v).heap[vb]? = W.heap[vb]? := fun W j v => Below.heap_setCell W ⟨w6.heap.size, j, none⟩ v vb hvne
    unfold VerIs
    rw [o_, o_, o_, o_]
    exact HV.out
  have bz_ : Below w.heap.size w wZ := by
    have h_ : w.heap.size ≤ w6.heap.size := HB6.out.size
    rw [hwZ]
    exact (((HBB.out.setCell (p := ⟨w6.heap.size, 0, none⟩) h_ _).setCell (p := ⟨w6.heap.size, 3, none⟩) h_ _).setCell (p := ⟨w6.heap.size, 5, none⟩) h_ _).setCell (p := ⟨w6.heap.size, 4, none⟩) h_ _
  clear hwZ
  go_ret2
  exact ⟨w6.heap.size, vb, rfl, HB6.out.size, HVB.out, Lib.hid nz_, Lib.hid vz_, Lib.hid bz_⟩
set_option maxHeartbeats 4000000 in
theorem parse_2 (s : ByteArray) (hs0 : 0 < s.size) (hs : s.size ≤ 512) (k0 q : Nat) (op m0 m1 t1 ver : ByteArray) (hqz : q ≤ s.size) (hz : m0.size ≤ 100 ∧ m1.size ≤ 100) (a m p : Nat)
    (S0 : ∀ W, Calls Tryz.prog 31 #[.string s, .int .i64 0] W fun e w' => e = .returned (.int .i64 (k0 : Int)) ∧ Drawn0 W w')
    (SE : ∀ W, Calls Tryz.prog 31 #[.string s, .int .i64 (s.size : Int)] W fun e w' => e = .returned (.int .i64 (s.size : Int)) ∧ Drawn0 W w')
    (CS : ∀ W, Calls Tryz.prog 35 #[.string s, .int .i64 (k0 : Int)] W fun e w' => e = .returned (.tuple #[.int .i64 (s.size : Int), .int .i64 (q : Int), .string op]) ∧ Below W.heap.size W w')
    (VS : ∀ W, Calls Tryz.prog 32 #[.string s, .int .i64 (q : Int)] W fun e w' => e = .returned (.tuple #[.int .i64 (s.size : Int), .agg #[.string m0, .string (m1), .string (⟨#[]⟩), .string ⟨#[]⟩]]) ∧ Below W.heap.size W w')
    (X0 : ∀ W, Calls Tryz.prog 36 #[.string m0] W fun e w' => e = .returned (.bool false) ∧ Drawn0 W w') (E0 : (m0.toList == []) = false)
    (T1 : ∀ W, Calls Tryz.prog 37 #[.string m1, .string ⟨#[46]⟩] W fun e w' => e = .returned (.string t1) ∧ Drawn0 W w') (X1 : ∀ W, Calls Tryz.prog 36 #[.string t1] W fun e w' => e = .returned (.bool false) ∧ Drawn0 W w') (E1 : (m1.toList == []) = false)
    (T2 : ∀ W, Calls Tryz.prog 37 #[.string ⟨#[]⟩, .string ⟨#[46]⟩] W fun e w' => e = .returned (.string ⟨#[]⟩) ∧ Drawn0 W w') (X2 : ∀ W, Calls Tryz.prog 36 #[.string ⟨#[]⟩] W fun e w' => e = .returned (.bool false) ∧ Drawn0 W w')
    (hver : m0 ++ m1 ++ ⟨#[46, 48]⟩ ++ ⟨#[]⟩ = ver) (NV : ∀ W, Calls Tryz.prog 29 #[.string ver] W (VerRes a m p ⟨#[]⟩ ⟨#[]⟩ ver W)) (w : World) :
    Calls Tryz.prog 23 #[.string s] w (ParseRes a m p ver (s.extract q s.size) op false true true w) := by
  have hs0' : (0 : Int) < (s.size : Int) := by omega
  have HB0 := Lib.hid (Below.refl w.heap.size w)
  have HS0 := Lib.hid S0
  have HSE := Lib.hid SE
  have HCS := Lib.hid CS
  have HVS := Lib.hid VS
  have HX0 := Lib.hid X0
  have HT1 := Lib.hid T1
  have HX1 := Lib.hid X1
  have HT2 := Lib.hid T2
  have HX2 := Lib.hid X2
  have HNV := Lib.hid NV
  clear S0 SE CS VS X0 T1 X1 T2 X2 NV
  go_enter Tryz.func23, Tryz.ntmps23
  go_wp2_with fail
  refine (HS0.out _).mono ?_
  rintro e w1 ⟨rfl, hd1⟩
  have HB1 := Lib.hid (HB0.out.trans (hd1.below.mono HB0.out.size))
  clear hd1
  go_wp2_with fail
  refine (HCS.out _).mono ?_
  rintro e w2 ⟨rfl, hd2⟩
  have HB2 := Lib.hid (HB1.out.trans (hd2.mono HB1.out.size))
  clear hd2
  have hneg : ((s.size : Int) < 0) = False := eq_false (by omega)
  have hneg' : decide ((s.size : Int) < 0) = false := by simp
  go_wp2_with fail
  refine (HSE.out _).mono ?_
  rintro e w3 ⟨rfl, hd3⟩
  have HB3 := Lib.hid (HB2.out.trans (hd3.below.mono HB2.out.size))
  clear hd3
  have hne : ((s.size : Int) != (s.size : Int)) = false := by simp
  go_wp2_with fail
  refine (HVS.out _).mono ?_
  rintro e w4 ⟨rfl, hd4⟩
  have HB4 := Lib.hid (HB3.out.trans (hd4.mono HB3.out.size))
  clear hd4 hneg hneg' hne
  have n4 : Four (w4.alloc (.cells #[.string m0, .string (m1), .string (⟨#[]⟩), .string ⟨#[]⟩] 79)) w4.heap.size m0 (m1) (⟨#[]⟩) ⟨#[]⟩ := heap_alloc_new w4 _
  have HB5 : Hid (Below w.heap.size w (w4.alloc (.cells #[.string m0, .string (m1), .string (⟨#[]⟩), .string ⟨#[]⟩] 79))) := Lib.hid (HB4.out.alloc HB4.out.size _)
  go_upto_region 6 with fail
  obtain ⟨w5, hw5⟩ : ∃ w5, w5 = w4.alloc (.cells #[.string m0, .string (m1), .string (⟨#[]⟩), .string ⟨#[]⟩] 79) := ⟨_, rfl⟩
  have hsz5 : w4.heap.size < w5.heap.size := by rw [hw5]; simp
  rw [← hw5] at n4 HB5 ⊢
  clear hw5
  obtain ⟨k0_, -⟩ := n4.cell 0
  obtain ⟨k1_, -⟩ := n4.cell 1
  obtain ⟨k2_, -⟩ := n4.cell 2
  obtain ⟨k3_, -⟩ := n4.cell 3
  have hb1_ : (q : Int) ≤ (s.size : Int) := by omega
  clear n4
  go_region
  obtain ⟨w6, hw6⟩ : ∃ w6, w6 = (w5.alloc (.cells #[.string (s), .string (op), .string (s.extract q s.size), .string (m0), .string (m1), .string (⟨#[]⟩), .string (⟨#[]⟩)] 9)).drew := ⟨_, rfl⟩
  have n6 : Seven w6 w5.heap.size s op (s.extract q s.size) m0 (m1) (⟨#[]⟩) ⟨#[]⟩ := by rw [hw6]; exact heap_alloc_new w5 _
  have HB6 : Hid (Below w.heap.size w w6) := Lib.hid (by rw [hw6]; exact Below.trans (HB5.out.alloc HB5.out.size _) ⟨rfl, rfl, rfl, Nat.le_refl _, fun _ _ => rfl⟩)
  have hsz6 : w5.heap.size < w6.heap.size := blk_lt n6
  rw [← hw6]
  clear hw6 k0_ k1_ k2_ k3_ hb1_
  have j1_ := n6.cell 1
  have j2_ := n6.cell 2
  go_upto_region 7 with fail
  go_region
  obtain ⟨w7, hw7⟩ : ∃ w7, w7 = (w6.alloc (.cells #[.pointer none, .string (s.extract q s.size), .string op, .bool false, .bool false, .bool false] 65)).drew := ⟨_, rfl⟩
  have n7 : Six w7 w6.heap.size (.pointer none) (.string (s.extract q s.size)) (.string op) (.bool false) (.bool false) (.bool false) := by rw [hw7]; exact heap_alloc_new w6 _
  have HB7 : Hid (Below w.heap.size w w7) := Lib.hid (by rw [hw7]; exact Below.trans (HB6.out.alloc HB6.out.size _) ⟨rfl, rfl, rfl, Nat.le_refl _, fun _ _ => rfl⟩)
  have hb67 : Below w6.heap.size w6 w7 := by rw [hw7]; exact Below.trans ((Below.refl _ _).alloc (Nat.le_refl _) _) ⟨rfl, rfl, rfl, Nat.le_refl _, fun _ _ => rfl⟩
  have m7 := n6.below hb67
  rw [← hw7]
  have HSV7 := Lib.hid m7
  have HN7 := Lib.hid n7
  clear hw7 j1_ j2_ hb67 n6 n7
  have j2_ := m7.cell 2
  have j3_ := m7.cell 3
  clear m7
  go_wp2_with fail
  refine (HX0.out _).mono ?_
  rintro e w8 ⟨rfl, hd_⟩
  have hn_ := HSV7.out.below hd_.below
  have HN8 := Lib.hid (HN7.out.below hd_.below)
  have HB8 := Lib.hid (HB7.out.trans (hd_.below.mono HB7.out.size))
  have HSV8 := Lib.hid hn_
  clear hd_ j2_ j3_
  have j3_ := hn_.cell 3
  have j4_ := hn_.cell 4
  clear hn_
  go_wp2_with fail
  refine (HT1.out _).mono ?_
  rintro e w9 ⟨rfl, hd_⟩
  have hn_ := HSV8.out.below hd_.below
  have HN9 := Lib.hid (HN8.out.below hd_.below)
  have HB9 := Lib.hid (HB8.out.trans (hd_.below.mono HB8.out.size))
  have HSV9 := Lib.hid hn_
  clear hd_ j3_ j4_
  have j4_ := hn_.cell 4
  clear hn_
  go_wp2_with fail
  refine (HX1.out _).mono ?_
  rintro e w10 ⟨rfl, hd_⟩
  have hn_ := HSV9.out.below hd_.below
  have HN10 := Lib.hid (HN9.out.below hd_.below)
  have HB10 := Lib.hid (HB9.out.trans (hd_.below.mono HB9.out.size))
  have HSV10 := Lib.hid hn_
  clear hd_ j4_
  have j3_ := hn_.cell 3
  have j4_ := hn_.cell 4
  have j5_ := hn_.cell 5
  have j6_ := hn_.cell 6
  clear hn_
  go_wp2_with fail
  refine (HT2.out _).mono ?_
  rintro e w11 ⟨rfl, hd_⟩
  have hn_ := HSV10.out.below hd_.below
  have HN11 := Lib.hid (HN10.out.below hd_.below)
  have HB11 := Lib.hid (HB10.out.trans (hd_.below.mono HB10.out.size))
  have HSV11 := Lib.hid hn_
  clear hd_ j3_ j4_ j5_ j6_
  have j5_ := hn_.cell 5
  clear hn_
  go_wp2_with fail
  refine (HX2.out _).mono ?_
  rintro e w12 ⟨rfl, hd_⟩
  have hn_ := HSV11.out.below hd_.below
  have HN12 := Lib.hid (HN11.out.below hd_.below)
  have HB12 := Lib.hid (HB11.out.trans (hd_.below.mono HB11.out.size))
  have HSV12 := Lib.hid hn_
  clear hd_ j5_
  have j3_ := hn_.cell 3
  have j4_ := hn_.cell 4
  have j5_ := hn_.cell 5
  have j6_ := hn_.cell 6
  clear hn_
  have ee_ : ((⟨#[]⟩ : ByteArray).toList == []) = true := by rw [tl_nil]; rfl
  have hq1_ : (9223372036854775807 < m0.size + m1.size) = False := eq_false (by omega)
  have hq2_ : (9223372036854775807 < m0.size + m1.size + 2) = False := eq_false (by omega)
  go_wp2_with fail
  go_region
  clear j3_ j4_ j5_ j6_
  obtain ⟨wA, hwA⟩ : ∃ wA, wA = w12.drew := ⟨_, rfl⟩
  have HNA : Hid (Six wA w6.heap.size (.pointer none) (.string (s.extract q s.size)) (.string op) (.bool false) (.bool false) (.bool false)) := Lib.hid (by rw [hwA]; exact HN12.out)
  have HBA : Hid (Below w.heap.size w wA) := Lib.hid (by rw [hwA]; exact Below.trans HB12.out ⟨rfl, rfl, rfl, Nat.le_refl _, fun _ _ => rfl⟩)
  rw [← hwA]
  clear hwA
  go_wp2_with fail
  refine (HNV.out _).mono ?_
  rintro e wB ⟨vb, rfl, hvb, HV, hdB⟩
  have hn_ := HNA.out.below hdB.out
  have HVB := Lib.hid (Nat.le_trans HBA.out.size hvb)
  have hvne : vb ≠ w6.heap.size := fun h => by have := blk_lt HNA.out; omega
  have HBB := Lib.hid (HBA.out.trans (hdB.out.mono HBA.out.size))
  have HNB := Lib.hid hn_
  obtain ⟨-, f0_⟩ := hn_.cell 0
  obtain ⟨-, f3_⟩ := hn_.cell 3
  obtain ⟨-, f4_⟩ := hn_.cell 4
  obtain ⟨-, f5_⟩ := hn_.cell 5
  obtain ⟨k0_, -⟩ := hn_.cell 0
  obtain ⟨k3_, -⟩ := hn_.cell 3
  obtain ⟨k4_, -⟩ := hn_.cell 4
  obtain ⟨k5_, -⟩ := hn_.cell 5
  clear hn_ hdB hvb
  go_wp2_with fail
  obtain ⟨wZ, hwZ⟩ : ∃ wZ, wZ = ((((wB.setCell ⟨w6.heap.size, 0, none⟩ (.pointer (some ⟨vb, 0, none⟩))).setCell ⟨w6.heap.size, 3, none⟩ (.bool false)).setCell ⟨w6.heap.size, 5, none⟩ (.bool true)).setCell ⟨w6.heap.size, 4, none⟩ (.bool true)) := ⟨_, rfl⟩
  rw [← hwZ]
  have nz_ : Six wZ w6.heap.size (.pointer (some ⟨vb, 0, none⟩)) (.string (s.extract q s.size)) (.string op) (.bool false) (.bool true) (.bool true) := by
    rw [hwZ]; exact blk_set (blk_set (blk_set (blk_set HNB.out 0 _) 3 _) 5 _) 4 _
  have vz_ : VerIs wZ vb a m p ⟨#[]⟩ ⟨#[]⟩ ver := by
    rw [hwZ]
    have o_ : ∀ (W : World) (j : Nat) (v : Value), (W.setCell ⟨w6.heap.size, j, none⟩ v).heap[vb]? = W.heap[vb]? := fun W j v => Below.heap_setCell W ⟨w6.heap.size, j, none⟩ v vb hvne
    unfold VerIs
    rw [o_, o_, o_, o_]
    exact HV.out
  have bz_ : Below w.heap.size w wZ := by
    have h_ : w.heap.size ≤ w6.heap.size := HB6.out.size
    rw [hwZ]
    exact (((HBB.out.setCell (p := ⟨w6.heap.size, 0, none⟩) h_ _).setCell (p := ⟨w6.heap.size, 3, none⟩) h_ _).setCell (p := ⟨w6.heap.size, 5, none⟩) h_ _).setCell (p := ⟨w6.heap.size, 4, none⟩) h_ _
  clear hwZ
  go_ret2
  exact ⟨w6.heap.size, vb, rfl, HB6.out.size, HVB.out, Lib.hid nz_, Lib.hid vz_, Lib.hid bz_⟩
set_option maxHeartbeats 4000000 in
theorem parse_3 (s : ByteArray) (hs0 : 0 < s.size) (hs : s.size ≤ 512) (k0 q : Nat) (op m0 m1 t1 m2 t2 : ByteArray) (hqz : q ≤ s.size) (hz : m0.size ≤ 100 ∧ m1.size ≤ 100) (a m p : Nat)
    (S0 : ∀ W, Calls Tryz.prog 31 #[.string s, .int .i64 0] W fun e w' => e = .returned (.int .i64 (k0 : Int)) ∧ Drawn0 W w')
    (SE : ∀ W, Calls Tryz.prog 31 #[.string s, .int .i64 (s.size : Int)] W fun e w' => e = .returned (.int .i64 (s.size : Int)) ∧ Drawn0 W w')
    (CS : ∀ W, Calls Tryz.prog 35 #[.string s, .int .i64 (k0 : Int)] W fun e w' => e = .returned (.tuple #[.int .i64 (s.size : Int), .int .i64 (q : Int), .string op]) ∧ Below W.heap.size W w')
    (VS : ∀ W, Calls Tryz.prog 32 #[.string s, .int .i64 (q : Int)] W fun e w' => e = .returned (.tuple #[.int .i64 (s.size : Int), .agg #[.string m0, .string (m1), .string (m2), .string ⟨#[]⟩]]) ∧ Below W.heap.size W w')
    (X0 : ∀ W, Calls Tryz.prog 36 #[.string m0] W fun e w' => e = .returned (.bool false) ∧ Drawn0 W w') (E0 : (m0.toList == []) = false)
    (T1 : ∀ W, Calls Tryz.prog 37 #[.string m1, .string ⟨#[46]⟩] W fun e w' => e = .returned (.string t1) ∧ Drawn0 W w') (X1 : ∀ W, Calls Tryz.prog 36 #[.string t1] W fun e w' => e = .returned (.bool false) ∧ Drawn0 W w') (E1 : (m1.toList == []) = false)
    (T2 : ∀ W, Calls Tryz.prog 37 #[.string m2, .string ⟨#[46]⟩] W fun e w' => e = .returned (.string t2) ∧ Drawn0 W w') (X2 : ∀ W, Calls Tryz.prog 36 #[.string t2] W fun e w' => e = .returned (.bool false) ∧ Drawn0 W w') (E2 : (m2.toList == []) = false)
    (NV : ∀ W, Calls Tryz.prog 29 #[.string (s.extract q s.size)] W (VerRes a m p ⟨#[]⟩ ⟨#[]⟩ (s.extract q s.size) W)) (w : World) :
    Calls Tryz.prog 23 #[.string s] w (ParseRes a m p (s.extract q s.size) (s.extract q s.size) op false false false w) := by
  have hs0' : (0 : Int) < (s.size : Int) := by omega
  have HB0 := Lib.hid (Below.refl w.heap.size w)
  have HS0 := Lib.hid S0
  have HSE := Lib.hid SE
  have HCS := Lib.hid CS
  have HVS := Lib.hid VS
  have HX0 := Lib.hid X0
  have HT1 := Lib.hid T1
  have HX1 := Lib.hid X1
  have HT2 := Lib.hid T2
  have HX2 := Lib.hid X2
  have HNV := Lib.hid NV
  clear S0 SE CS VS X0 T1 X1 T2 X2 NV
  go_enter Tryz.func23, Tryz.ntmps23
  go_wp2_with fail
  refine (HS0.out _).mono ?_
  rintro e w1 ⟨rfl, hd1⟩
  have HB1 := Lib.hid (HB0.out.trans (hd1.below.mono HB0.out.size))
  clear hd1
  go_wp2_with fail
  refine (HCS.out _).mono ?_
  rintro e w2 ⟨rfl, hd2⟩
  have HB2 := Lib.hid (HB1.out.trans (hd2.mono HB1.out.size))
  clear hd2
  have hneg : ((s.size : Int) < 0) = False := eq_false (by omega)
  have hneg' : decide ((s.size : Int) < 0) = false := by simp
  go_wp2_with fail
  refine (HSE.out _).mono ?_
  rintro e w3 ⟨rfl, hd3⟩
  have HB3 := Lib.hid (HB2.out.trans (hd3.below.mono HB2.out.size))
  clear hd3
  have hne : ((s.size : Int) != (s.size : Int)) = false := by simp
  go_wp2_with fail
  refine (HVS.out _).mono ?_
  rintro e w4 ⟨rfl, hd4⟩
  have HB4 := Lib.hid (HB3.out.trans (hd4.mono HB3.out.size))
  clear hd4 hneg hneg' hne
  have n4 : Four (w4.alloc (.cells #[.string m0, .string (m1), .string (m2), .string ⟨#[]⟩] 79)) w4.heap.size m0 (m1) (m2) ⟨#[]⟩ := heap_alloc_new w4 _
  have HB5 : Hid (Below w.heap.size w (w4.alloc (.cells #[.string m0, .string (m1), .string (m2), .string ⟨#[]⟩] 79))) := Lib.hid (HB4.out.alloc HB4.out.size _)
  go_upto_region 6 with fail
  obtain ⟨w5, hw5⟩ : ∃ w5, w5 = w4.alloc (.cells #[.string m0, .string (m1), .string (m2), .string ⟨#[]⟩] 79) := ⟨_, rfl⟩
  have hsz5 : w4.heap.size < w5.heap.size := by rw [hw5]; simp
  rw [← hw5] at n4 HB5 ⊢
  clear hw5
  obtain ⟨k0_, -⟩ := n4.cell 0
  obtain ⟨k1_, -⟩ := n4.cell 1
  obtain ⟨k2_, -⟩ := n4.cell 2
  obtain ⟨k3_, -⟩ := n4.cell 3
  have hb1_ : (q : Int) ≤ (s.size : Int) := by omega
  clear n4
  go_region
  obtain ⟨w6, hw6⟩ : ∃ w6, w6 = (w5.alloc (.cells #[.string (s), .string (op), .string (s.extract q s.size), .string (m0), .string (m1), .string (m2), .string (⟨#[]⟩)] 9)).drew := ⟨_, rfl⟩
  have n6 : Seven w6 w5.heap.size s op (s.extract q s.size) m0 (m1) (m2) ⟨#[]⟩ := by rw [hw6]; exact heap_alloc_new w5 _
  have HB6 : Hid (Below w.heap.size w w6) := Lib.hid (by rw [hw6]; exact Below.trans (HB5.out.alloc HB5.out.size _) ⟨rfl, rfl, rfl, Nat.le_refl _, fun _ _ => rfl⟩)
  have hsz6 : w5.heap.size < w6.heap.size := blk_lt n6
  rw [← hw6]
  clear hw6 k0_ k1_ k2_ k3_ hb1_
  have j1_ := n6.cell 1
  have j2_ := n6.cell 2
  go_upto_region 7 with fail
  go_region
  obtain ⟨w7, hw7⟩ : ∃ w7, w7 = (w6.alloc (.cells #[.pointer none, .string (s.extract q s.size), .string op, .bool false, .bool false, .bool false] 65)).drew := ⟨_, rfl⟩
  have n7 : Six w7 w6.heap.size (.pointer none) (.string (s.extract q s.size)) (.string op) (.bool false) (.bool false) (.bool false) := by rw [hw7]; exact heap_alloc_new w6 _
  have HB7 : Hid (Below w.heap.size w w7) := Lib.hid (by rw [hw7]; exact Below.trans (HB6.out.alloc HB6.out.size _) ⟨rfl, rfl, rfl, Nat.le_refl _, fun _ _ => rfl⟩)
  have hb67 : Below w6.heap.size w6 w7 := by rw [hw7]; exact Below.trans ((Below.refl _ _).alloc (Nat.le_refl _) _) ⟨rfl, rfl, rfl, Nat.le_refl _, fun _ _ => rfl⟩
  have m7 := n6.below hb67
  rw [← hw7]
  have HSV7 := Lib.hid m7
  have HN7 := Lib.hid n7
  clear hw7 j1_ j2_ hb67 n6 n7
  have j2_ := m7.cell 2
  have j3_ := m7.cell 3
  clear m7
  go_wp2_with fail
  refine (HX0.out _).mono ?_
  rintro e w8 ⟨rfl, hd_⟩
  have hn_ := HSV7.out.below hd_.below
  have HN8 := Lib.hid (HN7.out.below hd_.below)
  have HB8 := Lib.hid (HB7.out.trans (hd_.below.mono HB7.out.size))
  have HSV8 := Lib.hid hn_
  clear hd_ j2_ j3_
  have j3_ := hn_.cell 3
  have j4_ := hn_.cell 4
  clear hn_
  go_wp2_with fail
  refine (HT1.out _).mono ?_
  rintro e w9 ⟨rfl, hd_⟩
  have hn_ := HSV8.out.below hd_.below
  have HN9 := Lib.hid (HN8.out.below hd_.below)
  have HB9 := Lib.hid (HB8.out.trans (hd_.below.mono HB8.out.size))
  have HSV9 := Lib.hid hn_
  clear hd_ j3_ j4_
  have j4_ := hn_.cell 4
  clear hn_
  go_wp2_with fail
  refine (HX1.out _).mono ?_
  rintro e w10 ⟨rfl, hd_⟩
  have hn_ := HSV9.out.below hd_.below
  have HN10 := Lib.hid (HN9.out.below hd_.below)
  have HB10 := Lib.hid (HB9.out.trans (hd_.below.mono HB9.out.size))
  have HSV10 := Lib.hid hn_
  clear hd_ j4_
  have j3_ := hn_.cell 3
  have j4_ := hn_.cell 4
  have j5_ := hn_.cell 5
  have j6_ := hn_.cell 6
  clear hn_
  go_wp2_with fail
  refine (HT2.out _).mono ?_
  rintro e w11 ⟨rfl, hd_⟩
  have hn_ := HSV10.out.below hd_.below
  have HN11 := Lib.hid (HN10.out.below hd_.below)
  have HB11 := Lib.hid (HB10.out.trans (hd_.below.mono HB10.out.size))
  have HSV11 := Lib.hid hn_
  clear hd_ j3_ j4_ j5_ j6_
  have j5_ := hn_.cell 5
  clear hn_
  go_wp2_with fail
  refine (HX2.out _).mono ?_
  rintro e w12 ⟨rfl, hd_⟩
  have hn_ := HSV11.out.below hd_.below
  have HN12 := Lib.hid (HN11.out.below hd_.below)
  have HB12 := Lib.hid (HB11.out.trans (hd_.below.mono HB11.out.size))
  have HSV12 := Lib.hid hn_
  clear hd_ j5_
  have j3_ := hn_.cell 3
  have j4_ := hn_.cell 4
  have j5_ := hn_.cell 5
  have j6_ := hn_.cell 6
  clear hn_
  go_wp2_with fail
  clear j3_ j4_ j5_ j6_
  have HNA := HN12
  have HBA := HB12
  refine (HNV.out _).mono ?_
  rintro e wB ⟨vb, rfl, hvb, HV, hdB⟩
  have hn_ := HNA.out.below hdB.out
  have HVB := Lib.hid (Nat.le_trans HBA.out.size hvb)
  have hvne : vb ≠ w6.heap.size := fun h => by have := blk_lt HNA.out; omega
  have HBB := Lib.hid (HBA.out.trans (hdB.out.mono HBA.out.size))
  have HNB := Lib.hid hn_
  obtain ⟨-, f0_⟩ := hn_.cell 0
  obtain ⟨-, f3_⟩ := hn_.cell 3
  obtain ⟨-, f4_⟩ := hn_.cell 4
  obtain ⟨-, f5_⟩ := hn_.cell 5
  obtain ⟨k0_, -⟩ := hn_.cell 0
  obtain ⟨k3_, -⟩ := hn_.cell 3
  obtain ⟨k4_, -⟩ := hn_.cell 4
  obtain ⟨k5_, -⟩ := hn_.cell 5
  clear hn_ hdB hvb
  go_wp2_with fail
  obtain ⟨wZ, hwZ⟩ : ∃ wZ, wZ = ((((wB.setCell ⟨w6.heap.size, 0, none⟩ (.pointer (some ⟨vb, 0, none⟩))).setCell ⟨w6.heap.size, 3, none⟩ (.bool false)).setCell ⟨w6.heap.size, 5, none⟩ (.bool false)).setCell ⟨w6.heap.size, 4, none⟩ (.bool false)) := ⟨_, rfl⟩
  rw [← hwZ]
  have nz_ : Six wZ w6.heap.size (.pointer (some ⟨vb, 0, none⟩)) (.string (s.extract q s.size)) (.string op) (.bool false) (.bool false) (.bool false) := by
    rw [hwZ]; exact blk_set (blk_set (blk_set (blk_set HNB.out 0 _) 3 _) 5 _) 4 _
  have vz_ : VerIs wZ vb a m p ⟨#[]⟩ ⟨#[]⟩ (s.extract q s.size) := by
    rw [hwZ]
    have o_ : ∀ (W : World) (j : Nat) (v : Value), (W.setCell ⟨w6.heap.size, j, none⟩ v).heap[vb]? = W.heap[vb]? := fun W j v => Below.heap_setCell W ⟨w6.heap.size, j, none⟩ v vb hvne
    unfold VerIs
    rw [o_, o_, o_, o_]
    exact HV.out
  have bz_ : Below w.heap.size w wZ := by
    have h_ : w.heap.size ≤ w6.heap.size := HB6.out.size
    rw [hwZ]
    exact (((HBB.out.setCell (p := ⟨w6.heap.size, 0, none⟩) h_ _).setCell (p := ⟨w6.heap.size, 3, none⟩) h_ _).setCell (p := ⟨w6.heap.size, 5, none⟩) h_ _).setCell (p := ⟨w6.heap.size, 4, none⟩) h_ _
  clear hwZ
  go_ret2
  exact ⟨w6.heap.size, vb, rfl, HB6.out.size, HVB.out, Lib.hid nz_, Lib.hid vz_, Lib.hid bz_⟩

/-! ### at a test -/
/-- The blank ahead that zzFind takes with a test without an operator; the test itself. -/
def Cn.sp (c : Cn) : List UInt8 := if c.op = [] then c.bl else []
def Cn.core (c : Cn) : Cn := if c.op = [] then { c with bl := [] } else c
theorem Cn.sp_core (c : Cn) : c.text = c.sp ++ c.core.text := by
  unfold Cn.sp Cn.core Cn.text
  by_cases h : c.op = []
  · rw [if_pos h, if_pos h, h]; simp [Cn.vt, h]
  · rw [if_neg h, if_neg h]; rfl
theorem Cn.core_op (c : Cn) : c.core.op = c.op := by unfold Cn.core; split <;> rfl
theorem Cn.core_vt (c : Cn) : c.core.vt = c.vt := by unfold Cn.core; split <;> rfl
theorem Cn.core_ok {c : Cn} (h : c.Ok) : c.core.Ok := by
  obtain ⟨h1, g1, g2, g3, h23, ho, hb⟩ := h
  unfold Cn.core
  split
  · exact ⟨h1, g1, g2, g3, h23, ho, .inl rfl⟩
  · exact ⟨h1, g1, g2, g3, h23, ho, hb⟩
theorem Cn.sp_all {c : Cn} (h : c.Ok) : c.sp.all isSp = true := by
  unfold Cn.sp
  split
  · rcases h.hb with e | e <;> rw [e] <;> rfl
  · rfl
theorem ops_other : opsLL.all (fun o => match o with | [] => true | x :: _ => other x) = true := by rfl
theorem op_head {o : List UInt8} (h : o ∈ opsLL) (h0 : o ≠ []) : ∃ x t, o = x :: t ∧ other x = true := by
  have := List.all_eq_true.1 ops_other o h
  cases o with
  | nil => exact absurd rfl h0
  | cons x t => exact ⟨x, t, rfl, this⟩
theorem dig_nosp {x : UInt8} (h : isDig x = true) : isSp x = false := by
  have := dig_range h
  unfold isSp; simp; omega
/-- A test without blanks ahead begins with something else. -/
theorem Cn.core_head {c : Cn} (h : c.Ok) (r : List UInt8) : ∃ x t, c.core.text ++ r = x :: t ∧ isSp x = false := by
  by_cases h0 : c.op = []
  · obtain ⟨x, d, hx⟩ : ∃ x d, c.d1 = x :: d := by
      cases hd : c.d1 with
      | nil => exact absurd hd h.h1
      | cons x d => exact ⟨x, d, rfl⟩
    have hxd : isDig x = true := by have := h.g1; rw [hx] at this; simp only [List.all_cons, Bool.and_eq_true] at this; exact this.1
    refine ⟨x, d ++ (sg 46 c.d2 ++ sg 46 c.d3) ++ r, ?_, dig_nosp hxd⟩
    unfold Cn.core
    rw [if_pos h0]
    unfold Cn.text Cn.vt
    simp [h0, hx]
  · obtain ⟨x, t, e, hx⟩ := op_head h.ho h0
    simp only [other, Bool.and_eq_true, Bool.not_eq_true'] at hx
    refine ⟨x, t ++ (c.bl ++ c.vt) ++ r, ?_, hx.1⟩
    unfold Cn.core
    rw [if_neg h0]
    unfold Cn.text
    simp [e]
theorem trim_nil (w : World) : Calls Tryz.prog 37 #[.string ⟨#[]⟩, .string ⟨#[46]⟩] w fun e w' => e = .returned (.string ⟨#[]⟩) ∧ Drawn0 w w' := by
  refine Go.Proofs.YtoebognfkigooaaGreatDoor.PFnSemverEither.strings_TrimPrefix.calls ⟨#[]⟩ _ ⟨#[]⟩ w ?_
  have h1 : (⟨#[46]⟩ : ByteArray).size = 1 := rfl
  have h0 : (⟨#[]⟩ : ByteArray).size = 0 := rfl
  have e1 : Go.Proofs.YtoebognfkigooaaGreatDoor.PFnSemverEither.stringslite_HasPrefix.f ⟨#[]⟩ ⟨#[46]⟩ = some false := by
    unfold Go.Proofs.YtoebognfkigooaaGreatDoor.PFnSemverEither.stringslite_HasPrefix.f
    rw [h1, h0, if_neg (by omega)]
  unfold Go.Proofs.YtoebognfkigooaaGreatDoor.PFnSemverEither.strings_TrimPrefix.f Go.Proofs.YtoebognfkigooaaGreatDoor.PFnSemverEither.stringslite_TrimPrefix.f
  rw [e1]
  rfl
theorem num_of {d : List UInt8} (h0 : d ≠ []) (hd : d.all isDig = true) (hl : d.length ≤ 9) : NumOf d (val 0 d) := .inr ⟨h0, parse_val h0 hd (by omega)⟩
theorem num_zero : NumOf [48] 0 := num_of (d := [48]) (by simp) rfl (by simp)
theorem beq_nil {l : List UInt8} (h : l ≠ []) : ((ba l).toList == []) = false := by
  rw [tl_ba]
  cases l with
  | nil => exact absurd rfl h
  | cons x l => rfl
structure Cn.Small (c : Cn) : Prop where
  l1 : c.d1.length ≤ 9
  l2 : c.d2.length ≤ 9
  l3 : c.d3.length ≤ 9
theorem sg_len (d : List UInt8) (h : d.length ≤ 9) : (sg 46 d).length ≤ 10 := by unfold sg; split <;> simp <;> omega
/-- parseConstraint at a test. -/
theorem parse_at (s : ByteArray) (hs : s.size ≤ 512) (hq : Plain3 s) (c : Cn) (hc : c.Ok) (hm : c.Small) (h : s.toList = c.text) :
    ∃ og, ∀ w, Calls Tryz.prog 23 #[.string s] w (ParseRes (val 0 c.d1) (val 0 c.d2) (val 0 c.d3) og (ba c.vt) (ba c.op) (decide (c.d2 = [])) (decide (c.d3 = [])) (decide (c.d2 ≠ [] ∧ c.d3 = [])) w) := by
  have hl := len_eq s
  obtain ⟨k1, k2, k3⟩ := hm
  have hsc := c.sp_core
  obtain ⟨x, t, hx, hxs⟩ := Cn.core_head hc []
  rw [List.append_nil] at hx
  have e1 : s.toList = c.sp ++ (c.core.text ++ []) := by rw [h, hsc, List.append_nil]
  have hco := Cn.core_ok hc
  have e2 : s.toList = (c.sp ++ c.core.op ++ c.core.bl) ++ (c.core.vt ++ []) := by rw [e1]; unfold Cn.text; simp
  have hsz : s.size = c.sp.length + c.core.op.length + c.core.bl.length + c.vt.length := by rw [hl, e2, Cn.core_vt]; simp; omega
  have hvl : 0 < c.vt.length := by unfold Cn.vt; have := List.length_pos_iff.2 hc.h1; simp; omega
  have CS := con_at s hs hq c.sp [] c.core hco e1 (.inl rfl)
  have hct : c.sp.length + c.core.text.length = s.size := by rw [hl, e1]; simp
  rw [hct, Cn.core_op] at CS
  have VS := ver_at s hs hq (c.sp ++ c.core.op ++ c.core.bl) [] c.core hco e2 (.inl rfl)
  have L2 : (c.sp ++ c.core.op ++ c.core.bl).length = c.sp.length + c.core.op.length + c.core.bl.length := by simp; omega
  rw [L2, Cn.core_vt, ← hsz] at VS
  have d1e : c.core.d1 = c.d1 := by unfold Cn.core; split <;> rfl
  have d2e : c.core.d2 = c.d2 := by unfold Cn.core; split <;> rfl
  have d3e : c.core.d3 = c.d3 := by unfold Cn.core; split <;> rfl
  rw [d1e, d2e, d3e] at VS
  rw [Cn.core_op] at hsz L2 VS e2
  have hvt : s.extract (c.sp.length + c.op.length + c.core.bl.length) s.size = ba c.vt := by
    apply ext_eq
    rw [extract_self, tl_ba, e2, Cn.core_vt, List.append_nil, List.drop_left' L2]
  have S0 : ∀ W, Calls Tryz.prog 31 #[.string s, .int .i64 0] W fun e w' => e = .returned (.int .i64 (c.sp.length : Int)) ∧ Drawn0 W w' := fun W => by
    have := space_calls s (by omega) 0 (Nat.zero_le _) W
    have e := scan_at (p := isSp) (l := s.toList) [] (b := c.sp) (c := c.core.text) (by rw [e1]; simp) (Cn.sp_all hc) (.inr ⟨x, t, hx, hxs⟩)
    simp only [List.length_nil, Nat.zero_add] at e
    rw [e] at this
    exact this
  have SE : ∀ W, Calls Tryz.prog 31 #[.string s, .int .i64 (s.size : Int)] W fun e w' => e = .returned (.int .i64 (s.size : Int)) ∧ Drawn0 W w' := fun W => by
    have := space_calls s (by omega) s.size (Nat.le_refl _) W
    rw [scan_stop (fun h => by omega)] at this
    exact this
  have X0 : ∀ W, Calls Tryz.prog 36 #[.string (ba c.d1)] W fun e w' => e = .returned (.bool false) ∧ Drawn0 W w' := fun W => isX_calls _ (by rw [tl_ba]; exact hc.g1) W
  have XN : ∀ W, Calls Tryz.prog 36 #[.string ⟨#[]⟩] W fun e w' => e = .returned (.bool false) ∧ Drawn0 W w' := fun W => isX_calls _ (by rw [tl_nil]; rfl) W
  have z1 : (ba c.d1).size ≤ 100 := by rw [ba_size]; omega
  by_cases hd2 : c.d2 = []
  · have hd3 := hc.h23 hd2
    rw [hd2, hd3] at VS ⊢
    refine ⟨ba c.d1 ++ ⟨#[46, 48, 46, 48]⟩ ++ ⟨#[]⟩, fun w => ?_⟩
    have NV : ∀ W, Calls Tryz.prog 29 #[.string (ba c.d1 ++ ⟨#[46, 48, 46, 48]⟩ ++ ⟨#[]⟩)] W (VerRes (val 0 c.d1) 0 0 ⟨#[]⟩ ⟨#[]⟩ (ba c.d1 ++ ⟨#[46, 48, 46, 48]⟩ ++ ⟨#[]⟩) W) := fun W => by
      have ht : (ba c.d1 ++ ⟨#[46, 48, 46, 48]⟩ ++ ⟨#[]⟩ : ByteArray).toList = c.d1 ++ (sg 46 [48] ++ sg 46 [48]) := by
        have q : (⟨#[46, 48, 46, 48]⟩ : ByteArray).toList = [46, 48, 46, 48] := by rw [Lib.toList_data]
        rw [tl_append, tl_append, tl_ba, tl_nil, q]; simp [sg]
      exact newNum_walk (d1 := c.d1) (d2 := [48]) (d3 := [48]) (numTx_ok hc.h1 hc.g1 rfl rfl (fun e => by cases e)) _ ht (by rw [len_eq, ht]; simp [sg]; omega) _ 0 0 (parse_val hc.h1 hc.g1 (by omega)) num_zero num_zero W
    have := parse_1 s (by omega) hs c.sp.length _ (ba c.op) (ba c.d1) _ (by omega) z1 _ _ _ S0 SE CS VS X0 (beq_nil hc.h1) trim_nil XN rfl NV w
    rw [hvt] at this
    exact this
  · have sd2 : sg 46 c.d2 = 46 :: c.d2 := by unfold sg; rw [if_neg hd2]
    have X1 : ∀ W, Calls Tryz.prog 36 #[.string (ba c.d2)] W fun e w' => e = .returned (.bool false) ∧ Drawn0 W w' := fun W => isX_calls _ (by rw [tl_ba]; exact hc.g2) W
    have T1 : ∀ W, Calls Tryz.prog 37 #[.string (ba (sg 46 c.d2)), .string ⟨#[46]⟩] W fun e w' => e = .returned (.string (ba c.d2)) ∧ Drawn0 W w' := fun W => trim_walk (l := c.d2) (by rw [ba_size]; have := sg_len c.d2 k2; omega) (by rw [tl_ba, sd2]) (tl_ba _) W
    have z2 : (ba (sg 46 c.d2)).size ≤ 100 := by rw [ba_size]; have := sg_len c.d2 k2; omega
    by_cases hd3 : c.d3 = []
    · rw [hd3] at VS ⊢
      rw [decide_eq_false hd2, decide_eq_true (show c.d2 ≠ [] ∧ ([] : List UInt8) = [] from ⟨hd2, rfl⟩)]
      refine ⟨ba c.d1 ++ ba (sg 46 c.d2) ++ ⟨#[46, 48]⟩ ++ ⟨#[]⟩, fun w => ?_⟩
      have NV : ∀ W, Calls Tryz.prog 29 #[.string (ba c.d1 ++ ba (sg 46 c.d2) ++ ⟨#[46, 48]⟩ ++ ⟨#[]⟩)] W (VerRes (val 0 c.d1) (val 0 c.d2) 0 ⟨#[]⟩ ⟨#[]⟩ (ba c.d1 ++ ba (sg 46 c.d2) ++ ⟨#[46, 48]⟩ ++ ⟨#[]⟩) W) := fun W => by
        have ht : (ba c.d1 ++ ba (sg 46 c.d2) ++ ⟨#[46, 48]⟩ ++ ⟨#[]⟩ : ByteArray).toList = c.d1 ++ (sg 46 c.d2 ++ sg 46 [48]) := by
          have q : (⟨#[46, 48]⟩ : ByteArray).toList = [46, 48] := by rw [Lib.toList_data]
          rw [tl_append, tl_append, tl_append, tl_ba, tl_ba, tl_nil, q]; simp [sg]
        exact newNum_walk (d1 := c.d1) (d2 := c.d2) (d3 := [48]) (numTx_ok hc.h1 hc.g1 hc.g2 rfl (fun e => absurd e hd2)) _ ht (by rw [len_eq, ht]; have := sg_len c.d2 k2; simp [sg] at this ⊢; omega) _ _ 0 (parse_val hc.h1 hc.g1 (by omega)) (num_of hd2 hc.g2 k2) num_zero W
      have := parse_2 s (by omega) hs c.sp.length _ (ba c.op) (ba c.d1) (ba (sg 46 c.d2)) (ba c.d2) _ (by omega) ⟨z1, z2⟩ _ _ _ S0 SE CS VS X0 (beq_nil hc.h1) T1 X1 (beq_nil (by rw [sd2]; simp)) trim_nil XN rfl NV w
      rw [hvt] at this
      exact this
    · have sd3 : sg 46 c.d3 = 46 :: c.d3 := by unfold sg; rw [if_neg hd3]
      have X2 : ∀ W, Calls Tryz.prog 36 #[.string (ba c.d3)] W fun e w' => e = .returned (.bool false) ∧ Drawn0 W w' := fun W => isX_calls _ (by rw [tl_ba]; exact hc.g3) W
      have T2 : ∀ W, Calls Tryz.prog 37 #[.string (ba (sg 46 c.d3)), .string ⟨#[46]⟩] W fun e w' => e = .returned (.string (ba c.d3)) ∧ Drawn0 W w' := fun W => trim_walk (l := c.d3) (by rw [ba_size]; have := sg_len c.d3 k3; omega) (by rw [tl_ba, sd3]) (tl_ba _) W
      rw [decide_eq_false hd2, decide_eq_false hd3, decide_eq_false (show ¬ (c.d2 ≠ [] ∧ c.d3 = []) from fun e => hd3 e.2)]
      refine ⟨s.extract (c.sp.length + c.op.length + c.core.bl.length) s.size, fun w => ?_⟩
      have NV : ∀ W, Calls Tryz.prog 29 #[.string (s.extract (c.sp.length + c.op.length + c.core.bl.length) s.size)] W (VerRes (val 0 c.d1) (val 0 c.d2) (val 0 c.d3) ⟨#[]⟩ ⟨#[]⟩ (s.extract (c.sp.length + c.op.length + c.core.bl.length) s.size) W) := fun W => by
        rw [hvt]
        have := sg_len c.d2 k2
        have := sg_len c.d3 k3
        exact newNum_walk (d1 := c.d1) (d2 := c.d2) (d3 := c.d3) (numTx_ok hc.h1 hc.g1 hc.g2 hc.g3 hc.h23) (ba c.vt) (tl_ba _) (by rw [ba_size]; show (c.d1 ++ (sg 46 c.d2 ++ sg 46 c.d3)).length ≤ 256; simp; omega) _ _ _ (parse_val hc.h1 hc.g1 (by omega)) (num_of hd2 hc.g2 k2) (num_of hd3 hc.g3 k3) W
      have := parse_3 s (by omega) hs c.sp.length _ (ba c.op) (ba c.d1) (ba (sg 46 c.d2)) (ba c.d2) (ba (sg 46 c.d3)) (ba c.d3) (by omega) ⟨z1, z2⟩ _ _ _ S0 SE CS VS X0 (beq_nil hc.h1) T1 X1 (beq_nil (by rw [sd2]; simp)) T2 X2 (beq_nil (by rw [sd3]; simp)) NV w
      rw [hvt] at this ⊢
      exact this
end Go.Proofs.YtoebognfkigooaaGreatDoor.Sv
namespace Go.Proofs.YtoebognfkigooaaGreatDoor.Sv
open Go.RowKit Go.Proofs.YtoebognfkigooaaGreatDoor.PFnSemverEither Go.Proofs.YtoebognfkigooaaGreatDoorW.PrintWords Go.Proofs.YtoebognfkigooaaGreatDoorW.PrintLast Go.Proofs.YtoebognfkigooaaGreatDoor.Txt Go.Proofs.YtoebognfkigooaaGreatDoor Go.Proofs.YtoebognfkigooaaGreatDoor.Vals
set_option linter.unusedVariables false
set_option linter.unusedSimpArgs false

/-- A test with what stands ahead of it. -/
abbrev Pc := List UInt8 × Cn
def gtext (tr : List UInt8) : List Pc → List UInt8
  | [] => tr
  | p :: ps => p.1 ++ (p.2.text ++ gtext tr ps)
def PcOk (p : Pc) : Prop := p.2.Ok ∧ p.2.Small ∧ (p.1 = [44] ∨ (p.1 = [44, 32] ∧ p.2.op ≠ []) ∨ (p.1 = [32] ∧ p.2.op ≠ []))
/-- A group: the first test has at most a blank ahead. -/
def GOk (ps : List Pc) : Prop := ∃ p r, ps = p :: r ∧ p.2.Ok ∧ p.2.Small ∧ (p.1 = [] ∨ (p.1 = [32] ∧ p.2.op ≠ [])) ∧ ∀ q ∈ r, PcOk q
def TrOk (tr : List UInt8) : Prop := tr = [] ∨ tr = [32]
theorem gtext_stop {tr : List UInt8} (ht : TrOk tr) {ps : List Pc} (h : ∀ q ∈ ps, PcOk q) : Stop (gtext tr ps) := by
  cases ps with
  | nil =>
    rcases ht with e | e
    · exact .inl e
    · exact .inr ⟨32, [], e, .inl rfl⟩
  | cons p ps =>
    obtain ⟨_, _, hj⟩ := h p (by simp)
    unfold gtext
    rcases hj with e | ⟨e, _⟩ | ⟨e, _⟩ <;> rw [e]
    · exact .inr ⟨44, _, rfl, .inr rfl⟩
    · exact .inr ⟨44, _, rfl, .inr rfl⟩
    · exact .inr ⟨32, _, rfl, .inl rfl⟩
theorem ops_no44 : opsLL.all (fun o => match o with | [] => true | x :: _ => decide (x ≠ 44)) = true := by rfl
theorem op_head2 {o : List UInt8} (h : o ∈ opsLL) (h0 : o ≠ []) : ∃ x t, o = x :: t ∧ other x = true ∧ x ≠ 44 := by
  have h1 := List.all_eq_true.1 ops_other o h
  have h2 := List.all_eq_true.1 ops_no44 o h
  cases o with
  | nil => exact absurd rfl h0
  | cons x t => exact ⟨x, t, rfl, h1, by simpa using h2⟩
theorem other_nosp {x : UInt8} (h : other x = true) : isSp x = false := by
  simp only [other, Bool.and_eq_true, Bool.not_eq_true'] at h; exact h.1
theorem text_head {c : Cn} (h : c.Ok) (h0 : c.op ≠ []) (r : List UInt8) : ∃ x t, c.text ++ r = x :: t ∧ other x = true ∧ x ≠ 44 := by
  obtain ⟨x, t, e, h1, h2⟩ := op_head2 h.ho h0
  exact ⟨x, t ++ (c.bl ++ c.vt) ++ r, by unfold Cn.text; simp [e], h1, h2⟩
theorem sp_nil {c : Cn} (h0 : c.op ≠ []) : c.sp = [] := by unfold Cn.sp; rw [if_neg h0]
theorem text_ne {c : Cn} (h : c.Ok) : 0 < c.text.length := by
  unfold Cn.text Cn.vt
  have := List.length_pos_iff.2 h.h1
  simp; omega

/-! ### zzValid -/
section
variable (s : ByteArray) (hs : s.size ≤ 512) (hq : Plain3 s) (tr : List UInt8) (ht : TrOk tr)
def VAt (i : Nat) : Prop := ∃ (a : List UInt8) (c : Cn) (ps : List Pc), i = a.length ∧ s.toList = a ++ (c.core.text ++ gtext tr ps) ∧ c.Ok ∧ ∀ q ∈ ps, PcOk q
include hs hq ht in
theorem vstep : VStep s (VAt s tr) := by
  rintro i ⟨a, c, ps, rfl, h, hc, hps⟩
  have hl := len_eq s
  have hco := Cn.core_ok hc
  have hst := gtext_stop ht hps
  have hsz : s.size = a.length + c.core.text.length + (gtext tr ps).length := by rw [hl, h]; simp; omega
  have hpos := text_ne hco
  refine ⟨by omega, a.length + c.core.text.length, _, _, by omega, by omega, con_at s hs hq a _ c.core hco h hst, ?_⟩
  have h2 : s.toList = (a ++ c.core.text) ++ gtext tr ps := by rw [h]; simp
  have L : (a ++ c.core.text).length = a.length + c.core.text.length := List.length_append
  cases ps with
  | nil =>
    left
    simp only [gtext] at h2 hsz
    rcases ht with e | e <;> rw [e] at h2 hsz
    · have := scan_none (p := isSp) (a ++ c.core.text) h2 (.inl rfl)
      rw [L] at this
      rw [this, hsz]; rfl
    · have := scan_at (p := isSp) (l := s.toList) (a ++ c.core.text) (b := [32]) (c := []) (by rw [h2]; rfl) rfl (.inl rfl)
      rw [L] at this
      rw [this, hsz]
  | cons p ps =>
    obtain ⟨hpc, hpm, hj⟩ := hps p (by simp)
    have hps' : ∀ q ∈ ps, PcOk q := fun q hq => hps q (by simp [hq])
    simp only [gtext] at h2 hsz
    obtain ⟨x, t, hx, hxs⟩ := Cn.core_head hpc (gtext tr ps)
    have comma : ∀ bl : List UInt8, bl.all isSp = true → p.1 = 44 :: bl → (scan isSp s.toList (a.length + c.core.text.length) = s.size ∨ (∃ h : scan isSp s.toList (a.length + c.core.text.length) < s.size, ((s[scan isSp s.toList (a.length + c.core.text.length)]'h).toNat : Int) = 44 ∧ VAt s tr (scan isSp s.toList (scan isSp s.toList (a.length + c.core.text.length) + 1))) ∨ (∃ h : scan isSp s.toList (a.length + c.core.text.length) < s.size, ((s[scan isSp s.toList (a.length + c.core.text.length)]'h).toNat : Int) ≠ 44 ∧ a.length + c.core.text.length < scan isSp s.toList (a.length + c.core.text.length) ∧ VAt s tr (scan isSp s.toList (a.length + c.core.text.length)))) := by
      intro bl hbl e
      right; left
      rw [e] at h2
      have e1 := scan_none (p := isSp) (a ++ c.core.text) (c := 44 :: bl ++ (p.2.text ++ gtext tr ps)) h2 (.inr ⟨44, _, rfl, by decide⟩)
      rw [L] at e1
      obtain ⟨hh, hv⟩ := at_pos (v := s) (a := a ++ c.core.text) (x := 44) (r := bl ++ (p.2.text ++ gtext tr ps)) (by rw [h2]; rfl)
      have h3 : s.toList = (a ++ c.core.text ++ [44]) ++ ((bl ++ p.2.sp) ++ (p.2.core.text ++ gtext tr ps)) := by rw [h2, Cn.sp_core p.2]; simp
      have L3 : (a ++ c.core.text ++ [44] : List UInt8).length = a.length + c.core.text.length + 1 := by simp; omega
      have e2 := scan_at (p := isSp) (l := s.toList) (a ++ c.core.text ++ [44]) (b := bl ++ p.2.sp) h3 (by rw [List.all_append, hbl, Cn.sp_all hpc]; rfl) (.inr ⟨x, t, hx, hxs⟩)
      rw [L3] at e2
      rw [e1]
      have hh' : a.length + c.core.text.length < s.size := by rw [← L]; exact hh
      refine ⟨hh', ?_, ?_⟩
      · have : s[a.length + c.core.text.length]'hh' = s[(a ++ c.core.text).length]'hh := by congr 1; exact L.symm
        rw [this, hv]; rfl
      · rw [e2]
        exact ⟨a ++ c.core.text ++ [44] ++ (bl ++ p.2.sp), p.2, ps, by simp; omega, by rw [h3]; simp, hpc, hps'⟩
    rcases hj with e | ⟨e, h0⟩ | ⟨e, h0⟩
    · exact comma [] rfl e
    · exact comma [32] rfl e
    · right; right
      rw [e] at h2
      obtain ⟨y, t2, hy, hyo, hy44⟩ := text_head hpc h0 (gtext tr ps)
      have e1 := scan_at (p := isSp) (l := s.toList) (a ++ c.core.text) (b := [32]) (c := p.2.text ++ gtext tr ps) h2 rfl (.inr ⟨y, t2, hy, other_nosp hyo⟩)
      rw [L] at e1
      have h3 : s.toList = (a ++ c.core.text ++ [32]) ++ (p.2.text ++ gtext tr ps) := by rw [h2]; simp
      have L3 : (a ++ c.core.text ++ [32] : List UInt8).length = a.length + c.core.text.length + 1 := by simp; omega
      obtain ⟨hh, hv⟩ := at_pos (v := s) (a := a ++ c.core.text ++ [32]) (x := y) (r := t2) (by rw [h3, hy])
      simp only [List.length_singleton] at e1
      rw [e1]
      have hh' : a.length + c.core.text.length + 1 < s.size := by rw [← L3]; exact hh
      refine ⟨hh', ?_, by omega, ?_⟩
      · have : s[a.length + c.core.text.length + 1]'hh' = s[(a ++ c.core.text ++ [32]).length]'hh := by congr 1; exact L3.symm
        rw [this, hv]
        intro e
        exact hy44 (UInt8.toNat_inj.1 (by show y.toNat = 44; omega))
      · refine ⟨a ++ c.core.text ++ [32], p.2, ps, L3.symm, ?_, hpc, hps'⟩
        rw [h3, Cn.sp_core p.2, sp_nil h0]; rfl
theorem vstart {ps : List Pc} (hg : GOk ps) (h : s.toList = gtext tr ps) : VAt s tr (scan isSp s.toList 0) := by
  obtain ⟨p, r, rfl, hpc, hpm, hj, hr⟩ := hg
  simp only [gtext] at h
  obtain ⟨x, t, hx, hxs⟩ := Cn.core_head hpc (gtext tr r)
  have hb : p.1.all isSp = true := by rcases hj with e | ⟨e, _⟩ <;> rw [e] <;> rfl
  have h3 : s.toList = [] ++ ((p.1 ++ p.2.sp) ++ (p.2.core.text ++ gtext tr r)) := by rw [h, Cn.sp_core p.2]; simp
  have e2 := scan_at (p := isSp) (l := s.toList) [] (b := p.1 ++ p.2.sp) h3 (by rw [List.all_append, hb, Cn.sp_all hpc]; rfl) (.inr ⟨x, t, hx, hxs⟩)
  simp only [List.length_nil, Nat.zero_add] at e2
  rw [e2]
  exact ⟨p.1 ++ p.2.sp, p.2, r, rfl, by rw [h3]; simp, hpc, hr⟩

/-! ### zzFind -/
def JS (j : List UInt8) (c : Cn) : Prop := j = [] ∨ j = [44] ∨ (j = [32] ∧ c.op ≠ []) ∨ (j = [44, 32] ∧ c.op ≠ [])
def FAt (fin : List ByteArray) (i : Nat) (out : List ByteArray) : Prop := out.length ≤ i ∧ ∃ a : List UInt8, i = a.length ∧
  ((∃ (j : List UInt8) (c : Cn) (ps : List Pc), s.toList = a ++ (j ++ (c.text ++ gtext tr ps)) ∧ JS j c ∧ c.Ok ∧ (∀ q ∈ ps, PcOk q) ∧ out ++ (ba c.text :: ps.map fun p => ba p.2.text) = fin) ∨
   (∃ t, s.toList = a ++ t ∧ TrOk t ∧ out = fin))
include hs hq ht in
theorem fstep (fin : List ByteArray) : FStep s (FAt s tr fin) := by
  rintro i out ⟨hol, a, rfl, h⟩
  have hl := len_eq s
  rcases h with ⟨j, c, ps, h, hj, hc, hps, hfin⟩ | ⟨t, h, htr, hfin⟩
  · have hst := gtext_stop ht hps
    have hpos := text_ne hc
    have hsz : s.size = a.length + j.length + c.text.length + (gtext tr ps).length := by rw [hl, h]; simp; omega
    refine ⟨by omega, hol, fun _ => ?_⟩
    rcases hj with rfl | rfl | ⟨rfl, h0⟩ | ⟨rfl, h0⟩
    · left
      simp only [List.nil_append, List.length_nil, Nat.add_zero] at h hsz
      refine ⟨a.length + c.text.length, _, _, by omega, by omega, con_at s hs hq a _ c hc h hst, ?_, a ++ c.text, by simp, ?_⟩
      · simp; omega
      rw [ext_mid h]
      have h2 : s.toList = (a ++ c.text) ++ gtext tr ps := by rw [h]; simp
      cases ps with
      | nil => exact .inr ⟨tr, h2, ht, by rw [← hfin]; rfl⟩
      | cons p ps =>
        obtain ⟨hpc, hpm, hj⟩ := hps p (by simp)
        refine .inl ⟨p.1, p.2, ps, h2, ?_, hpc, fun q hq => hps q (by simp [hq]), by rw [← hfin]; simp⟩
        rcases hj with e | e | e
        · exact .inr (.inl e)
        · exact .inr (.inr (.inr e))
        · exact .inr (.inr (.inl e))
    · right
      refine ⟨con_none s hs hq a (c.text ++ gtext tr ps) 44 h (.inl rfl), by omega, a ++ [44], by simp, .inl ⟨[], c, ps, by rw [h]; simp, .inl rfl, hc, hps, hfin⟩⟩
    · right
      obtain ⟨y, t2, hy, hyo, _⟩ := text_head hc h0 (gtext tr ps)
      refine ⟨con_none s hs hq a (c.text ++ gtext tr ps) 32 h (.inr ⟨rfl, .inr ⟨y, t2, hy, hyo⟩⟩), by omega, a ++ [32], by simp, .inl ⟨[], c, ps, by rw [h]; simp, .inl rfl, hc, hps, hfin⟩⟩
    · right
      refine ⟨con_none s hs hq a (32 :: (c.text ++ gtext tr ps)) 44 h (.inl rfl), by omega, a ++ [44], by simp, .inl ⟨[32], c, ps, by rw [h]; simp, .inr (.inr (.inl ⟨rfl, h0⟩)), hc, hps, hfin⟩⟩
  · have hsz : s.size = a.length + t.length := by rw [hl, h]; simp
    refine ⟨by omega, hol, fun hlt => ?_⟩
    rcases htr with rfl | rfl
    · simp at hsz; omega
    · right
      exact ⟨con_none s hs hq a [] 32 h (.inr ⟨rfl, .inl rfl⟩), by omega, a ++ [32], by simp, .inr ⟨[], by rw [h]; simp, .inl rfl, hfin⟩⟩
theorem fstart {ps : List Pc} (hg : GOk ps) (h : s.toList = gtext tr ps) : FAt s tr (ps.map fun p => ba p.2.text) 0 [] := by
  obtain ⟨p, r, rfl, hpc, hpm, hj, hr⟩ := hg
  refine ⟨Nat.le_refl _, [], rfl, .inl ⟨p.1, p.2, r, h, ?_, hpc, hr, rfl⟩⟩
  rcases hj with e | e
  · exact .inl e
  · exact .inr (.inr (.inl e))
theorem fend {fin out : List ByteArray} (h : FAt s tr fin s.size out) : out = fin := by
  have hl := len_eq s
  obtain ⟨_, a, hi, h⟩ := h
  rcases h with ⟨j, c, ps, h, hj, hc, hps, hfin⟩ | ⟨t, h, htr, hfin⟩
  · have hpos := text_ne hc
    have hsz : s.size = a.length + j.length + c.text.length + (gtext tr ps).length := by rw [hl, h]; simp; omega
    omega
  · exact hfin
end

/-! ### groups with bars between -/
def bars : List (List UInt8) → List UInt8
  | [] => []
  | [a] => a
  | a :: b :: r => a ++ 124 :: 124 :: bars (b :: r)
def BAR : ByteArray := ⟨#[124, 124]⟩
theorem tl_bar : BAR.toList = [124, 124] := by unfold BAR; rw [Lib.toList_data]
theorem bar_no : ∀ (p : List UInt8), (∀ x ∈ p, x ≠ 124) → idx [124, 124] p = none
  | [], _ => rfl
  | c :: r, h => by
    rw [idx_miss _ _ _ (by simp only [List.isPrefixOf, Bool.and_eq_true, beq_iff_eq]; exact fun e => h c (by simp) e.1.symm), bar_no r fun x hx => h x (by simp [hx])]; rfl
theorem bar_at : ∀ (p r : List UInt8), (∀ x ∈ p, x ≠ 124) → idx [124, 124] (p ++ 124 :: 124 :: r) = some p.length
  | [], r, _ => idx_hit _ _ (by simp [List.isPrefixOf])
  | c :: q, r, h => by
    rw [List.cons_append, idx_miss _ _ _ (by simp only [List.isPrefixOf, Bool.and_eq_true, beq_iff_eq]; exact fun e => h c (by simp) e.1.symm), bar_at q r fun x hx => h x (by simp [hx])]; rfl
theorem bsplit_ev : ∀ (ps : List (List UInt8)) (s : ByteArray) (acc : List ByteArray), ps ≠ [] → (∀ p ∈ ps, ∀ x ∈ p, x ≠ 124) → s.toList = bars ps → s.size ≤ 1000 → acc.length + ps.length ≤ 200000 →
    Ev (fun k => semver_zzSplit.l0 k s BAR acc) (acc ++ ps.map ba)
  | [], _, _, h, _, _, _, _ => absurd rfl h
  | [a], s, acc, _, hn, hs, hz, hb => by
    have hx : idx BAR.toList s.toList = none := by rw [tl_bar, hs]; exact bar_no a (hn a (by simp))
    have e : s = ba a := ext_eq (by rw [tl_ba, hs]; rfl)
    refine Ev.step (f := fun k => (semver_zzIndex.f k s BAR).bind fun t => _) (fun k => by simp only [semver_zzSplit.l0]; rfl) ?_
    refine Ev.andThen (zz_ev s BAR hz (by decide)) ?_
    rw [hx, show at_ 0 none = -1 from rfl]
    refine Ev.pos (by decide) (Ev.pos (by simp at hb; omega) ?_)
    rw [e]; exact Ev.now _
  | a :: b :: r, s, acc, _, hn, hs, hz, hb => by
    have hl := len_eq s
    have hd : s.toList = a ++ 124 :: 124 :: bars (b :: r) := hs
    have hx : idx BAR.toList s.toList = some a.length := by rw [tl_bar, hd]; exact bar_at a _ (hn a (by simp))
    have hlen : s.size = a.length + ((bars (b :: r)).length + 1 + 1) := by rw [hl, hd, List.length_append, List.length_cons, List.length_cons]
    have hds : BAR.size = 2 := rfl
    have ih := bsplit_ev (b :: r) (s.extract (a.length + 2) s.size) (acc ++ [s.extract 0 a.length]) (by simp) (fun p hp => hn p (by simp only [List.mem_cons] at hp ⊢; exact .inr hp)) (by
      rw [extract_self, hd, show a ++ 124 :: 124 :: bars (b :: r) = (a ++ [124, 124]) ++ bars (b :: r) by simp, List.drop_left' (by simp)])
      (by rw [size_extract _ _ _ (by omega) (by omega)]; omega) (by simp at hb ⊢; omega)
    have e : s.extract 0 a.length = ba a := ext_eq (by rw [tl_ba, extract_upto, hd, List.take_left' rfl])
    refine Ev.step (f := fun k => (semver_zzIndex.f k s BAR).bind fun t => _) (fun k => by simp only [semver_zzSplit.l0]; rfl) ?_
    refine Ev.andThen (zz_ev s BAR hz (by decide)) ?_
    rw [hx, show at_ 0 (some a.length) = ((a.length + 0 : Nat) : Int) from rfl, Nat.add_zero, hds, wadd _ _ (by omega), Int.toNat_natCast, Int.toNat_natCast]
    refine Ev.neg (by omega) (Ev.pos (by omega) (Ev.pos (by omega) (Ev.pos (by simp at hb; omega) (Ev.pos (by omega) (Ev.pos (by omega) ?_)))))
    have e2 : acc ++ (a :: b :: r).map ba = (acc ++ [s.extract 0 a.length]) ++ (b :: r).map ba := by rw [e]; simp
    rw [e2]
    exact ih
theorem bsplit_calls {ps : List (List UInt8)} (s : ByteArray) (h0 : ps ≠ []) (hn : ∀ p ∈ ps, ∀ x ∈ p, x ≠ 124) (hs : s.toList = bars ps) (hz : s.size ≤ 1000) (hb : ps.length ≤ 1000) (w : World) :
    Calls Tryz.prog 19 #[.string s, .string ⟨#[124, 124]⟩] w fun e w' => ∃ v0_ : Value, e = .returned (v0_) ∧ Kd.R Kd.string 9 w' w.heap.size (fun _ => True) v0_ (ps.map ba) ∧ Below w.heap.size w w' := by
  have := bsplit_ev ps s [] h0 hn hs hz (by simp; omega)
  obtain ⟨k, hk⟩ := Ev.rounds (show Ev (fun k => semver_zzSplit.f k s BAR) (ps.map ba) by simpa [semver_zzSplit.f] using this)
  exact semver_zzSplit.calls k _ _ _ w hk
end Go.Proofs.YtoebognfkigooaaGreatDoor.Sv
namespace Go.Proofs.YtoebognfkigooaaGreatDoor.Sv
open Go.RowKit Go.Proofs.YtoebognfkigooaaGreatDoor.PFnSemverEither Go.Proofs.YtoebognfkigooaaGreatDoorW.PrintWords Go.Proofs.YtoebognfkigooaaGreatDoor.Txt Go.Proofs.YtoebognfkigooaaGreatDoor Go.Proofs.YtoebognfkigooaaGreatDoor.Vals
set_option linter.unusedVariables false
set_option linter.unusedSimpArgs false
set_option maxRecDepth 20000

def Cn.md (c : Cn) : Bool := decide (c.d2 = [])
def Cn.di (c : Cn) : Bool := decide (c.d3 = [])
def Cn.pd (c : Cn) : Bool := decide (c.d2 ≠ [] ∧ c.d3 = [])
/-- A test in memory, above a block. -/
def ConIs (w : World) (lo b : Nat) (c : Cn) : Prop := lo ≤ b ∧ ∃ vb og, lo ≤ vb ∧ Six w b (.pointer (some ⟨vb, 0, none⟩)) (.string (ba c.vt)) (.string (ba c.op)) (.bool c.md) (.bool c.di) (.bool c.pd) ∧ VerIs w vb (val 0 c.d1) (val 0 c.d2) (val 0 c.d3) ⟨#[]⟩ ⟨#[]⟩ og
def Keeps (lo : Nat) (w w' : World) : Prop := ∀ k, lo ≤ k → k < w.heap.size → w'.heap[k]? = w.heap[k]?
theorem Keeps.of_below {lo : Nat} {w w' : World} (h : Below w.heap.size w w') : Keeps lo w w' := fun k _ hk => h.block k hk
theorem Keeps.set {lo : Nat} (w : World) (a : Addr) (v : Value) (h : a.block < lo) : Keeps lo w (w.setCell a v) := fun k hk _ => Below.heap_setCell w a v k (by omega)
theorem ConIs.keep {w w' : World} {lo b : Nat} {c : Cn} (h : ConIs w lo b c) (hk : Keeps lo w w') : ConIs w' lo b c := by
  obtain ⟨h1, vb, og, h2, h3, h4⟩ := h
  exact ⟨h1, vb, og, h2, (hk b h1 (blk_lt h3)).trans h3, (hk vb h2 (blk_lt h4)).trans h4⟩
theorem Keeps.mono {lo lo' : Nat} {w w' : World} (h : Keeps lo w w') (hl : lo ≤ lo') : Keeps lo' w w' := fun k hk => h k (by omega)
/-- A row of tests, above a block; the first i of them are there. -/
def RowTo (i : Nat) (w : World) (rb : Nat) (cs : List Cn) : Prop := ∃ arr : Array Value, w.heap[rb]? = some (.cells arr 58 (0, 0)) ∧ arr.size = cs.length ∧ ∀ j c, j < i → cs[j]? = some c → ∃ b, arr[j]? = some (.pointer (some ⟨b, 0, none⟩)) ∧ ConIs w (rb + 1) b c
def RowIn (w : World) (lo rb : Nat) (cs : List Cn) : Prop := lo ≤ rb ∧ RowTo cs.length w rb cs
theorem RowIn.keep {w w' : World} {lo rb : Nat} {cs : List Cn} (h : RowIn w lo rb cs) (hk : Keeps lo w w') : RowIn w' lo rb cs := by
  obtain ⟨h1, arr, h2, h3, h4⟩ := h
  refine ⟨h1, arr, (hk rb h1 (blk_lt h2)).trans h2, h3, fun j c hj hc => ?_⟩
  obtain ⟨b, h5, h6⟩ := h4 j c hj hc
  exact ⟨b, h5, h6.keep (hk.mono (by omega))⟩
theorem RowTo.below {i : Nat} {w w' : World} {rb : Nat} {cs : List Cn} (h : RowTo i w rb cs) (hb : Below w.heap.size w w') : RowTo i w' rb cs := by
  obtain ⟨arr, h2, h3, h4⟩ := h
  refine ⟨arr, (hb.block _ (blk_lt h2)).trans h2, h3, fun j c hj hc => ?_⟩
  obtain ⟨b, h5, h6⟩ := h4 j c hj hc
  exact ⟨b, h5, h6.keep (Keeps.of_below hb)⟩
theorem made_get (z : Value) (n j : Nat) (h : j < n) : (madeCells #[z] n)[j]? = some z := by
  simp [madeCells, h, Nat.mod_one]
theorem made_size (z : Value) (n : Nat) : (madeCells #[z] n).size = n := by simp [size_madeCells]
theorem RowTo.start (w : World) (cs : List Cn) : RowTo 0 (w.alloc (.cells (madeCells #[.pointer none] cs.length) 58)) w.heap.size cs :=
  ⟨_, heap_alloc_new w _, made_size _ _, fun j c hj => by omega⟩
theorem RowTo.cell {i : Nat} {w : World} {rb : Nat} {cs : List Cn} (h : RowTo i w rb cs) (j : Nat) (hj : j < cs.length) : ∃ v, w.cell? ⟨rb, j, none⟩ = some v ∧ w.frozen? ⟨rb, j, none⟩ = false := by
  obtain ⟨arr, h2, h3, h4⟩ := h
  refine ⟨arr[j]'(by omega), ?_, by simp [World.frozen?, h2]⟩
  rw [blk_cell h2]
  exact Array.getElem?_eq_getElem (by omega)
theorem RowTo.step {i : Nat} {w : World} {rb : Nat} {cs : List Cn} (h : RowTo i w rb cs) {c : Cn} (hc : cs[i]? = some c) {b : Nat} (hb : ConIs w (rb + 1) b c) : RowTo (i + 1) (w.setCell ⟨rb, i, none⟩ (.pointer (some ⟨b, 0, none⟩))) rb cs := by
  obtain ⟨arr, h2, h3, h4⟩ := h
  have hk : Keeps (rb + 1) w (w.setCell ⟨rb, i, none⟩ (.pointer (some ⟨b, 0, none⟩))) := Keeps.set w _ _ (Nat.lt_succ_self rb)
  have hi : i < cs.length := (List.getElem?_eq_some_iff.1 hc).1
  refine ⟨arr.setIfInBounds i (.pointer (some ⟨b, 0, none⟩)), blk_set h2 i _, by simpa using h3, fun j c' hj hc' => ?_⟩
  by_cases e : j = i
  · subst e
    rw [hc] at hc'
    injection hc' with hc'
    subst hc'
    refine ⟨b, ?_, hb.keep hk⟩
    rw [Array.getElem?_setIfInBounds_self_of_lt (by omega)]
  · obtain ⟨b', h5, h6⟩ := h4 j c' (by omega) hc'
    refine ⟨b', ?_, h6.keep hk⟩
    rw [Array.getElem?_setIfInBounds_ne (by omega)]
    exact h5
/-- Groups of tests: the first k of them are there. -/
def GrpTo (k : Nat) (w : World) (lo ob : Nat) (gs : List (List Cn)) : Prop := ∃ arr : Array Value, w.heap[ob]? = some (.cells arr 57 (0, 0)) ∧ arr.size = gs.length ∧ ∀ j cs, j < k → gs[j]? = some cs → ∃ rb, arr[j]? = some (.slice (some ⟨rb, 0, none⟩) cs.length cs.length) ∧ RowIn w lo rb cs
theorem GrpTo.below {k : Nat} {w w' : World} {lo ob : Nat} {gs : List (List Cn)} (h : GrpTo k w lo ob gs) (hb : Below w.heap.size w w') : GrpTo k w' lo ob gs := by
  obtain ⟨arr, h2, h3, h4⟩ := h
  refine ⟨arr, (hb.block _ (blk_lt h2)).trans h2, h3, fun j c hj hc => ?_⟩
  obtain ⟨b, h5, h6⟩ := h4 j c hj hc
  exact ⟨b, h5, h6.keep (Keeps.of_below hb)⟩
theorem GrpTo.cell {i : Nat} {w : World} {lo rb : Nat} {cs : List (List Cn)} (h : GrpTo i w lo rb cs) (j : Nat) (hj : j < cs.length) : ∃ v, w.cell? ⟨rb, j, none⟩ = some v ∧ w.frozen? ⟨rb, j, none⟩ = false := by
  obtain ⟨arr, h2, h3, h4⟩ := h
  refine ⟨arr[j]'(by omega), ?_, by simp [World.frozen?, h2]⟩
  rw [blk_cell h2]
  exact Array.getElem?_eq_getElem (by omega)
theorem GrpTo.step {k : Nat} {w : World} {lo ob : Nat} {gs : List (List Cn)} (h : GrpTo k w lo ob gs) (hol : ob < lo) {cs : List Cn} (hc : gs[k]? = some cs) {rb : Nat} (hb : RowIn w lo rb cs) : GrpTo (k + 1) (w.setCell ⟨ob, k, none⟩ (.slice (some ⟨rb, 0, none⟩) cs.length cs.length)) lo ob gs := by
  obtain ⟨arr, h2, h3, h4⟩ := h
  have hk : Keeps lo w (w.setCell ⟨ob, k, none⟩ (.slice (some ⟨rb, 0, none⟩) cs.length cs.length)) := Keeps.set w _ _ hol
  have hi : k < gs.length := (List.getElem?_eq_some_iff.1 hc).1
  refine ⟨arr.setIfInBounds k (.slice (some ⟨rb, 0, none⟩) cs.length cs.length), blk_set h2 k _, by simpa using h3, fun j c' hj hc' => ?_⟩
  by_cases e : j = k
  · subst e
    rw [hc] at hc'
    injection hc' with hc'
    subst hc'
    refine ⟨rb, ?_, hb.keep hk⟩
    rw [Array.getElem?_setIfInBounds_self_of_lt (by omega)]
  · obtain ⟨b', h5, h6⟩ := h4 j c' (by omega) hc'
    refine ⟨b', ?_, h6.keep hk⟩
    rw [Array.getElem?_setIfInBounds_ne (by omega)]
    exact h5
/-- The marks of the groups: none. -/
def PreIn (w : World) (pb n : Nat) : Prop := ∃ arr : Array Value, w.heap[pb]? = some (.cells arr 4 (0, 0)) ∧ arr.size = n ∧ ∀ j, j < n → arr[j]? = some (.bool false)
theorem PreIn.below {w w' : World} {pb n : Nat} (h : PreIn w pb n) (hb : Below w.heap.size w w') : PreIn w' pb n := by
  obtain ⟨arr, h2, h3, h4⟩ := h
  exact ⟨arr, (hb.block _ (blk_lt h2)).trans h2, h3, h4⟩
theorem PreIn.cell {w : World} {pb n : Nat} (h : PreIn w pb n) (j : Nat) (hj : j < n) : w.cell? ⟨pb, j, none⟩ = some (.bool false) := by
  obtain ⟨arr, h2, h3, h4⟩ := h
  rw [blk_cell h2]
  exact h4 j hj
end Go.Proofs.YtoebognfkigooaaGreatDoor.Sv
namespace Go.Proofs.YtoebognfkigooaaGreatDoor.Sv
open Go.RowKit Go.Proofs.YtoebognfkigooaaGreatDoor.PFnSemverEither Go.Proofs.YtoebognfkigooaaGreatDoorW.PrintWords Go.Proofs.YtoebognfkigooaaGreatDoor.Txt Go.Proofs.YtoebognfkigooaaGreatDoor Go.Proofs.YtoebognfkigooaaGreatDoor.Vals
set_option linter.unusedVariables false
set_option linter.unusedSimpArgs false
set_option maxRecDepth 20000

theorem infoRow : (Tryz.prog.info? 57).map (fun i => (i.zero, i.size, i.bytes)) = some (some (.slice none 0 0), 1, 24) := by kernel_rfl
theorem infoBool : (Tryz.prog.info? 4).map (fun i => (i.zero, i.size, i.bytes)) = some (some (.bool false), 1, 1) := by kernel_rfl
theorem infoPtr : (Tryz.prog.info? 58).map (fun i => (i.zero, i.size, i.bytes)) = some (some (.pointer none), 1, 8) := by kernel_rfl
/-- What NewConstraint answers. -/
def ConsRes (gs : List (List Cn)) (w : World) (e : Ending) (w' : World) : Prop := ∃ b ob pb lo, e = .returned (.tuple #[.pointer (some ⟨b, 0, none⟩), .nilIface]) ∧ w.heap.size ≤ b ∧
  Hid (w'.heap[b]? = some (.cells #[.slice (some ⟨ob, 0, none⟩) gs.length gs.length, .slice (some ⟨pb, 0, none⟩) gs.length gs.length, .bool false] 67 (0, 0))) ∧
  Hid (GrpTo gs.length w' lo ob gs) ∧ Hid (PreIn w' pb gs.length) ∧ Hid (Below w.heap.size w w')
/-- A group as a text, and its tests. -/
structure Grp where
  u : ByteArray
  cs : List Cn
structure GrpSays (g : Grp) : Prop where
  val : ∀ W, Calls Tryz.prog 20 #[.string g.u] W fun e w' => e = .returned (.bool true) ∧ Below W.heap.size W w'
  find : ∀ W, Calls Tryz.prog 22 #[.string g.u] W fun e w' => ∃ (G : Option Addr) (cap : Nat), e = .returned (.slice G g.cs.length cap) ∧ Hid (w'.ownsRow W.heap.size 9 1 (.slice G g.cs.length cap) g.cs.length (g.cs.map fun c => .string (ba c.text))) ∧ Hid (Below W.heap.size W w')
  ne : 0 < g.cs.length
  few : g.cs.length ≤ 1000
  par : ∀ c ∈ g.cs, ∃ og, ∀ W, Calls Tryz.prog 23 #[.string (ba c.text)] W (ParseRes (Sv.val 0 c.d1) (Sv.val 0 c.d2) (Sv.val 0 c.d3) og (ba c.vt) (ba c.op) c.md c.di c.pd W)

theorem getD_row {w : World} {A : Option Addr} {n : Nat} {l : List ByteArray} (h : Kd.C Kd.string w A n l) (j : Nat) (hj : j < n) : ∃ ad, A = some ad ∧ w.cell? (ad.add j) = some (.string (l.getD j ⟨#[]⟩)) := by
  obtain ⟨ad, c, e, hs, hk, hc⟩ := Kd.C_get h ⟨#[]⟩ (j : Int) (by omega) (by omega)
  refine ⟨ad, e, ?_⟩
  have hk' : c = [Value.string (l.getD j ⟨#[]⟩)] := hk
  have := hc 0 (Value.string (l.getD j ⟨#[]⟩)) (by rw [hk']; rfl)
  have e1 : Kd.string.sz = 1 := rfl
  rw [Int.toNat_natCast, e1, Nat.mul_one, Nat.add_zero] at this
  exact this
set_option maxHeartbeats 8000000 in
theorem newConstraint_walk (s : ByteArray) (hs : s.size ≤ 512) (L : List Grp) (h0 : 0 < L.length) (h32 : L.length ≤ 32)
    (RW : ∀ W, Calls Tryz.prog 18 #[.string s] W fun e w' => e = .returned (.string s) ∧ Below W.heap.size W w')
    (SP : ∀ W, Calls Tryz.prog 19 #[.string s, .string ⟨#[124, 124]⟩] W fun e w' => ∃ v0_ : Value, e = .returned (v0_) ∧ Kd.R Kd.string 9 w' W.heap.size (fun _ => True) v0_ (L.map Grp.u) ∧ Below W.heap.size W w')
    (GS : ∀ g ∈ L, GrpSays g) (w : World) :
    Calls Tryz.prog 14 #[.string s] w (ConsRes (L.map Grp.cs) w) := by
  have hs' : decide ((512 : Int) < (s.size : Int)) = false := by simp; omega
  have HRW := Lib.hid (RW w)
  have HSP := Lib.hid SP
  have HGS := Lib.hid GS
  obtain ⟨n, hn⟩ : ∃ n, n = L.length := ⟨_, rfl⟩
  have hmn : (L.map Grp.u).length = n := by rw [List.length_map, hn]
  rw [← hn] at h0 h32
  have HN := Lib.hid hn
  have hmk1 := fun W => run_make_row' (P := Tryz.prog) 53 57 (.slice none 0 0) 24 Tryz.underlying53 infoRow rfl .i64 .i64 n (by omega) (by omega) W
  have hmk2 := fun W => run_make_row' (P := Tryz.prog) 54 4 (.bool false) 1 Tryz.underlying54 infoBool rfl .i64 .i64 n (by omega) (by omega) W
  clear RW SP GS hn
  go_enter Tryz.func14, Tryz.ntmps14
  go_wp2_with fail
  refine (HRW.out).mono ?_
  rintro e w1 ⟨rfl, hb1⟩
  have HB1 := Lib.hid hb1
  clear hb1
  have H2 := Lib.hid (HSP.out w1)
  go_wp2_with fail
  refine H2.out.mono ?_
  rintro e w2 ⟨v0, rfl, HRR, hb2⟩
  obtain ⟨A, c, rfl⟩ := Kd.R_slice HRR
  have HSEG := Lib.hid (Kd.R_reads' HRR).2.2
  have HB2 := Lib.hid (HB1.out.trans (hb2.mono HB1.out.size))
  clear HRR hb2 H2 HSP HRW HB1
  rw [hmn] at HSEG ⊢
  clear hmn
  have hn32 : decide ((32 : Int) < (n : Int)) = false := by simp; omega
  go_wp2_with fail
  obtain ⟨w3, hw3⟩ : ∃ w3, w3 = (w2.alloc (.cells (madeCells #[.slice none 0 0] n) 57)).alloc (.cells (madeCells #[.bool false] n) 4) := ⟨_, rfl⟩
  have hg0 : GrpTo 0 w3 (w2.heap.size + 2) w2.heap.size (L.map Grp.cs) := by
    rw [hw3]
    refine ⟨madeCells #[.slice none 0 0] n, ?_, by rw [made_size, List.length_map, HN.out], fun j cs hj => by omega⟩
    exact (Below.heap_alloc _ _ _ (by simp)).trans (heap_alloc_new w2 _)
  have hp0 : PreIn w3 (w2.heap.size + 1) n := by
    rw [hw3]
    refine ⟨madeCells #[.bool false] n, ?_, made_size _ _, fun j hj => made_get _ _ _ hj⟩
    have := heap_alloc_new (w2.alloc (.cells (madeCells #[.slice none 0 0] n) 57)) (.cells (madeCells #[.bool false] n) 4)
    simpa using this
  have hsz3 : w3.heap.size = w2.heap.size + 2 := by rw [hw3]; simp
  have hb23 : Below w2.heap.size w2 w3 := by rw [hw3]; exact ((Below.refl _ _).alloc (Nat.le_refl _) _).alloc (by simp) _
  have HG0 := Lib.hid hg0
  have HP0 := Lib.hid hp0
  have HB3 := Lib.hid (HB2.out.trans (hb23.mono HB2.out.size))
  have HS3 := Lib.hid hsz3
  have HB23 := Lib.hid hb23
  rw [← hw3]
  clear hw3 hg0 hp0 hsz3 hb23 hmk1 hmk2
  obtain ⟨ob, hob⟩ : ∃ ob, ob = w2.heap.size := ⟨_, rfl⟩
  rw [← hob] at HG0 HP0 HS3
  have e_ : w2.heap.size + 1 = ob + 1 := by rw [hob]
  rw [← hob]
  have HOB := Lib.hid hob
  clear hob e_
  go_loopg [8, 9, 10, 11, 12, 13, 14, 15, 37] n (fun kq v8 v9 v10 v11 v12 v13 v14 v15 v37 wr => ∃ (k : Nat) (x8 x9 x10 x11 x12 x13 x14 x15 : Value), v8 = x8 ∧ v9 = x9 ∧ v10 = x10 ∧ v11 = x11 ∧ v12 = x12 ∧ v13 = x13 ∧ v14 = x14 ∧ v15 = x15 ∧ v37 = .int .i64 (k : Int) ∧ k + kq = n ∧ Hid (Below w.heap.size w wr) ∧ Hid (Below ob w3 wr) ∧ Hid (GrpTo k wr (ob + 2) ob (L.map Grp.cs)) ∧ Hid (PreIn wr (ob + 1) n))
  case atStart => exact ⟨0, _, _, _, _, _, _, _, _, rfl, rfl, rfl, rfl, rfl, rfl, rfl, rfl, rfl, by omega, HB3, Lib.hid (Below.refl _ _), HG0, HP0⟩
  case round =>
    obtain ⟨k, x8, x9, x10, x11, x12, x13, x14, x15, rfl, rfl, rfl, rfl, rfl, rfl, rfl, rfl, rfl, hik, HB, HBO, HG, HP⟩ := hrel
    cases gk with
    | zero =>
      have hin : k = n := by omega
      have hni : ¬ (k : Int) < (n : Int) := by omega
      have HIN := Lib.hid hin
      clear hik hin
      go_wp2_with fail
      have hgl : (L.map Grp.cs).length = n := by rw [List.length_map, ← HN.out]
      have hbw : Below wr.heap.size wr (wr.alloc (.cells #[.slice (some ⟨ob, 0, none⟩) n n, .slice (some ⟨ob + 1, 0, none⟩) n n, .bool false] 67)) := (Below.refl _ _).alloc (Nat.le_refl _) _
      go_ret2
      refine ⟨wr.heap.size, ob, ob + 1, ob + 2, rfl, HB.out.size, ?_, ?_, ?_, Lib.hid (HB.out.trans (hbw.mono HB.out.size))⟩
      · rw [hgl]; exact Lib.hid (heap_alloc_new wr _)
      · rw [hgl]; exact Lib.hid ((HIN.out ▸ HG.out).below hbw)
      · rw [hgl]; exact Lib.hid (HP.out.below hbw)
    | succ m =>
      have hki : k < n := by omega
      have hki' : (k : Int) < (n : Int) := by omega
      have hkL : k < L.length := by have := HN.out; omega
      have HIK := Lib.hid hik
      have hbs : Below w2.heap.size w2 wr := HB23.out.trans (HOB.out ▸ HBO.out)
      obtain ⟨ad, rfl, hcell⟩ := getD_row (Kd.C_below HSEG.out hbs) k hki
      obtain ⟨g, hg⟩ : ∃ g, g = L[k] := ⟨_, rfl⟩
      rw [List.getD_eq_getElem?_getD, List.getElem?_map, List.getElem?_eq_getElem hkL, ← hg] at hcell
      simp only [Option.map_some, Option.getD_some] at hcell
      have hgs : GrpSays g := HGS.out g (by rw [hg]; exact List.getElem_mem hkL)
      obtain ⟨u, cs⟩ := g
      obtain ⟨gv, gf, gne, gfew, gpar⟩ := hgs
      simp only at hcell gv gf gne gfew gpar
      obtain ⟨q, hq⟩ : ∃ q, q = cs.length := ⟨_, rfl⟩
      rw [← hq] at gf gne gfew
      have HQ := Lib.hid hq
      have HGK : Hid ((L.map Grp.cs)[k]? = some cs) := Lib.hid (by rw [List.getElem?_map, List.getElem?_eq_getElem hkL, ← hg]; rfl)
      have HV := Lib.hid (gv wr)
      have HF := Lib.hid gf
      have HPAR := Lib.hid gpar
      have hmk3 := fun W => run_make_row' (P := Tryz.prog) 57 58 (.pointer none) 8 Tryz.underlying57 infoPtr rfl .i64 .i64 q (by omega) (by omega) W
      clear hik hbs hg hkL gv gf gpar hq
      go_wp2_with fail
      refine HV.out.mono ?_
      rintro e w4 ⟨rfl, hb4⟩
      have HB4 := Lib.hid (HB.out.trans (hb4.mono HB.out.size))
      have HB34 := Lib.hid hb4
      have HF4 := Lib.hid (HF.out w4)
      clear hb4 hcell HV HF
      go_wp2_with fail
      refine HF4.out.mono ?_
      rintro e w5 ⟨G, cap, rfl, HROW, hb5⟩
      obtain ⟨gb, rfl⟩ : ∃ gb, G = some ⟨gb, 0, none⟩ := by
        rcases HROW.out.2 with ⟨_, h⟩ | ⟨gb, cp, cur, h, _⟩
        · omega
        · injection h with h; exact ⟨gb, h⟩
      have HB5 := Lib.hid (HB4.out.trans (hb5.out.mono HB4.out.size))
      have HB35 := Lib.hid (HB34.out.trans (hb5.out.mono HB34.out.size))
      have hnil : ∀ W, (binOp .eql 22 (.slice (some ⟨gb, 0, none⟩) q cap) (.slice none 0 0)).run Tryz.prog W = .ok (.bool false) W := fun W => by kernel_rfl
      clear hb5 HF4 HB34 HB4
      go_wp2_with fail
      obtain ⟨w6, hw6⟩ : ∃ w6, w6 = w5.alloc (.cells (madeCells #[.pointer none] q) 58) := ⟨_, rfl⟩
      have hr6 : RowTo 0 w6 w5.heap.size cs := by rw [hw6, HQ.out]; exact RowTo.start w5 cs
      have hb56 : Below w5.heap.size w5 w6 := by rw [hw6]; exact (Below.refl _ _).alloc (Nat.le_refl _) _
      have HR6 := Lib.hid hr6
      have HB56 := Lib.hid hb56
      have HB6 := Lib.hid (HB5.out.trans (hb56.mono HB5.out.size))
      rw [← hw6]
      clear hw6 hr6 hb56 hmk3 hnil
      obtain ⟨rb, hrb⟩ : ∃ rb, rb = w5.heap.size := ⟨_, rfl⟩
      rw [← hrb] at HR6 ⊢
      have HRB := Lib.hid hrb
      clear hrb
      go_loopg [12, 13, 14, 15, 59] q (fun kq v12 v13 v14 v15 v59 wq => ∃ (i : Nat) (x12 x13 x14 x15 : Value), v12 = x12 ∧ v13 = x13 ∧ v14 = x14 ∧ v15 = x15 ∧ v59 = .int .i64 (i : Int) ∧ i + kq = q ∧ Hid (Below w.heap.size w wq) ∧ Hid (Below rb w5 wq) ∧ Hid (RowTo i wq rb cs))
      case atStart => exact ⟨0, _, _, _, _, rfl, rfl, rfl, rfl, rfl, by omega, HB6, by rw [HRB.out]; exact HB56, HR6⟩
      case round =>
        obtain ⟨i, x12, x13, x14, x15, rfl, rfl, rfl, rfl, rfl, hiq, HBQ, HB5Q, HRQ⟩ := hrel
        cases gk with
        | zero =>
          have hin : i = q := by omega
          have hni : ¬ (i : Int) < (q : Int) := by omega
          have hb5q : Below w5.heap.size w5 wr := HRB.out ▸ HB5Q.out
          have hg := (HG.out.below HB35.out).below hb5q
          have hp := (HP.out.below HB35.out).below hb5q
          have hlo : ob + 2 ≤ rb := by
            obtain ⟨arr, h, _⟩ := HP.out
            have := blk_lt h
            have := HB35.out.size
            have := HRB.out
            omega
          have hrow : RowIn wr (ob + 2) rb cs := ⟨hlo, by have h := HRQ.out; rw [hin, HQ.out] at h; exact h⟩
          have hst := hg.step (by omega) HGK.out hrow
          rw [← HQ.out] at hst
          obtain ⟨ov, hov, hof⟩ := hg.cell k (by rw [List.length_map, ← HN.out]; exact hki)
          have hps : PreIn (wr.setCell ⟨ob, k, none⟩ (.slice (some ⟨rb, 0, none⟩) q q)) (ob + 1) n := by
            obtain ⟨arr, h1, h2, h3⟩ := hp
            exact ⟨arr, (Below.heap_setCell wr ⟨ob, k, none⟩ _ (ob + 1) (by simp)).trans h1, h2, h3⟩
          have hbw : w.heap.size ≤ ob := by rw [HOB.out]; exact HB2.out.size
          have hbz : Below ob w3 wr := (HBO.out.trans (HB35.out.mono (by have := HOB.out; have := HB23.out.size; have := HBO.out.size; omega))).trans (hb5q.mono (by have := HRB.out; omega))
          have HST := Lib.hid hst
          have HPS := Lib.hid hps
          have HBZ := Lib.hid (And.intro (HBQ.out.setCell (p := ⟨ob, k, none⟩) hbw (.slice (some ⟨rb, 0, none⟩) q q)) (hbz.setCell (p := ⟨ob, k, none⟩) (Nat.le_refl _) (.slice (some ⟨rb, 0, none⟩) q q)))
          clear hin hiq hg hp hlo hrow hst hps hbw hbz hb5q
          go_wp2_with fail
          go_roundg m
          case measure => exact Nat.lt_succ_self m
          case rel => exact ⟨k + 1, _, _, _, _, _, _, _, _, rfl, rfl, rfl, rfl, rfl, rfl, rfl, rfl, by simp, by have := HIK.out; omega, Lib.hid HBZ.out.1, Lib.hid HBZ.out.2, HST, HPS⟩
        | succ mm =>
          have hiq' : i < q := by omega
          have hiq2 : (i : Int) < (q : Int) := by omega
          have hil : i < cs.length := by have := HQ.out; omega
          have HIQ := Lib.hid hiq
          obtain ⟨c, hc⟩ : ∃ c, c = cs[i] := ⟨_, rfl⟩
          have hci : cs[i]? = some c := by rw [List.getElem?_eq_getElem hil, hc]
          have hb5q : Below w5.heap.size w5 wr := HRB.out ▸ HB5Q.out
          have hcell : wr.cell? ⟨gb, i, none⟩ = some (.string (ba c.text)) := by
            have h1 := HROW.out.cellAt i (by omega)
            rw [List.getElem?_map, hci] at h1
            have h2 : gb < w5.heap.size := (HROW.out.lt gb rfl).2
            exact (hb5q.cell (p := ⟨gb, i, none⟩) h2).trans h1
          obtain ⟨og, hpar⟩ := HPAR.out c (by rw [hc]; exact List.getElem_mem hil)
          have HPC := Lib.hid (hpar wr)
          have HCI := Lib.hid hci
          have hrs : rb < wr.heap.size := by obtain ⟨arr, h, _⟩ := HRQ.out; exact blk_lt h
          have HRS := Lib.hid hrs
          clear hiq hc hci hil hb5q hpar hrs
          obtain ⟨tx, htx⟩ : ∃ tx, tx = ba c.text := ⟨_, rfl⟩
          rw [← htx] at hcell HPC
          clear htx
          go_wp2_with fail
          refine HPC.out.mono ?_
          rintro e w7 ⟨b, vb, rfl, hbb, hvb, HSIX, HVER, HB7⟩
          have HCON : Hid (ConIs w7 (rb + 1) b c) := Lib.hid ⟨by have := HRS.out; omega, vb, og, by have := HRS.out; omega, HSIX.out, HVER.out⟩
          have hr7 := HRQ.out.below HB7.out
          have hst := hr7.step HCI.out HCON.out
          obtain ⟨ov, hov, hof⟩ := hr7.cell i (by have := HQ.out; omega)
          obtain ⟨k0_, -⟩ := HSIX.out.cell 0
          have hv_ := HVER.out
          unfold VerIs at hv_
          have k3_ : w7.cell? ⟨vb, 3, none⟩ = some (.string ⟨#[]⟩) := by rw [blk_cell hv_]; rfl
          have hbw : w.heap.size ≤ rb := by rw [HRB.out]; exact HB5.out.size
          have HST := Lib.hid hst
          have HBZ := Lib.hid (And.intro ((HBQ.out.trans (HB7.out.mono HBQ.out.size)).setCell (p := ⟨rb, i, none⟩) hbw (.pointer (some ⟨b, 0, none⟩))) ((HB5Q.out.trans (HB7.out.mono (by have := HRS.out; omega))).setCell (p := ⟨rb, i, none⟩) (Nat.le_refl _) (.pointer (some ⟨b, 0, none⟩))))
          clear hbb hvb hr7 hst hv_ hbw hcell
          go_wp2_with fail
          go_roundg mm
          case measure => exact Nat.lt_succ_self mm
          case rel => exact ⟨i + 1, _, _, _, _, rfl, rfl, rfl, rfl, by simp, by have := HIQ.out; omega, Lib.hid HBZ.out.1, Lib.hid HBZ.out.2, HST⟩
end Go.Proofs.YtoebognfkigooaaGreatDoor.Sv
