/- base64: decodeQuantum at the last four signs of a text. Printed by gen_b6q.py. -/
import Derived.Test.YtoaalpkeepjhmaaB6EncS
namespace Go.Proofs.Ytoaalpkeepjhmaa.B6
open Go.RowKit Go.Proofs.YtoaalpkeepjhmaaW.PrintWords Go.Proofs.Ytoaalpkeepjhmaa.Txt
set_option linter.unusedVariables false
set_option linter.unusedSimpArgs false
set_option maxRecDepth 100000
theorem map_sgn (d : Nat) (h : d < 64) : (mAt 64)[sgn d]? = some d := by
  have : ∀ d : Fin 64, (mAt 64)[sgn d.val]? = some d.val := by decide +kernel
  exact this ⟨d, h⟩
theorem map_pad : (mAt 64)[61]? = some 255 := by decide +kernel
theorem sgn_lt (d : Nat) (h : d < 64) : sgn d < 128 := (sgn_ok ⟨d, h⟩).1
/-- The four places of a quantum. -/
def RowQ (w : World) (b : Nat) (D : List Nat) : Prop := w.heap[b]? = some (.cells (D.map fun (k : Nat) => Value.int .u8 (k : Int)).toArray 73 (0, 0))
theorem RowQ.cell {w : World} {b : Nat} {D : List Nat} (h : RowQ w b D) (j k : Nat) (hj : D[j]? = some k) : w.cell? ⟨b, j, none⟩ = some (.int .u8 (k : Int)) := by
  unfold RowQ at h
  simp [World.cell?, h, hj]
theorem RowQ.free {w : World} {b : Nat} {D : List Nat} (h : RowQ w b D) (j : Nat) : w.frozen? ⟨b, j, none⟩ = false := by
  unfold RowQ at h
  simp [World.frozen?, h]
theorem RowQ.store {w : World} {b : Nat} {D : List Nat} (h : RowQ w b D) (j k : Nat) : RowQ (w.setCell ⟨b, j, none⟩ (.int .u8 (k : Int))) b (D.set j k) := by
  unfold RowQ at h ⊢
  simp [World.setCell, Array.getElem?_modify, h, List.setIfInBounds_toArray, List.map_set]
theorem RowQ.other {w : World} {b c : Nat} {D : List Nat} (h : RowQ w b D) (hn : b ≠ c) (j : Nat) (v : Value) : RowQ (w.setCell ⟨c, j, none⟩ v) b D := (Below.heap_setCell w ⟨c, j, none⟩ v b (by simpa using hn)).trans h
theorem or4 (a b c d : Nat) (h0 : a < 64) (h1 : b < 64) (h2 : c < 64) (h3 : d < 64) : bits BinOp.or IntKind.u64 (bits BinOp.or IntKind.u64 (bits BinOp.or IntKind.u64 ((a : Int) * 262144) ((b : Int) * 4096)) ((c : Int) * 64)) (d : Int) = ((a * 262144 + b * 4096 + c * 64 + d : Nat) : Int) := by
  rw [show (a : Int) * 262144 = ((a * 262144 : Nat) : Int) by simp, show (b : Int) * 4096 = ((b * 4096 : Nat) : Int) by simp, show (c : Int) * 64 = ((c * 64 : Nat) : Int) by simp, or_u64 _ _ (by omega) (by omega)]
  rw [show a * 262144 ||| b * 4096 = a * 262144 + b * 4096 by
    have := or_add a (b * 4096) 18 (by omega)
    exact this, or_u64 _ _ (by omega) (by omega)]
  rw [show (a * 262144 + b * 4096) ||| c * 64 = a * 262144 + b * 4096 + c * 64 by
    have := or_add (a * 64 + b) (c * 64) 12 (by omega)
    rw [show (a * 64 + b) * 2 ^ 12 = a * 262144 + b * 4096 by omega] at this
    exact this, or_u64 _ _ (by omega) (by omega)]
  rw [show (a * 262144 + b * 4096 + c * 64) ||| d = a * 262144 + b * 4096 + c * 64 + d by
    have := or_add (a * 4096 + b * 64 + c) d 6 (by omega)
    rw [show (a * 4096 + b * 64 + c) * 2 ^ 6 = a * 262144 + b * 4096 + c * 64 by omega] at this
    exact this]
/-- The map's cells. -/
def mapC (m : List Nat) : List Value := m.map fun (k : Nat) => Value.int .u8 (k : Int)
theorem EncOf.map {w : World} {b : Nat} {m : List Nat} (h : EncOf w b m) : w.rangeAt b 64 (mapC m) := fun j v hj => by
  unfold mapC at hj
  rw [List.getElem?_map] at hj
  obtain ⟨k, hk, rfl⟩ := Option.map_eq_some_iff.1 hj
  rw [h.cell]
  exact cellsOf_map m j k hk
theorem mapC_len : (mapC (mAt 64)).length = 256 := by unfold mapC; rw [List.length_map, mAt_len]
theorem setp_0 {P : List Nat} {x a b c n : Nat} (h : P.length = n) : (P ++ [a, b, c]).set n x = P ++ [x, b, c] := by
  rw [← h, List.set_append_right _ _ (Nat.le_refl _), Nat.sub_self]; rfl
theorem setp_1 {P : List Nat} {x a b c n : Nat} (h : P.length = n) : (P ++ [a, b, c]).set (n + 1) x = P ++ [a, x, c] := by
  rw [← h, List.set_append_right _ _ (by omega), show P.length + 1 - P.length = 1 by omega]; rfl
theorem setp_2 {P : List Nat} {x a b c n : Nat} (h : P.length = n) : (P ++ [a, b, c]).set (n + 2) x = P ++ [a, b, x] := by
  rw [← h, List.set_append_right _ _ (by omega), show P.length + 2 - P.length = 2 by omega]; rfl
set_option maxHeartbeats 8000000 in
theorem quantum4 (eb sb db a n cp : Nat) (P : List Nat) (d0 d1 d2 d3 : Nat) (h0 : d0 < 64) (h1 : d1 < 64) (h2 : d2 < 64) (h3 : d3 < 64) (ha : a ≤ 100000) (hP : P.length = n) (w : World) (hE : EncOf w eb (mAt 64)) (hD : RowU w db (P ++ [0, 0, 0])) (hsw : sb < w.heap.size) (hcp : a + 4 ≤ cp) (he : eb < db)
    (hs0 : w.cell? ⟨sb, a + 0, none⟩ = some (.int .u8 (sgn d0 : Int))) (hs1 : w.cell? ⟨sb, a + 1, none⟩ = some (.int .u8 (sgn d1 : Int))) (hs2 : w.cell? ⟨sb, a + 2, none⟩ = some (.int .u8 (sgn d2 : Int))) (hs3 : w.cell? ⟨sb, a + 3, none⟩ = some (.int .u8 (sgn d3 : Int))):
    Calls Try.prog 41 #[.pointer (some ⟨eb, 0, none⟩), .slice (some ⟨db, n, none⟩) 3 3, .slice (some ⟨sb, 0, none⟩) (a + 4) cp, .int .i64 (a : Int)] w fun e w' => e = .returned (.tuple #[.int .i64 ((a + 4 : Nat) : Int), .int .i64 3, .nilIface]) ∧ RowU w' db (P ++ [(d0 * 262144 + d1 * 4096 + d2 * 64 + d3) / 65536, (d0 * 262144 + d1 * 4096 + d2 * 64 + d3) / 256 % 256, (d0 * 262144 + d1 * 4096 + d2 * 64 + d3) % 256]) ∧ Below db w w' := by
  go_enter Try.func41, Try.ntmps41
  go_upto_region 3 with fail
  obtain ⟨w0, hw0⟩ : ∃ w0, w0 = w.alloc (.cells #[.int .u8 0, .int .u8 0, .int .u8 0, .int .u8 0] 73) := ⟨_, rfl⟩
  obtain ⟨qb, hqb⟩ : ∃ b, b = w.heap.size := ⟨_, rfl⟩
  rw [← hw0, ← hqb]
  have HQ0 : Hid (RowQ w0 qb [0, 0, 0, 0]) := Lib.hid (by unfold RowQ; rw [hw0, hqb]; exact heap_alloc_new w _)
  have HB0 : Hid (Below qb w w0) := Lib.hid (by rw [hw0, hqb]; exact (Below.refl _ _).alloc (Nat.le_refl _) _)
  have HLT : Hid (eb < qb ∧ sb < qb ∧ db < qb ∧ eb < db) := Lib.hid (by rw [hqb]; exact ⟨hE.lt, hsw, hD.lt, he⟩)
  have HE := Lib.hid hE
  have HD := Lib.hid hD
  have HS := Lib.hid (And.intro hs0 (And.intro hs1 (And.intro hs2 hs3)))
  have HP := Lib.hid hP
  have HM0 := Lib.hid ((hE.below HB0.out HLT.out.1).map)
  have HZ := Lib.hid (And.intro hw0 hqb)
  clear he hw0 hqb hE hD hs0 hs1 hs2 hs3 hsw hP
  go_wp2_with (refine wpList_load_mid rfl 54 (.tmp 19) rfl eb 64 rfl (mapC (mAt 64)) _ HM0.out Try.underlying54 rfl (by rw [mapC_len]; kernel_rfl) ?_)
  clear HM0
  go_simp
  refine wp_loop_rounds 5 ?_
  rw [rounds_succ]
  have cS : w0.cell? ⟨sb, a, none⟩ = some (.int .u8 (sgn d0 : Int)) := (HB0.out.cell (p := ⟨sb, a, none⟩) HLT.out.2.1).trans HS.out.1
  have y1 : ((a : Int) + 4 == (a : Int)) = false := by simp <;> omega
  have y2 : ((a : Int) < (a : Int) + 4) = True := eq_true (by omega)
  have cM : w0.cell? ⟨eb, 64 + sgn d0, none⟩ = some (.int .u8 (d0 : Int)) := by rw [(HE.out.below HB0.out HLT.out.1).cell]; exact cellsOf_map _ _ _ (map_sgn d0 h0)
  have cQ : w0.cell? ⟨qb, 0, none⟩ = some (.int .u8 (0 : Nat)) := HQ0.out.cell _ _ rfl
  have fQ : w0.frozen? ⟨qb, 0, none⟩ = false := HQ0.out.free _
  have x1 : (d0 == 255) = false := by simp <;> omega
  have x2 : ((d0 : Int) == 255) = false := by simp <;> omega
  have x3 : (sgn d0 : Int) < 256 := by have := sgn_lt d0 h0; omega
  go_wp2_with fail
  obtain ⟨w1, hW_⟩ : ∃ W_, W_ = w0.setCell ⟨qb, 0, none⟩ (.int .u8 (d0 : Int)) := ⟨_, rfl⟩
  rw [← hW_]
  have HQ1 : Hid (RowQ w1 qb [d0, 0, 0, 0]) := Lib.hid (by rw [hW_]; exact HQ0.out.store 0 d0)
  have HB1 : Hid (Below qb w w1) := Lib.hid (by rw [hW_]; exact HB0.out.setCell (p := ⟨qb, 0, none⟩) (Nat.le_refl qb) _)
  clear hW_ cS cM cQ fQ x1 x2 x3 y1 y2
  rw [rounds_succ]
  have cS : w1.cell? ⟨sb, a + 1, none⟩ = some (.int .u8 (sgn d1 : Int)) := (HB1.out.cell (p := ⟨sb, a + 1, none⟩) HLT.out.2.1).trans HS.out.2.1
  have y1 : ((a : Int) + 4 == (a : Int) + 1) = false := by simp <;> omega
  have y2 : ((a : Int) + 1 < (a : Int) + 4) = True := eq_true (by omega)
  have cM : w1.cell? ⟨eb, 64 + sgn d1, none⟩ = some (.int .u8 (d1 : Int)) := by rw [(HE.out.below HB1.out HLT.out.1).cell]; exact cellsOf_map _ _ _ (map_sgn d1 h1)
  have cQ : w1.cell? ⟨qb, 1, none⟩ = some (.int .u8 (0 : Nat)) := HQ1.out.cell _ _ rfl
  have fQ : w1.frozen? ⟨qb, 1, none⟩ = false := HQ1.out.free _
  have x1 : (d1 == 255) = false := by simp <;> omega
  have x2 : ((d1 : Int) == 255) = false := by simp <;> omega
  have x3 : (sgn d1 : Int) < 256 := by have := sgn_lt d1 h1; omega
  go_wp2_with fail
  obtain ⟨w2, hW_⟩ : ∃ W_, W_ = w1.setCell ⟨qb, 1, none⟩ (.int .u8 (d1 : Int)) := ⟨_, rfl⟩
  rw [← hW_]
  have HQ2 : Hid (RowQ w2 qb [d0, d1, 0, 0]) := Lib.hid (by rw [hW_]; exact HQ1.out.store 1 d1)
  have HB2 : Hid (Below qb w w2) := Lib.hid (by rw [hW_]; exact HB1.out.setCell (p := ⟨qb, 1, none⟩) (Nat.le_refl qb) _)
  clear hW_ cS cM cQ fQ x1 x2 x3 y1 y2
  rw [rounds_succ]
  have cS : w2.cell? ⟨sb, a + 2, none⟩ = some (.int .u8 (sgn d2 : Int)) := (HB2.out.cell (p := ⟨sb, a + 2, none⟩) HLT.out.2.1).trans HS.out.2.2.1
  have y1 : ((a : Int) + 4 == (a : Int) + 2) = false := by simp <;> omega
  have y2 : ((a : Int) + 2 < (a : Int) + 4) = True := eq_true (by omega)
  have cM : w2.cell? ⟨eb, 64 + sgn d2, none⟩ = some (.int .u8 (d2 : Int)) := by rw [(HE.out.below HB2.out HLT.out.1).cell]; exact cellsOf_map _ _ _ (map_sgn d2 h2)
  have cQ : w2.cell? ⟨qb, 2, none⟩ = some (.int .u8 (0 : Nat)) := HQ2.out.cell _ _ rfl
  have fQ : w2.frozen? ⟨qb, 2, none⟩ = false := HQ2.out.free _
  have x1 : (d2 == 255) = false := by simp <;> omega
  have x2 : ((d2 : Int) == 255) = false := by simp <;> omega
  have x3 : (sgn d2 : Int) < 256 := by have := sgn_lt d2 h2; omega
  go_wp2_with fail
  obtain ⟨w3, hW_⟩ : ∃ W_, W_ = w2.setCell ⟨qb, 2, none⟩ (.int .u8 (d2 : Int)) := ⟨_, rfl⟩
  rw [← hW_]
  have HQ3 : Hid (RowQ w3 qb [d0, d1, d2, 0]) := Lib.hid (by rw [hW_]; exact HQ2.out.store 2 d2)
  have HB3 : Hid (Below qb w w3) := Lib.hid (by rw [hW_]; exact HB2.out.setCell (p := ⟨qb, 2, none⟩) (Nat.le_refl qb) _)
  clear hW_ cS cM cQ fQ x1 x2 x3 y1 y2
  rw [rounds_succ]
  have cS : w3.cell? ⟨sb, a + 3, none⟩ = some (.int .u8 (sgn d3 : Int)) := (HB3.out.cell (p := ⟨sb, a + 3, none⟩) HLT.out.2.1).trans HS.out.2.2.2
  have y1 : ((a : Int) + 4 == (a : Int) + 3) = false := by simp <;> omega
  have y2 : ((a : Int) + 3 < (a : Int) + 4) = True := eq_true (by omega)
  have cM : w3.cell? ⟨eb, 64 + sgn d3, none⟩ = some (.int .u8 (d3 : Int)) := by rw [(HE.out.below HB3.out HLT.out.1).cell]; exact cellsOf_map _ _ _ (map_sgn d3 h3)
  have cQ : w3.cell? ⟨qb, 3, none⟩ = some (.int .u8 (0 : Nat)) := HQ3.out.cell _ _ rfl
  have fQ : w3.frozen? ⟨qb, 3, none⟩ = false := HQ3.out.free _
  have x1 : (d3 == 255) = false := by simp <;> omega
  have x2 : ((d3 : Int) == 255) = false := by simp <;> omega
  have x3 : (sgn d3 : Int) < 256 := by have := sgn_lt d3 h3; omega
  go_wp2_with fail
  obtain ⟨w4, hW_⟩ : ∃ W_, W_ = w3.setCell ⟨qb, 3, none⟩ (.int .u8 (d3 : Int)) := ⟨_, rfl⟩
  rw [← hW_]
  have HQ4 : Hid (RowQ w4 qb [d0, d1, d2, d3]) := Lib.hid (by rw [hW_]; exact HQ3.out.store 3 d3)
  have HB4 : Hid (Below qb w w4) := Lib.hid (by rw [hW_]; exact HB3.out.setCell (p := ⟨qb, 3, none⟩) (Nat.le_refl qb) _)
  clear hW_ cS cM cQ fQ x1 x2 x3 y1 y2
  rw [rounds_succ]
  have cQ0 : w4.cell? ⟨qb, 0, none⟩ = some (.int .u8 (d0 : Int)) := HQ4.out.cell _ _ rfl
  have fQ0 : w4.frozen? ⟨qb, 0, none⟩ = false := HQ4.out.free _
  have cQ1 : w4.cell? ⟨qb, 1, none⟩ = some (.int .u8 (d1 : Int)) := HQ4.out.cell _ _ rfl
  have fQ1 : w4.frozen? ⟨qb, 1, none⟩ = false := HQ4.out.free _
  have cQ2 : w4.cell? ⟨qb, 2, none⟩ = some (.int .u8 (d2 : Int)) := HQ4.out.cell _ _ rfl
  have fQ2 : w4.frozen? ⟨qb, 2, none⟩ = false := HQ4.out.free _
  have cQ3 : w4.cell? ⟨qb, 3, none⟩ = some (.int .u8 (d3 : Int)) := HQ4.out.cell _ _ rfl
  have fQ3 : w4.frozen? ⟨qb, 3, none⟩ = false := HQ4.out.free _
  go_upto_region 41 with fail
  rw [or4 d0 d1 d2 d3 h0 h1 h2 h3]
  obtain ⟨v, hv⟩ : ∃ v, v = d0 * 262144 + d1 * 4096 + d2 * 64 + d3 := ⟨_, rfl⟩
  have hvl : v < 16777216 := by omega
  rw [← hv]
  obtain ⟨c2, hc2⟩ : ∃ c, c = v % 256 := ⟨_, rfl⟩
  obtain ⟨c1, hc1⟩ : ∃ c, c = v / 256 % 256 := ⟨_, rfl⟩
  obtain ⟨c0, hc0⟩ : ∃ c, c = v / 65536 := ⟨_, rfl⟩
  have e2 : IntKind.u8.wrap (v : Int) = (c2 : Int) := by show (v : Int) % (2 ^ 8 : Int) = c2; omega
  have e1 : IntKind.u8.wrap ((v : Int) / 256) = (c1 : Int) := by show ((v : Int) / 256) % (2 ^ 8 : Int) = c1; omega
  have e0 : IntKind.u8.wrap ((v : Int) / 65536) = (c0 : Int) := by show ((v : Int) / 65536) % (2 ^ 8 : Int) = c0; omega
  have e2' : (v : Int) % 256 = (c2 : Int) := by omega
  have e1' : (v : Int) / 256 % 256 = (c1 : Int) := by omega
  have e0' : (v : Int) / 65536 = (c0 : Int) := by omega
  have HV := Lib.hid (And.intro hv (And.intro hc0 (And.intro hc1 hc2)))
  clear hv hc0 hc1 hc2
  go_upto_region 42 with fail
  obtain ⟨w5, hW_⟩ : ∃ W_, W_ = ((w4.setCell ⟨qb, 2, none⟩ (.int .u8 (c2 : Int))).setCell ⟨qb, 1, none⟩ (.int .u8 (c1 : Int))).setCell ⟨qb, 0, none⟩ (.int .u8 (c0 : Int)) := ⟨_, rfl⟩
  rw [← hW_]
  have HQ5 : Hid (RowQ w5 qb [c0, c1, c2, d3]) := Lib.hid (by rw [hW_]; exact ((HQ4.out.store 2 c2).store 1 c1).store 0 c0)
  have HB5 : Hid (Below qb w w5) := Lib.hid (by rw [hW_]; exact ((HB4.out.setCell (p := ⟨qb, 2, none⟩) (Nat.le_refl qb) _).setCell (p := ⟨qb, 1, none⟩) (Nat.le_refl qb) _).setCell (p := ⟨qb, 0, none⟩) (Nat.le_refl qb) _)
  have HD5 : Hid (RowU w5 db (P ++ [0, 0, 0])) := Lib.hid (HD.out.below HB5.out HLT.out.2.2.1)
  have HX5 : Hid (Below db w w5) := Lib.hid (HB5.out.mono (Nat.le_of_lt HLT.out.2.2.1))
  clear hW_ cQ0 cQ1 cQ2 cQ3 fQ0 fQ1 fQ2 fQ3 e0 e1 e2 e0' e1' e2' HQ4 HB4 HB5
  have cQ : w5.cell? ⟨qb, 2, none⟩ = some (.int .u8 (c2 : Int)) := HQ5.out.cell _ _ rfl
  have cD : w5.cell? ⟨db, n + 2, none⟩ = some (.int .u8 (0 : Nat)) := HD5.out.cell _ _ (by rw [List.getElem?_append_right (by rw [HP.out]; omega), HP.out, show n + 2 - n = 2 by omega]; rfl)
  have fD : w5.frozen? ⟨db, n + 2, none⟩ = false := HD5.out.free _
  have hWW : ∀ v_, (w5.setCell ⟨db, n + 2, none⟩ v_).cell? ⟨eb, 321, none⟩ = some (.bool false) := fun v_ => ((HE.out.below HX5.out HLT.out.2.2.2).other (by have := HLT.out.2.2.2; omega) _ v_).strict
  go_upto_region 47 with fail
  obtain ⟨w6, hW_⟩ : ∃ W_, W_ = w5.setCell ⟨db, n + 2, none⟩ (.int .u8 (c2 : Int)) := ⟨_, rfl⟩
  rw [← hW_]
  have HD6 : Hid (RowU w6 db (P ++ [0, 0, c2])) := Lib.hid (by
    have h_ := HD5.out.store (n + 2) c2
    rw [setp_2 HP.out] at h_
    rw [hW_]; exact h_)
  have HQ6 : Hid (RowQ w6 qb [c0, c1, c2, d3]) := Lib.hid (by rw [hW_]; exact HQ5.out.other (by have := HLT.out.2.2.1; omega) _ _)
  have HX6 : Hid (Below db w w6) := Lib.hid (by rw [hW_]; exact HX5.out.setCell (p := ⟨db, n + 2, none⟩) (Nat.le_refl db) _)
  clear hW_ cQ cD fD hWW HD5 HQ5 HX5
  have cQ : w6.cell? ⟨qb, 2, none⟩ = some (.int .u8 (c2 : Int)) := HQ6.out.cell _ _ rfl
  have fQ : w6.frozen? ⟨qb, 2, none⟩ = false := HQ6.out.free _
  go_upto_region 48 with fail
  obtain ⟨w7, hW_⟩ : ∃ W_, W_ = w6.setCell ⟨qb, 2, none⟩ (.int .u8 0) := ⟨_, rfl⟩
  rw [← hW_]
  have HQ7 : Hid (RowQ w7 qb [c0, c1, 0, d3]) := Lib.hid (by rw [hW_]; exact HQ6.out.store 2 0)
  have HD7 : Hid (RowU w7 db (P ++ [0, 0, c2])) := Lib.hid (by rw [hW_]; exact HD6.out.other (by have := HLT.out.2.2.1; omega) _ _)
  have HX7 : Hid (Below db w w7) := Lib.hid (by rw [hW_]; exact HX6.out.setCell (p := ⟨qb, 2, none⟩) (Nat.le_of_lt HLT.out.2.2.1) _)
  clear hW_ cQ fQ HD6 HQ6 HX6
  have cQ : w7.cell? ⟨qb, 1, none⟩ = some (.int .u8 (c1 : Int)) := HQ7.out.cell _ _ rfl
  have cD : w7.cell? ⟨db, n + 1, none⟩ = some (.int .u8 (0 : Nat)) := HD7.out.cell _ _ (by rw [List.getElem?_append_right (by rw [HP.out]; omega), HP.out, show n + 1 - n = 1 by omega]; rfl)
  have fD : w7.frozen? ⟨db, n + 1, none⟩ = false := HD7.out.free _
  have hWW : ∀ v_, (w7.setCell ⟨db, n + 1, none⟩ v_).cell? ⟨eb, 321, none⟩ = some (.bool false) := fun v_ => ((HE.out.below HX7.out HLT.out.2.2.2).other (by have := HLT.out.2.2.2; omega) _ v_).strict
  go_upto_region 51 with fail
  obtain ⟨w8, hW_⟩ : ∃ W_, W_ = w7.setCell ⟨db, n + 1, none⟩ (.int .u8 (c1 : Int)) := ⟨_, rfl⟩
  rw [← hW_]
  have HD8 : Hid (RowU w8 db (P ++ [0, c1, c2])) := Lib.hid (by
    have h_ := HD7.out.store (n + 1) c1
    rw [setp_1 HP.out] at h_
    rw [hW_]; exact h_)
  have HQ8 : Hid (RowQ w8 qb [c0, c1, 0, d3]) := Lib.hid (by rw [hW_]; exact HQ7.out.other (by have := HLT.out.2.2.1; omega) _ _)
  have HX8 : Hid (Below db w w8) := Lib.hid (by rw [hW_]; exact HX7.out.setCell (p := ⟨db, n + 1, none⟩) (Nat.le_refl db) _)
  clear hW_ cQ cD fD hWW HD7 HQ7 HX7
  have cQ : w8.cell? ⟨qb, 1, none⟩ = some (.int .u8 (c1 : Int)) := HQ8.out.cell _ _ rfl
  have fQ : w8.frozen? ⟨qb, 1, none⟩ = false := HQ8.out.free _
  go_upto_region 52 with fail
  obtain ⟨w9, hW_⟩ : ∃ W_, W_ = w8.setCell ⟨qb, 1, none⟩ (.int .u8 0) := ⟨_, rfl⟩
  rw [← hW_]
  have HQ9 : Hid (RowQ w9 qb [c0, 0, 0, d3]) := Lib.hid (by rw [hW_]; exact HQ8.out.store 1 0)
  have HD9 : Hid (RowU w9 db (P ++ [0, c1, c2])) := Lib.hid (by rw [hW_]; exact HD8.out.other (by have := HLT.out.2.2.1; omega) _ _)
  have HX9 : Hid (Below db w w9) := Lib.hid (by rw [hW_]; exact HX8.out.setCell (p := ⟨qb, 1, none⟩) (Nat.le_of_lt HLT.out.2.2.1) _)
  clear hW_ cQ fQ HD8 HQ8 HX8
  have cQ : w9.cell? ⟨qb, 0, none⟩ = some (.int .u8 (c0 : Int)) := HQ9.out.cell _ _ rfl
  have cD : w9.cell? ⟨db, n, none⟩ = some (.int .u8 (0 : Nat)) := HD9.out.cell _ _ (by rw [List.getElem?_append_right (by rw [HP.out]; omega), HP.out, show n - n = 0 by omega]; rfl)
  have fD : w9.frozen? ⟨db, n, none⟩ = false := HD9.out.free _
  have hWW : ∀ v_, (w9.setCell ⟨db, n, none⟩ v_).cell? ⟨eb, 321, none⟩ = some (.bool false) := fun v_ => ((HE.out.below HX9.out HLT.out.2.2.2).other (by have := HLT.out.2.2.2; omega) _ v_).strict
  go_wp2_with fail
  obtain ⟨w10, hW_⟩ : ∃ W_, W_ = w9.setCell ⟨db, n, none⟩ (.int .u8 (c0 : Int)) := ⟨_, rfl⟩
  rw [← hW_]
  have HD10 : Hid (RowU w10 db (P ++ [c0, c1, c2])) := Lib.hid (by
    have h_ := HD9.out.store (n) c0
    rw [setp_0 HP.out] at h_
    rw [hW_]; exact h_)
  have HQ10 : Hid (RowQ w10 qb [c0, 0, 0, d3]) := Lib.hid (by rw [hW_]; exact HQ9.out.other (by have := HLT.out.2.2.1; omega) _ _)
  have HX10 : Hid (Below db w w10) := Lib.hid (by rw [hW_]; exact HX9.out.setCell (p := ⟨db, n, none⟩) (Nat.le_refl db) _)
  clear hW_ cQ cD fD hWW HD9 HQ9 HX9
  go_ret3
  refine ⟨by simp <;> omega, ?_, HX10.out⟩
  have h_ := HD10.out
  obtain ⟨f1, f2, f3, f4⟩ := HV.out
  rw [f2, f3, f4, f1] at h_
  exact h_
set_option maxHeartbeats 8000000 in
theorem quantum3 (eb sb db a n cp : Nat) (P : List Nat) (d0 d1 d2 : Nat) (h0 : d0 < 64) (h1 : d1 < 64) (h2 : d2 < 64) (ha : a ≤ 100000) (hP : P.length = n) (w : World) (hE : EncOf w eb (mAt 64)) (hD : RowU w db (P ++ [0, 0, 0])) (hsw : sb < w.heap.size) (hcp : a + 4 ≤ cp) (he : eb < db)
    (hs0 : w.cell? ⟨sb, a + 0, none⟩ = some (.int .u8 (sgn d0 : Int))) (hs1 : w.cell? ⟨sb, a + 1, none⟩ = some (.int .u8 (sgn d1 : Int))) (hs2 : w.cell? ⟨sb, a + 2, none⟩ = some (.int .u8 (sgn d2 : Int))) (hs3 : w.cell? ⟨sb, a + 3, none⟩ = some (.int .u8 ((61 : Nat) : Int))):
    Calls Try.prog 41 #[.pointer (some ⟨eb, 0, none⟩), .slice (some ⟨db, n, none⟩) 3 3, .slice (some ⟨sb, 0, none⟩) (a + 4) cp, .int .i64 (a : Int)] w fun e w' => e = .returned (.tuple #[.int .i64 ((a + 4 : Nat) : Int), .int .i64 2, .nilIface]) ∧ RowU w' db (P ++ [(d0 * 262144 + d1 * 4096 + d2 * 64 + 0) / 65536, (d0 * 262144 + d1 * 4096 + d2 * 64 + 0) / 256 % 256, 0]) ∧ Below db w w' := by
  go_enter Try.func41, Try.ntmps41
  go_upto_region 3 with fail
  obtain ⟨w0, hw0⟩ : ∃ w0, w0 = w.alloc (.cells #[.int .u8 0, .int .u8 0, .int .u8 0, .int .u8 0] 73) := ⟨_, rfl⟩
  obtain ⟨qb, hqb⟩ : ∃ b, b = w.heap.size := ⟨_, rfl⟩
  rw [← hw0, ← hqb]
  have HQ0 : Hid (RowQ w0 qb [0, 0, 0, 0]) := Lib.hid (by unfold RowQ; rw [hw0, hqb]; exact heap_alloc_new w _)
  have HB0 : Hid (Below qb w w0) := Lib.hid (by rw [hw0, hqb]; exact (Below.refl _ _).alloc (Nat.le_refl _) _)
  have HLT : Hid (eb < qb ∧ sb < qb ∧ db < qb ∧ eb < db) := Lib.hid (by rw [hqb]; exact ⟨hE.lt, hsw, hD.lt, he⟩)
  have HE := Lib.hid hE
  have HD := Lib.hid hD
  have HS := Lib.hid (And.intro hs0 (And.intro hs1 (And.intro hs2 hs3)))
  have HP := Lib.hid hP
  have HM0 := Lib.hid ((hE.below HB0.out HLT.out.1).map)
  have HZ := Lib.hid (And.intro hw0 hqb)
  clear he hw0 hqb hE hD hs0 hs1 hs2 hs3 hsw hP
  go_wp2_with (refine wpList_load_mid rfl 54 (.tmp 19) rfl eb 64 rfl (mapC (mAt 64)) _ HM0.out Try.underlying54 rfl (by rw [mapC_len]; kernel_rfl) ?_)
  clear HM0
  go_simp
  refine wp_loop_rounds 5 ?_
  rw [rounds_succ]
  have cS : w0.cell? ⟨sb, a, none⟩ = some (.int .u8 (sgn d0 : Int)) := (HB0.out.cell (p := ⟨sb, a, none⟩) HLT.out.2.1).trans HS.out.1
  have y1 : ((a : Int) + 4 == (a : Int)) = false := by simp <;> omega
  have y2 : ((a : Int) < (a : Int) + 4) = True := eq_true (by omega)
  have cM : w0.cell? ⟨eb, 64 + sgn d0, none⟩ = some (.int .u8 (d0 : Int)) := by rw [(HE.out.below HB0.out HLT.out.1).cell]; exact cellsOf_map _ _ _ (map_sgn d0 h0)
  have cQ : w0.cell? ⟨qb, 0, none⟩ = some (.int .u8 (0 : Nat)) := HQ0.out.cell _ _ rfl
  have fQ : w0.frozen? ⟨qb, 0, none⟩ = false := HQ0.out.free _
  have x1 : (d0 == 255) = false := by simp <;> omega
  have x2 : ((d0 : Int) == 255) = false := by simp <;> omega
  have x3 : (sgn d0 : Int) < 256 := by have := sgn_lt d0 h0; omega
  go_wp2_with fail
  obtain ⟨w1, hW_⟩ : ∃ W_, W_ = w0.setCell ⟨qb, 0, none⟩ (.int .u8 (d0 : Int)) := ⟨_, rfl⟩
  rw [← hW_]
  have HQ1 : Hid (RowQ w1 qb [d0, 0, 0, 0]) := Lib.hid (by rw [hW_]; exact HQ0.out.store 0 d0)
  have HB1 : Hid (Below qb w w1) := Lib.hid (by rw [hW_]; exact HB0.out.setCell (p := ⟨qb, 0, none⟩) (Nat.le_refl qb) _)
  clear hW_ cS cM cQ fQ x1 x2 x3 y1 y2
  rw [rounds_succ]
  have cS : w1.cell? ⟨sb, a + 1, none⟩ = some (.int .u8 (sgn d1 : Int)) := (HB1.out.cell (p := ⟨sb, a + 1, none⟩) HLT.out.2.1).trans HS.out.2.1
  have y1 : ((a : Int) + 4 == (a : Int) + 1) = false := by simp <;> omega
  have y2 : ((a : Int) + 1 < (a : Int) + 4) = True := eq_true (by omega)
  have cM : w1.cell? ⟨eb, 64 + sgn d1, none⟩ = some (.int .u8 (d1 : Int)) := by rw [(HE.out.below HB1.out HLT.out.1).cell]; exact cellsOf_map _ _ _ (map_sgn d1 h1)
  have cQ : w1.cell? ⟨qb, 1, none⟩ = some (.int .u8 (0 : Nat)) := HQ1.out.cell _ _ rfl
  have fQ : w1.frozen? ⟨qb, 1, none⟩ = false := HQ1.out.free _
  have x1 : (d1 == 255) = false := by simp <;> omega
  have x2 : ((d1 : Int) == 255) = false := by simp <;> omega
  have x3 : (sgn d1 : Int) < 256 := by have := sgn_lt d1 h1; omega
  go_wp2_with fail
  obtain ⟨w2, hW_⟩ : ∃ W_, W_ = w1.setCell ⟨qb, 1, none⟩ (.int .u8 (d1 : Int)) := ⟨_, rfl⟩
  rw [← hW_]
  have HQ2 : Hid (RowQ w2 qb [d0, d1, 0, 0]) := Lib.hid (by rw [hW_]; exact HQ1.out.store 1 d1)
  have HB2 : Hid (Below qb w w2) := Lib.hid (by rw [hW_]; exact HB1.out.setCell (p := ⟨qb, 1, none⟩) (Nat.le_refl qb) _)
  clear hW_ cS cM cQ fQ x1 x2 x3 y1 y2
  rw [rounds_succ]
  have cS : w2.cell? ⟨sb, a + 2, none⟩ = some (.int .u8 (sgn d2 : Int)) := (HB2.out.cell (p := ⟨sb, a + 2, none⟩) HLT.out.2.1).trans HS.out.2.2.1
  have y1 : ((a : Int) + 4 == (a : Int) + 2) = false := by simp <;> omega
  have y2 : ((a : Int) + 2 < (a : Int) + 4) = True := eq_true (by omega)
  have cM : w2.cell? ⟨eb, 64 + sgn d2, none⟩ = some (.int .u8 (d2 : Int)) := by rw [(HE.out.below HB2.out HLT.out.1).cell]; exact cellsOf_map _ _ _ (map_sgn d2 h2)
  have cQ : w2.cell? ⟨qb, 2, none⟩ = some (.int .u8 (0 : Nat)) := HQ2.out.cell _ _ rfl
  have fQ : w2.frozen? ⟨qb, 2, none⟩ = false := HQ2.out.free _
  have x1 : (d2 == 255) = false := by simp <;> omega
  have x2 : ((d2 : Int) == 255) = false := by simp <;> omega
  have x3 : (sgn d2 : Int) < 256 := by have := sgn_lt d2 h2; omega
  go_wp2_with fail
  obtain ⟨w3, hW_⟩ : ∃ W_, W_ = w2.setCell ⟨qb, 2, none⟩ (.int .u8 (d2 : Int)) := ⟨_, rfl⟩
  rw [← hW_]
  have HQ3 : Hid (RowQ w3 qb [d0, d1, d2, 0]) := Lib.hid (by rw [hW_]; exact HQ2.out.store 2 d2)
  have HB3 : Hid (Below qb w w3) := Lib.hid (by rw [hW_]; exact HB2.out.setCell (p := ⟨qb, 2, none⟩) (Nat.le_refl qb) _)
  clear hW_ cS cM cQ fQ x1 x2 x3 y1 y2
  rw [rounds_succ]
  have cS : w3.cell? ⟨sb, a + 3, none⟩ = some (.int .u8 ((61 : Nat) : Int)) := (HB3.out.cell (p := ⟨sb, a + 3, none⟩) HLT.out.2.1).trans HS.out.2.2.2
  have y1 : ((a : Int) + 4 == (a : Int) + 3) = false := by simp <;> omega
  have y2 : ((a : Int) + 3 < (a : Int) + 4) = True := eq_true (by omega)
  have cM : w3.cell? ⟨eb, 125, none⟩ = some (.int .u8 255) := by rw [(HE.out.below HB3.out HLT.out.1).cell]; exact cellsOf_map _ _ _ map_pad
  have cP : w3.cell? ⟨eb, 320, none⟩ = some (.int .i32 61) := (HE.out.below HB3.out HLT.out.1).pad
  have y3 : ((a : Int) + 1 + 1 + 1 + 1 < (a : Int) + 4) = False := eq_false (by omega)
  have y4 : ((a : Int) + 4 < (a : Int) + 4) = False := eq_false (by omega)
  go_wp2_with fail
  refine wp_loop_rounds 1 ?_
  rw [rounds_succ]
  clear cS cM cP
  have cQ0 : w3.cell? ⟨qb, 0, none⟩ = some (.int .u8 (d0 : Int)) := HQ3.out.cell _ _ rfl
  have fQ0 : w3.frozen? ⟨qb, 0, none⟩ = false := HQ3.out.free _
  have cQ1 : w3.cell? ⟨qb, 1, none⟩ = some (.int .u8 (d1 : Int)) := HQ3.out.cell _ _ rfl
  have fQ1 : w3.frozen? ⟨qb, 1, none⟩ = false := HQ3.out.free _
  have cQ2 : w3.cell? ⟨qb, 2, none⟩ = some (.int .u8 (d2 : Int)) := HQ3.out.cell _ _ rfl
  have fQ2 : w3.frozen? ⟨qb, 2, none⟩ = false := HQ3.out.free _
  have cQ3 : w3.cell? ⟨qb, 3, none⟩ = some (.int .u8 ((0 : Nat) : Int)) := HQ3.out.cell _ _ rfl
  have fQ3 : w3.frozen? ⟨qb, 3, none⟩ = false := HQ3.out.free _
  go_upto_region 41 with fail
  rw [show bits BinOp.or IntKind.u64 (bits BinOp.or IntKind.u64 (bits BinOp.or IntKind.u64 ((d0 : Int) * 262144) ((d1 : Int) * 4096)) ((d2 : Int) * 64)) 0 = ((d0 * 262144 + d1 * 4096 + d2 * 64 + 0 : Nat) : Int) from or4 d0 d1 d2 0 h0 h1 h2 (by decide)]
  obtain ⟨v, hv⟩ : ∃ v, v = d0 * 262144 + d1 * 4096 + d2 * 64 + 0 := ⟨_, rfl⟩
  have hvl : v < 16777216 := by omega
  rw [← hv]
  obtain ⟨c2, hc2⟩ : ∃ c, c = v % 256 := ⟨_, rfl⟩
  obtain ⟨c1, hc1⟩ : ∃ c, c = v / 256 % 256 := ⟨_, rfl⟩
  obtain ⟨c0, hc0⟩ : ∃ c, c = v / 65536 := ⟨_, rfl⟩
  have e2 : IntKind.u8.wrap (v : Int) = (c2 : Int) := by show (v : Int) % (2 ^ 8 : Int) = c2; omega
  have e1 : IntKind.u8.wrap ((v : Int) / 256) = (c1 : Int) := by show ((v : Int) / 256) % (2 ^ 8 : Int) = c1; omega
  have e0 : IntKind.u8.wrap ((v : Int) / 65536) = (c0 : Int) := by show ((v : Int) / 65536) % (2 ^ 8 : Int) = c0; omega
  have e2' : (v : Int) % 256 = (c2 : Int) := by omega
  have e1' : (v : Int) / 256 % 256 = (c1 : Int) := by omega
  have e0' : (v : Int) / 65536 = (c0 : Int) := by omega
  have HV := Lib.hid (And.intro hv (And.intro hc0 (And.intro hc1 hc2)))
  clear hv hc0 hc1 hc2
  go_upto_region 42 with fail
  obtain ⟨w5, hW_⟩ : ∃ W_, W_ = ((w3.setCell ⟨qb, 2, none⟩ (.int .u8 (c2 : Int))).setCell ⟨qb, 1, none⟩ (.int .u8 (c1 : Int))).setCell ⟨qb, 0, none⟩ (.int .u8 (c0 : Int)) := ⟨_, rfl⟩
  rw [← hW_]
  have HQ5 : Hid (RowQ w5 qb [c0, c1, c2, 0]) := Lib.hid (by rw [hW_]; exact ((HQ3.out.store 2 c2).store 1 c1).store 0 c0)
  have HB5 : Hid (Below qb w w5) := Lib.hid (by rw [hW_]; exact ((HB3.out.setCell (p := ⟨qb, 2, none⟩) (Nat.le_refl qb) _).setCell (p := ⟨qb, 1, none⟩) (Nat.le_refl qb) _).setCell (p := ⟨qb, 0, none⟩) (Nat.le_refl qb) _)
  have HD5 : Hid (RowU w5 db (P ++ [0, 0, 0])) := Lib.hid (HD.out.below HB5.out HLT.out.2.2.1)
  have HX5 : Hid (Below db w w5) := Lib.hid (HB5.out.mono (Nat.le_of_lt HLT.out.2.2.1))
  clear hW_ cQ0 cQ1 cQ2 cQ3 fQ0 fQ1 fQ2 fQ3 e0 e1 e2 e0' e1' e2' HQ3 HB3 HB5
  have cQ : w5.cell? ⟨qb, 1, none⟩ = some (.int .u8 (c1 : Int)) := HQ5.out.cell _ _ rfl
  have cD : w5.cell? ⟨db, n + 1, none⟩ = some (.int .u8 (0 : Nat)) := HD5.out.cell _ _ (by rw [List.getElem?_append_right (by rw [HP.out]; omega), HP.out, show n + 1 - n = 1 by omega]; rfl)
  have fD : w5.frozen? ⟨db, n + 1, none⟩ = false := HD5.out.free _
  have hWW : ∀ v_, (w5.setCell ⟨db, n + 1, none⟩ v_).cell? ⟨eb, 321, none⟩ = some (.bool false) := fun v_ => ((HE.out.below HX5.out HLT.out.2.2.2).other (by have := HLT.out.2.2.2; omega) _ v_).strict
  go_upto_region 51 with fail
  obtain ⟨w6, hW_⟩ : ∃ W_, W_ = w5.setCell ⟨db, n + 1, none⟩ (.int .u8 (c1 : Int)) := ⟨_, rfl⟩
  rw [← hW_]
  have HD6 : Hid (RowU w6 db (P ++ [0, c1, 0])) := Lib.hid (by
    have h_ := HD5.out.store (n + 1) c1
    rw [setp_1 HP.out] at h_
    rw [hW_]; exact h_)
  have HQ6 : Hid (RowQ w6 qb [c0, c1, c2, 0]) := Lib.hid (by rw [hW_]; exact HQ5.out.other (by have := HLT.out.2.2.1; omega) _ _)
  have HX6 : Hid (Below db w w6) := Lib.hid (by rw [hW_]; exact HX5.out.setCell (p := ⟨db, n + 1, none⟩) (Nat.le_refl db) _)
  clear hW_ cQ cD fD hWW HD5 HQ5 HX5
  have cQ : w6.cell? ⟨qb, 1, none⟩ = some (.int .u8 (c1 : Int)) := HQ6.out.cell _ _ rfl
  have fQ : w6.frozen? ⟨qb, 1, none⟩ = false := HQ6.out.free _
  go_upto_region 52 with fail
  obtain ⟨w7, hW_⟩ : ∃ W_, W_ = w6.setCell ⟨qb, 1, none⟩ (.int .u8 0) := ⟨_, rfl⟩
  rw [← hW_]
  have HQ7 : Hid (RowQ w7 qb [c0, 0, c2, 0]) := Lib.hid (by rw [hW_]; exact HQ6.out.store 1 0)
  have HD7 : Hid (RowU w7 db (P ++ [0, c1, 0])) := Lib.hid (by rw [hW_]; exact HD6.out.other (by have := HLT.out.2.2.1; omega) _ _)
  have HX7 : Hid (Below db w w7) := Lib.hid (by rw [hW_]; exact HX6.out.setCell (p := ⟨qb, 1, none⟩) (Nat.le_of_lt HLT.out.2.2.1) _)
  clear hW_ cQ fQ HD6 HQ6 HX6
  have cQ : w7.cell? ⟨qb, 0, none⟩ = some (.int .u8 (c0 : Int)) := HQ7.out.cell _ _ rfl
  have cD : w7.cell? ⟨db, n, none⟩ = some (.int .u8 (0 : Nat)) := HD7.out.cell _ _ (by rw [List.getElem?_append_right (by rw [HP.out]; omega), HP.out, show n - n = 0 by omega]; rfl)
  have fD : w7.frozen? ⟨db, n, none⟩ = false := HD7.out.free _
  have hWW : ∀ v_, (w7.setCell ⟨db, n, none⟩ v_).cell? ⟨eb, 321, none⟩ = some (.bool false) := fun v_ => ((HE.out.below HX7.out HLT.out.2.2.2).other (by have := HLT.out.2.2.2; omega) _ v_).strict
  go_wp2_with fail
  obtain ⟨w8, hW_⟩ : ∃ W_, W_ = w7.setCell ⟨db, n, none⟩ (.int .u8 (c0 : Int)) := ⟨_, rfl⟩
  rw [← hW_]
  have HD8 : Hid (RowU w8 db (P ++ [c0, c1, 0])) := Lib.hid (by
    have h_ := HD7.out.store (n) c0
    rw [setp_0 HP.out] at h_
    rw [hW_]; exact h_)
  have HQ8 : Hid (RowQ w8 qb [c0, 0, c2, 0]) := Lib.hid (by rw [hW_]; exact HQ7.out.other (by have := HLT.out.2.2.1; omega) _ _)
  have HX8 : Hid (Below db w w8) := Lib.hid (by rw [hW_]; exact HX7.out.setCell (p := ⟨db, n, none⟩) (Nat.le_refl db) _)
  clear hW_ cQ cD fD hWW HD7 HQ7 HX7
  go_ret3
  refine ⟨by simp <;> omega, ?_, HX8.out⟩
  have h_ := HD8.out
  obtain ⟨f1, f2, f3, f4⟩ := HV.out
  rw [f2, f3, f1] at h_
  exact h_
set_option maxHeartbeats 8000000 in
theorem quantum2 (eb sb db a n cp : Nat) (P : List Nat) (d0 d1 : Nat) (h0 : d0 < 64) (h1 : d1 < 64) (ha : a ≤ 100000) (hP : P.length = n) (w : World) (hE : EncOf w eb (mAt 64)) (hD : RowU w db (P ++ [0, 0, 0])) (hsw : sb < w.heap.size) (hcp : a + 4 ≤ cp) (he : eb < db)
    (hs0 : w.cell? ⟨sb, a + 0, none⟩ = some (.int .u8 (sgn d0 : Int))) (hs1 : w.cell? ⟨sb, a + 1, none⟩ = some (.int .u8 (sgn d1 : Int))) (hs2 : w.cell? ⟨sb, a + 2, none⟩ = some (.int .u8 ((61 : Nat) : Int))) (hs3 : w.cell? ⟨sb, a + 3, none⟩ = some (.int .u8 ((61 : Nat) : Int))):
    Calls Try.prog 41 #[.pointer (some ⟨eb, 0, none⟩), .slice (some ⟨db, n, none⟩) 3 3, .slice (some ⟨sb, 0, none⟩) (a + 4) cp, .int .i64 (a : Int)] w fun e w' => e = .returned (.tuple #[.int .i64 ((a + 4 : Nat) : Int), .int .i64 1, .nilIface]) ∧ RowU w' db (P ++ [(d0 * 262144 + d1 * 4096 + 0 * 64 + 0) / 65536, 0, 0]) ∧ Below db w w' := by
  go_enter Try.func41, Try.ntmps41
  go_upto_region 3 with fail
  obtain ⟨w0, hw0⟩ : ∃ w0, w0 = w.alloc (.cells #[.int .u8 0, .int .u8 0, .int .u8 0, .int .u8 0] 73) := ⟨_, rfl⟩
  obtain ⟨qb, hqb⟩ : ∃ b, b = w.heap.size := ⟨_, rfl⟩
  rw [← hw0, ← hqb]
  have HQ0 : Hid (RowQ w0 qb [0, 0, 0, 0]) := Lib.hid (by unfold RowQ; rw [hw0, hqb]; exact heap_alloc_new w _)
  have HB0 : Hid (Below qb w w0) := Lib.hid (by rw [hw0, hqb]; exact (Below.refl _ _).alloc (Nat.le_refl _) _)
  have HLT : Hid (eb < qb ∧ sb < qb ∧ db < qb ∧ eb < db) := Lib.hid (by rw [hqb]; exact ⟨hE.lt, hsw, hD.lt, he⟩)
  have HE := Lib.hid hE
  have HD := Lib.hid hD
  have HS := Lib.hid (And.intro hs0 (And.intro hs1 (And.intro hs2 hs3)))
  have HP := Lib.hid hP
  have HM0 := Lib.hid ((hE.below HB0.out HLT.out.1).map)
  have HZ := Lib.hid (And.intro hw0 hqb)
  clear he hw0 hqb hE hD hs0 hs1 hs2 hs3 hsw hP
  go_wp2_with (refine wpList_load_mid rfl 54 (.tmp 19) rfl eb 64 rfl (mapC (mAt 64)) _ HM0.out Try.underlying54 rfl (by rw [mapC_len]; kernel_rfl) ?_)
  clear HM0
  go_simp
  refine wp_loop_rounds 5 ?_
  rw [rounds_succ]
  have cS : w0.cell? ⟨sb, a, none⟩ = some (.int .u8 (sgn d0 : Int)) := (HB0.out.cell (p := ⟨sb, a, none⟩) HLT.out.2.1).trans HS.out.1
  have y1 : ((a : Int) + 4 == (a : Int)) = false := by simp <;> omega
  have y2 : ((a : Int) < (a : Int) + 4) = True := eq_true (by omega)
  have cM : w0.cell? ⟨eb, 64 + sgn d0, none⟩ = some (.int .u8 (d0 : Int)) := by rw [(HE.out.below HB0.out HLT.out.1).cell]; exact cellsOf_map _ _ _ (map_sgn d0 h0)
  have cQ : w0.cell? ⟨qb, 0, none⟩ = some (.int .u8 (0 : Nat)) := HQ0.out.cell _ _ rfl
  have fQ : w0.frozen? ⟨qb, 0, none⟩ = false := HQ0.out.free _
  have x1 : (d0 == 255) = false := by simp <;> omega
  have x2 : ((d0 : Int) == 255) = false := by simp <;> omega
  have x3 : (sgn d0 : Int) < 256 := by have := sgn_lt d0 h0; omega
  go_wp2_with fail
  obtain ⟨w1, hW_⟩ : ∃ W_, W_ = w0.setCell ⟨qb, 0, none⟩ (.int .u8 (d0 : Int)) := ⟨_, rfl⟩
  rw [← hW_]
  have HQ1 : Hid (RowQ w1 qb [d0, 0, 0, 0]) := Lib.hid (by rw [hW_]; exact HQ0.out.store 0 d0)
  have HB1 : Hid (Below qb w w1) := Lib.hid (by rw [hW_]; exact HB0.out.setCell (p := ⟨qb, 0, none⟩) (Nat.le_refl qb) _)
  clear hW_ cS cM cQ fQ x1 x2 x3 y1 y2
  rw [rounds_succ]
  have cS : w1.cell? ⟨sb, a + 1, none⟩ = some (.int .u8 (sgn d1 : Int)) := (HB1.out.cell (p := ⟨sb, a + 1, none⟩) HLT.out.2.1).trans HS.out.2.1
  have y1 : ((a : Int) + 4 == (a : Int) + 1) = false := by simp <;> omega
  have y2 : ((a : Int) + 1 < (a : Int) + 4) = True := eq_true (by omega)
  have cM : w1.cell? ⟨eb, 64 + sgn d1, none⟩ = some (.int .u8 (d1 : Int)) := by rw [(HE.out.below HB1.out HLT.out.1).cell]; exact cellsOf_map _ _ _ (map_sgn d1 h1)
  have cQ : w1.cell? ⟨qb, 1, none⟩ = some (.int .u8 (0 : Nat)) := HQ1.out.cell _ _ rfl
  have fQ : w1.frozen? ⟨qb, 1, none⟩ = false := HQ1.out.free _
  have x1 : (d1 == 255) = false := by simp <;> omega
  have x2 : ((d1 : Int) == 255) = false := by simp <;> omega
  have x3 : (sgn d1 : Int) < 256 := by have := sgn_lt d1 h1; omega
  go_wp2_with fail
  obtain ⟨w2, hW_⟩ : ∃ W_, W_ = w1.setCell ⟨qb, 1, none⟩ (.int .u8 (d1 : Int)) := ⟨_, rfl⟩
  rw [← hW_]
  have HQ2 : Hid (RowQ w2 qb [d0, d1, 0, 0]) := Lib.hid (by rw [hW_]; exact HQ1.out.store 1 d1)
  have HB2 : Hid (Below qb w w2) := Lib.hid (by rw [hW_]; exact HB1.out.setCell (p := ⟨qb, 1, none⟩) (Nat.le_refl qb) _)
  clear hW_ cS cM cQ fQ x1 x2 x3 y1 y2
  rw [rounds_succ]
  have cS : w2.cell? ⟨sb, a + 2, none⟩ = some (.int .u8 ((61 : Nat) : Int)) := (HB2.out.cell (p := ⟨sb, a + 2, none⟩) HLT.out.2.1).trans HS.out.2.2.1
  have y1 : ((a : Int) + 4 == (a : Int) + 2) = false := by simp <;> omega
  have y2 : ((a : Int) + 2 < (a : Int) + 4) = True := eq_true (by omega)
  have cM : w2.cell? ⟨eb, 125, none⟩ = some (.int .u8 255) := by rw [(HE.out.below HB2.out HLT.out.1).cell]; exact cellsOf_map _ _ _ map_pad
  have cP : w2.cell? ⟨eb, 320, none⟩ = some (.int .i32 61) := (HE.out.below HB2.out HLT.out.1).pad
  have y3 : ((a : Int) + 1 + 1 + 1 + 1 < (a : Int) + 4) = False := eq_false (by omega)
  have y4 : ((a : Int) + 4 < (a : Int) + 4) = False := eq_false (by omega)
  have cS3 : w2.cell? ⟨sb, a + 3, none⟩ = some (.int .u8 ((61 : Nat) : Int)) := (HB2.out.cell (p := ⟨sb, a + 3, none⟩) HLT.out.2.1).trans HS.out.2.2.2
  have y5 : ((a : Int) + 1 + 1 + 1 < (a : Int) + 4) = True := eq_true (by omega)
  have y6 : ((a : Int) + 1 + 1 + 1 == (a : Int) + 4) = false := by simp <;> omega
  go_wp2_with fail
  refine wp_loop_rounds 1 ?_
  rw [rounds_succ]
  have k3 : ∀ q : Vals.Near w2.heap.size w2, q.W.cell? ⟨sb, a + 3, none⟩ = some (.int .u8 ((61 : Nat) : Int)) := fun q => q.cell (Nat.lt_of_lt_of_le HLT.out.2.1 (by have := HQ2.out; exact Nat.le_of_lt (Array.getElem?_eq_some_iff.1 this).1)) cS3
  have kP : ∀ q : Vals.Near w2.heap.size w2, q.W.cell? ⟨eb, 320, none⟩ = some (.int .i32 61) := fun q => q.cell (Nat.lt_of_lt_of_le HLT.out.1 (by have := HQ2.out; exact Nat.le_of_lt (Array.getElem?_eq_some_iff.1 this).1)) cP
  go_upto_region 32 with fail
  refine Vals.wp_region_near w2.heap.size w2 (by kernel_rfl) (by kernel_rfl) (Below.refl _ _) ?_
  repeat (go_big_quiet_step (fail))
  refine wpQuiet_nil ?_
  intro wm hw'
  obtain ⟨q_, hx_⟩ := hw'
  have hb_ : Below w2.heap.size w2 wm := by rw [hx_]; exact q_.h
  have hlt_ : qb < w2.heap.size := by have := HQ2.out; exact (Array.getElem?_eq_some_iff.1 this).1
  have HQm : Hid (RowQ wm qb [d0, d1, 0, 0]) := Lib.hid ((hb_.block _ hlt_).trans HQ2.out)
  have HBm : Hid (Below qb w wm) := Lib.hid (HB2.out.trans (hb_.mono (Nat.le_of_lt hlt_)))
  clear hx_ hb_ hlt_ k3 kP cS cS3 cM cP HQ2 HB2
  go_wp2_with fail
  refine wp_loop_rounds 1 ?_
  rw [rounds_succ]
  have cQ0 : wm.cell? ⟨qb, 0, none⟩ = some (.int .u8 (d0 : Int)) := HQm.out.cell _ _ rfl
  have fQ0 : wm.frozen? ⟨qb, 0, none⟩ = false := HQm.out.free _
  have cQ1 : wm.cell? ⟨qb, 1, none⟩ = some (.int .u8 (d1 : Int)) := HQm.out.cell _ _ rfl
  have fQ1 : wm.frozen? ⟨qb, 1, none⟩ = false := HQm.out.free _
  have cQ2 : wm.cell? ⟨qb, 2, none⟩ = some (.int .u8 ((0 : Nat) : Int)) := HQm.out.cell _ _ rfl
  have fQ2 : wm.frozen? ⟨qb, 2, none⟩ = false := HQm.out.free _
  have cQ3 : wm.cell? ⟨qb, 3, none⟩ = some (.int .u8 ((0 : Nat) : Int)) := HQm.out.cell _ _ rfl
  have fQ3 : wm.frozen? ⟨qb, 3, none⟩ = false := HQm.out.free _
  go_upto_region 41 with fail
  rw [show bits BinOp.or IntKind.u64 (bits BinOp.or IntKind.u64 (bits BinOp.or IntKind.u64 ((d0 : Int) * 262144) ((d1 : Int) * 4096)) 0) 0 = ((d0 * 262144 + d1 * 4096 + 0 * 64 + 0 : Nat) : Int) from or4 d0 d1 0 0 h0 h1 (by decide) (by decide)]
  obtain ⟨v, hv⟩ : ∃ v, v = d0 * 262144 + d1 * 4096 + 0 * 64 + 0 := ⟨_, rfl⟩
  have hvl : v < 16777216 := by omega
  rw [← hv]
  obtain ⟨c2, hc2⟩ : ∃ c, c = v % 256 := ⟨_, rfl⟩
  obtain ⟨c1, hc1⟩ : ∃ c, c = v / 256 % 256 := ⟨_, rfl⟩
  obtain ⟨c0, hc0⟩ : ∃ c, c = v / 65536 := ⟨_, rfl⟩
  have e2 : IntKind.u8.wrap (v : Int) = (c2 : Int) := by show (v : Int) % (2 ^ 8 : Int) = c2; omega
  have e1 : IntKind.u8.wrap ((v : Int) / 256) = (c1 : Int) := by show ((v : Int) / 256) % (2 ^ 8 : Int) = c1; omega
  have e0 : IntKind.u8.wrap ((v : Int) / 65536) = (c0 : Int) := by show ((v : Int) / 65536) % (2 ^ 8 : Int) = c0; omega
  have e2' : (v : Int) % 256 = (c2 : Int) := by omega
  have e1' : (v : Int) / 256 % 256 = (c1 : Int) := by omega
  have e0' : (v : Int) / 65536 = (c0 : Int) := by omega
  have HV := Lib.hid (And.intro hv (And.intro hc0 (And.intro hc1 hc2)))
  clear hv hc0 hc1 hc2
  go_upto_region 42 with fail
  obtain ⟨w5, hW_⟩ : ∃ W_, W_ = ((wm.setCell ⟨qb, 2, none⟩ (.int .u8 (c2 : Int))).setCell ⟨qb, 1, none⟩ (.int .u8 (c1 : Int))).setCell ⟨qb, 0, none⟩ (.int .u8 (c0 : Int)) := ⟨_, rfl⟩
  rw [← hW_]
  have HQ5 : Hid (RowQ w5 qb [c0, c1, c2, 0]) := Lib.hid (by rw [hW_]; exact ((HQm.out.store 2 c2).store 1 c1).store 0 c0)
  have HB5 : Hid (Below qb w w5) := Lib.hid (by rw [hW_]; exact ((HBm.out.setCell (p := ⟨qb, 2, none⟩) (Nat.le_refl qb) _).setCell (p := ⟨qb, 1, none⟩) (Nat.le_refl qb) _).setCell (p := ⟨qb, 0, none⟩) (Nat.le_refl qb) _)
  have HD5 : Hid (RowU w5 db (P ++ [0, 0, 0])) := Lib.hid (HD.out.below HB5.out HLT.out.2.2.1)
  have HX5 : Hid (Below db w w5) := Lib.hid (HB5.out.mono (Nat.le_of_lt HLT.out.2.2.1))
  clear hW_ cQ0 cQ1 cQ2 cQ3 fQ0 fQ1 fQ2 fQ3 e0 e1 e2 e0' e1' e2' HQm HBm HB5
  have cQ : w5.cell? ⟨qb, 0, none⟩ = some (.int .u8 (c0 : Int)) := HQ5.out.cell _ _ rfl
  have cD : w5.cell? ⟨db, n, none⟩ = some (.int .u8 (0 : Nat)) := HD5.out.cell _ _ (by rw [List.getElem?_append_right (by rw [HP.out]; omega), HP.out, show n - n = 0 by omega]; rfl)
  have fD : w5.frozen? ⟨db, n, none⟩ = false := HD5.out.free _
  have hWW : ∀ v_, (w5.setCell ⟨db, n, none⟩ v_).cell? ⟨eb, 321, none⟩ = some (.bool false) := fun v_ => ((HE.out.below HX5.out HLT.out.2.2.2).other (by have := HLT.out.2.2.2; omega) _ v_).strict
  go_wp2_with fail
  obtain ⟨w6, hW_⟩ : ∃ W_, W_ = w5.setCell ⟨db, n, none⟩ (.int .u8 (c0 : Int)) := ⟨_, rfl⟩
  rw [← hW_]
  have HD6 : Hid (RowU w6 db (P ++ [c0, 0, 0])) := Lib.hid (by
    have h_ := HD5.out.store (n) c0
    rw [setp_0 HP.out] at h_
    rw [hW_]; exact h_)
  have HQ6 : Hid (RowQ w6 qb [c0, c1, c2, 0]) := Lib.hid (by rw [hW_]; exact HQ5.out.other (by have := HLT.out.2.2.1; omega) _ _)
  have HX6 : Hid (Below db w w6) := Lib.hid (by rw [hW_]; exact HX5.out.setCell (p := ⟨db, n, none⟩) (Nat.le_refl db) _)
  clear hW_ cQ cD fD hWW HD5 HQ5 HX5
  go_ret3
  refine ⟨by simp <;> omega, ?_, HX6.out⟩
  have h_ := HD6.out
  obtain ⟨f1, f2, f3, f4⟩ := HV.out
  rw [f2, f1] at h_
  exact h_
end Go.Proofs.Ytoaalpkeepjhmaa.B6
