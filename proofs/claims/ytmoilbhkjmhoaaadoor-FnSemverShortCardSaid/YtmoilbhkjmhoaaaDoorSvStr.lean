/- Semantic versions: a version as it is written; impl.SemverText. -/
import Derived.Test.YtmoilbhkjmhoaaaDoorSvTx
namespace Go.Proofs.YtmoilbhkjmhoaaaDoor.Sv
open Go.RowKit Go.Proofs.YtmoilbhkjmhoaaaDoor.Vals Go.Proofs.YtmoilbhkjmhoaaaDoorW.PrintWords Go.Proofs.YtmoilbhkjmhoaaaDoor.Txt Go.Proofs.YtmoilbhkjmhoaaaDoor.Giv Go.Proofs.YtmoilbhkjmhoaaaDoor
set_option linter.unusedVariables false
set_option linter.unusedSimpArgs false
set_option maxRecDepth 20000

theorem itoa_dec (n : Nat) : itoaB (n : Int) = decB n := by unfold itoaB decB ba; rw [Lib.itoa_nonneg]
set_option maxHeartbeats 1000000 in
theorem string_walk (a m p : Nat) (ha : a < 1000000000) (hm : m < 1000000000) (hp : p < 1000000000) (o : ByteArray) (w : World) (T : Pow10 w) :
    Calls Tryd.prog 23 #[.agg #[.int .u64 (a : Int), .int .u64 (m : Int), .int .u64 (p : Int), .string ⟨#[]⟩, .string ⟨#[]⟩, .string o]] w fun e w' => e = .returned (.string (text3 a m p)) ∧ Below w.heap.size w w' := by
  obtain ⟨w1, hw1⟩ : ∃ w1, w1 = w.alloc (.cells #[.int .u64 (a : Int), .int .u64 (m : Int), .int .u64 (p : Int), .string ⟨#[]⟩, .string ⟨#[]⟩, .string o] 69) := ⟨_, rfl⟩
  have hblk : w1.heap[w.heap.size]? = some (.cells #[.int .u64 (a : Int), .int .u64 (m : Int), .int .u64 (p : Int), .string ⟨#[]⟩, .string ⟨#[]⟩, .string o] 69 (0, 0)) := by rw [hw1]; exact heap_alloc_new w _
  have hlt := blk_lt hblk
  have hb1 : Below w.heap.size w w1 := by rw [hw1]; exact (Below.refl _ _).alloc (Nat.le_refl _) _
  have d0 : ∀ x : Near w1.heap.size w1, x.W.cell? ⟨w.heap.size, 0, none⟩ = some (.int .u64 (a : Int)) := fun x => x.cell hlt (by rw [blk_cell hblk]; rfl)
  have d1 : ∀ x : Near w1.heap.size w1, x.W.cell? ⟨w.heap.size, 1, none⟩ = some (.int .u64 (m : Int)) := fun x => x.cell hlt (by rw [blk_cell hblk]; rfl)
  have d2 : ∀ x : Near w1.heap.size w1, x.W.cell? ⟨w.heap.size, 2, none⟩ = some (.int .u64 (p : Int)) := fun x => x.cell hlt (by rw [blk_cell hblk]; rfl)
  have HC : ∀ n : Nat, n < 1000000000 → Hid (∀ x : Near w1.heap.size w1, Calls Tryd.prog 31 #[.int .u64 (n : Int), .int .i64 10] x.W fun e w' => e = .returned (.string (decB n)) ∧ ∃ y : Near w1.heap.size w1, w' = y.W) := fun n hn => Lib.hid fun x =>
    (fmtUint_walk n (by omega) x.W (T.below (hb1.trans (x.h.mono hb1.size)))).mono fun e w' ⟨he, hB⟩ => ⟨by rw [he, itoa_dec], x.of hB (Nat.le_refl _)⟩
  have HA := HC a ha
  have HM := HC m hm
  have HP := HC p hp
  have za := decB_size ha
  have zm := decB_size hm
  have zp := decB_size hp
  have c1 : (9223372036854775807 < (decB a).size + 1) = False := eq_false (by omega)
  have c2 : (9223372036854775807 < (decB a).size + 1 + (decB m).size) = False := eq_false (by omega)
  have c3 : (9223372036854775807 < (decB a).size + 1 + (decB m).size + 1) = False := eq_false (by omega)
  have c4 : (9223372036854775807 < (decB a).size + 1 + (decB m).size + 1 + (decB p).size) = False := eq_false (by omega)
  have HB1 := Lib.hid hb1
  have HBLK := Lib.hid hblk
  clear HC hblk hlt za zm zp T hb1
  go_enter Tryd.func23, Tryd.ntmps23
  go_upto_region 1 with fail
  rw [← hw1]
  clear hw1
  refine wp_region_near w1.heap.size w1 (by kernel_rfl) (by kernel_rfl) (Below.refl _ _) ?_
  iterate 4 (go_big_quiet_step ((exact HA.out _)))
  iterate 4 (go_big_quiet_step ((exact HM.out _)))
  repeat (go_big_quiet_step ((exact HP.out _)))
  refine wpQuiet_nil ?_
  intro W1 hw'
  obtain ⟨x_, hx_⟩ := hw'
  have hW1 : Below w1.heap.size w1 W1 := by rw [hx_]; exact x_.h
  clear hx_
  have HB2 := Lib.hid (HB1.out.trans (hW1.mono HB1.out.size))
  have hb2 := (hW1.block _ (blk_lt HBLK.out)).trans HBLK.out
  have e3 : W1.cell? ⟨w.heap.size, 3, none⟩ = some (.string ⟨#[]⟩) := by rw [blk_cell hb2]; rfl
  have e4 : W1.cell? ⟨w.heap.size, 4, none⟩ = some (.string ⟨#[]⟩) := by rw [blk_cell hb2]; rfl
  clear hW1 hb2 d0 d1 d2
  go_wp2_with fail
  go_ret
  exact ⟨rfl, HB2.out⟩
/-- A version of numbers alone. -/
def numTx (d1 d2 d3 : List UInt8) : Tx := ⟨d1, d2, d3, [], []⟩
theorem numTx_ok {d1 d2 d3 : List UInt8} (h1 : d1 ≠ []) (g1 : d1.all isDig = true) (g2 : d2.all isDig = true) (g3 : d3.all isDig = true) (h : d2 = [] → d3 = []) : (numTx d1 d2 d3).Ok :=
  ⟨h1, g1, g2, g3, h, .inl rfl, .inl rfl⟩
theorem numTx_text (d1 d2 d3 : List UInt8) : (numTx d1 d2 d3).text = d1 ++ (sg 46 d2 ++ sg 46 d3) := by
  unfold numTx Tx.text Tx.pre Tx.meta_; simp [sg, dots]
/-- NewVersion of numbers alone. -/
theorem newNum_walk {d1 d2 d3 : List UInt8} (h : (numTx d1 d2 d3).Ok) (v : ByteArray) (hv : v.toList = d1 ++ (sg 46 d2 ++ sg 46 d3)) (hs : v.size ≤ 256) (a m p : Nat) (U1 : Lib.parseUintB 64 d1 = .ok a) (U2 : NumOf d2 m) (U3 : NumOf d3 p) (w : World) :
    Calls Tryd.prog 22 #[.string v] w (VerRes a m p ⟨#[]⟩ ⟨#[]⟩ v w) :=
  newVersion_walk (numTx d1 d2 d3) h v (by rw [numTx_text]; exact hv) hs a m p U1 U2 U3 (fun hh => absurd rfl hh) (fun hh => absurd rfl hh) w
set_option maxHeartbeats 1000000 in
theorem semverText_walk {d1 d2 d3 : List UInt8} (h : (numTx d1 d2 d3).Ok) (v : ByteArray) (hv : v.toList = d1 ++ (sg 46 d2 ++ sg 46 d3)) (hs : v.size ≤ 256) (a m p : Nat) (U1 : Lib.parseUintB 64 d1 = .ok a) (U2 : NumOf d2 m) (U3 : NumOf d3 p)
    (ha : a < 1000000000) (hm : m < 1000000000) (hp : p < 1000000000) (w : World) (T : Pow10 w) :
    Calls Tryd.prog 10 #[.string v] w fun e w' => e = .returned (.tuple #[.string (text3 a m p), .bool true]) ∧ Below w.heap.size w w' := by
  have HN := Lib.hid (newNum_walk h v hv hs a m p U1 U2 U3 w)
  have HS : Hid (∀ W, Below w.heap.size w W → Calls Tryd.prog 23 #[.agg #[.int .u64 (a : Int), .int .u64 (m : Int), .int .u64 (p : Int), .string ⟨#[]⟩, .string ⟨#[]⟩, .string v]] W fun e w' => e = .returned (.string (text3 a m p)) ∧ Below W.heap.size W w') := Lib.hid fun W hW => string_walk a m p ha hm hp v W (T.below hW)
  clear h hv U1 U2 U3 T
  go_enter Tryd.func10, Tryd.ntmps10
  go_wp2_with fail
  refine HN.out.mono ?_
  rintro e w1 ⟨b, rfl, hb, HV, HB⟩
  have hv := HV.out
  unfold VerIs at hv
  have e0 : w1.cell? ⟨b, 0, none⟩ = some (.int .u64 (a : Int)) := by rw [blk_cell hv]; rfl
  have e1 : w1.cell? ⟨b, 1, none⟩ = some (.int .u64 (m : Int)) := by rw [blk_cell hv]; rfl
  have e2 : w1.cell? ⟨b, 2, none⟩ = some (.int .u64 (p : Int)) := by rw [blk_cell hv]; rfl
  have e3 : w1.cell? ⟨b, 3, none⟩ = some (.string ⟨#[]⟩) := by rw [blk_cell hv]; rfl
  have e4 : w1.cell? ⟨b, 4, none⟩ = some (.string ⟨#[]⟩) := by rw [blk_cell hv]; rfl
  have e5 : w1.cell? ⟨b, 5, none⟩ = some (.string v) := by rw [blk_cell hv]; rfl
  clear hv
  go_wp2_with fail
  refine (HS.out _ HB.out).mono ?_
  rintro e w2 ⟨rfl, hb2⟩
  have HB2 := Lib.hid (HB.out.trans (hb2.mono HB.out.size))
  clear hb2
  go_wp2_with fail
  go_ret2
  exact ⟨rfl, HB2.out⟩
end Go.Proofs.YtmoilbhkjmhoaaaDoor.Sv
