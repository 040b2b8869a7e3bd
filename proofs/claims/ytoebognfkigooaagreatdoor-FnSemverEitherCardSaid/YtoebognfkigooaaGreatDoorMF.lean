/- Semantic versions: the constraint functions at releases. -/
import Derived.Test.YtoebognfkigooaaGreatDoorME
import Derived.Test.YtoebognfkigooaaGreatDoorMC
import Derived.LaidEqlPtr
import Derived.Deep.RegionHeld3
import Derived.Laws.StructEq
namespace Go.Proofs.YtoebognfkigooaaGreatDoor.Sv
open Go.RowKit Go.Proofs.YtoebognfkigooaaGreatDoor.PFnSemverEither Go.Proofs.YtoebognfkigooaaGreatDoorW.PrintWords Go.Proofs.YtoebognfkigooaaGreatDoor.Txt Go.Proofs.YtoebognfkigooaaGreatDoor Go.Proofs.YtoebognfkigooaaGreatDoor.Vals
set_option linter.unusedVariables false
set_option linter.unusedSimpArgs false
set_option maxRecDepth 20000

/-- A release in memory. -/
def VerI (w : World) (b : Nat) (x y z : Int) (o : ByteArray) : Prop := w.heap[b]? = some (.cells #[.int .u64 x, .int .u64 y, .int .u64 z, .string ⟨#[]⟩, .string ⟨#[]⟩, .string o] 62 (0, 0))
/-- A version, a test, and the test's version. -/
def St (w : World) (bv cb vb : Nat) (x y z X Y Z : Int) (md di pd : Bool) (ov oo op ow : ByteArray) : Prop := VerI w bv x y z ov ∧ Six w cb (.pointer (some ⟨vb, 0, none⟩)) (.string oo) (.string op) (.bool md) (.bool di) (.bool pd) ∧ VerI w vb X Y Z ow
theorem St.below {w w' : World} {bv cb vb : Nat} {x y z X Y Z : Int} {md di pd : Bool} {ov oo op ow : ByteArray} (h : St w bv cb vb x y z X Y Z md di pd ov oo op ow) (hb : Below w.heap.size w w') : St w' bv cb vb x y z X Y Z md di pd ov oo op ow :=
  ⟨(hb.block _ (blk_lt h.1)).trans h.1, h.2.1.below hb, (hb.block _ (blk_lt h.2.2)).trans h.2.2⟩
structure StC (C : Addr → Option Value) (bv cb vb : Nat) (x y z X Y Z : Int) (md di pd : Bool) (ov op ow : ByteArray) : Prop where
  v0 : C ⟨bv, 0, none⟩ = some (.int .u64 x)
  v1 : C ⟨bv, 1, none⟩ = some (.int .u64 y)
  v2 : C ⟨bv, 2, none⟩ = some (.int .u64 z)
  v3 : C ⟨bv, 3, none⟩ = some (.string ⟨#[]⟩)
  v4 : C ⟨bv, 4, none⟩ = some (.string ⟨#[]⟩)
  v5 : C ⟨bv, 5, none⟩ = some (.string ov)
  w0 : C ⟨vb, 0, none⟩ = some (.int .u64 X)
  w1 : C ⟨vb, 1, none⟩ = some (.int .u64 Y)
  w2 : C ⟨vb, 2, none⟩ = some (.int .u64 Z)
  w3 : C ⟨vb, 3, none⟩ = some (.string ⟨#[]⟩)
  w4 : C ⟨vb, 4, none⟩ = some (.string ⟨#[]⟩)
  w5 : C ⟨vb, 5, none⟩ = some (.string ow)
  c0 : C ⟨cb, 0, none⟩ = some (.pointer (some ⟨vb, 0, none⟩))
  c2 : C ⟨cb, 2, none⟩ = some (.string op)
  c3 : C ⟨cb, 3, none⟩ = some (.bool md)
  c4 : C ⟨cb, 4, none⟩ = some (.bool di)
  c5 : C ⟨cb, 5, none⟩ = some (.bool pd)
theorem St.cells {w : World} {bv cb vb : Nat} {x y z X Y Z : Int} {md di pd : Bool} {ov oo op ow : ByteArray} (h : St w bv cb vb x y z X Y Z md di pd ov oo op ow) : StC (fun p => w.cell? p) bv cb vb x y z X Y Z md di pd ov op ow := by
  obtain ⟨h1, h2, h3⟩ := h
  unfold VerI at h1 h3
  constructor
  all_goals first
    | (show w.cell? _ = _; rw [blk_cell h1]; rfl)
    | (show w.cell? _ = _; rw [blk_cell h3]; rfl)
    | exact (h2.cell _).1
theorem St.near {w : World} {bv cb vb : Nat} {x y z X Y Z : Int} {md di pd : Bool} {ov oo op ow : ByteArray} (h : St w bv cb vb x y z X Y Z md di pd ov oo op ow) (q : Near w.heap.size w) : StC (fun p => q.W.cell? p) bv cb vb x y z X Y Z md di pd ov op ow := St.cells (h.below q.h)
/-- The cells in every world that is as w was below its end. -/
structure StN (w : World) (bv cb vb : Nat) (x y z X Y Z : Int) (md pd : Bool) (ov ow : ByteArray) : Prop where
  v0 : ∀ q : Near w.heap.size w, q.W.cell? ⟨bv, 0, none⟩ = some (.int .u64 x)
  v1 : ∀ q : Near w.heap.size w, q.W.cell? ⟨bv, 1, none⟩ = some (.int .u64 y)
  v2 : ∀ q : Near w.heap.size w, q.W.cell? ⟨bv, 2, none⟩ = some (.int .u64 z)
  v3 : ∀ q : Near w.heap.size w, q.W.cell? ⟨bv, 3, none⟩ = some (.string ⟨#[]⟩)
  v4 : ∀ q : Near w.heap.size w, q.W.cell? ⟨bv, 4, none⟩ = some (.string ⟨#[]⟩)
  v5 : ∀ q : Near w.heap.size w, q.W.cell? ⟨bv, 5, none⟩ = some (.string ov)
  w0 : ∀ q : Near w.heap.size w, q.W.cell? ⟨vb, 0, none⟩ = some (.int .u64 X)
  w1 : ∀ q : Near w.heap.size w, q.W.cell? ⟨vb, 1, none⟩ = some (.int .u64 Y)
  w2 : ∀ q : Near w.heap.size w, q.W.cell? ⟨vb, 2, none⟩ = some (.int .u64 Z)
  w3 : ∀ q : Near w.heap.size w, q.W.cell? ⟨vb, 3, none⟩ = some (.string ⟨#[]⟩)
  w4 : ∀ q : Near w.heap.size w, q.W.cell? ⟨vb, 4, none⟩ = some (.string ⟨#[]⟩)
  w5 : ∀ q : Near w.heap.size w, q.W.cell? ⟨vb, 5, none⟩ = some (.string ow)
  c0 : ∀ q : Near w.heap.size w, q.W.cell? ⟨cb, 0, none⟩ = some (.pointer (some ⟨vb, 0, none⟩))
  c3 : ∀ q : Near w.heap.size w, q.W.cell? ⟨cb, 3, none⟩ = some (.bool md)
  c5 : ∀ q : Near w.heap.size w, q.W.cell? ⟨cb, 5, none⟩ = some (.bool pd)
theorem St.nears {w : World} {bv cb vb : Nat} {x y z X Y Z : Int} {md di pd : Bool} {ov oo op ow : ByteArray} (h : St w bv cb vb x y z X Y Z md di pd ov oo op ow) : StN w bv cb vb x y z X Y Z md pd ov ow :=
  ⟨fun q => (h.near q).v0, fun q => (h.near q).v1, fun q => (h.near q).v2, fun q => (h.near q).v3, fun q => (h.near q).v4, fun q => (h.near q).v5, fun q => (h.near q).w0, fun q => (h.near q).w1, fun q => (h.near q).w2, fun q => (h.near q).w3, fun q => (h.near q).w4, fun q => (h.near q).w5, fun q => (h.near q).c0, fun q => (h.near q).c3, fun q => (h.near q).c5⟩
/-- A call that makes memory, in every such world. -/
theorem nearC {fn : FuncId} {args : Array Value} {v : Value} (w : World) (H : ∀ W, Calls Tryz.prog fn args W fun e w' => e = .returned v ∧ Below W.heap.size W w') : ∀ q : Near w.heap.size w, Calls Tryz.prog fn args q.W fun e w' => e = .returned v ∧ ∃ y : Near w.heap.size w, w' = y.W :=
  fun q => (H q.W).mono fun e w' ⟨he, hB⟩ => ⟨he, q.of hB (Nat.le_refl _)⟩
/-- Two results of a test: whether, and an error or none. -/
def AskRes (R : Bool) (w : World) (e : Ending) (w' : World) : Prop := ∃ er, e = .returned (.tuple #[.bool R, er]) ∧ Below w.heap.size w w'
theorem err_walk (s : ByteArray) (w : World) : Calls Tryz.prog 21 #[.string s] w fun e w' => ∃ er, e = .returned er ∧ Below w.heap.size w w' := by
  go_enter Tryz.func21, Tryz.ntmps21
  go_wp2_with fail
  go_ret
  exact ⟨_, rfl, (Below.refl _ _).alloc (Nat.le_refl _) _⟩
/-- The order of two releases. -/
def o3 (a m p a' m' p' : Nat) : Int := if cseg a a' ≠ 0 then cseg a a' else if cseg m m' ≠ 0 then cseg m m' else cseg p p'
theorem cmp_rel (b c : Nat) (a m p a' m' p' : Nat) (og og' : ByteArray) (w : World) (hv : VerIs w b a m p ⟨#[]⟩ ⟨#[]⟩ og) (hw : VerIs w c a' m' p' ⟨#[]⟩ ⟨#[]⟩ og') :
    Calls Tryz.prog 86 #[.pointer (some ⟨b, 0, none⟩), .pointer (some ⟨c, 0, none⟩)] w fun e w' => e = .returned (.int .i64 (o3 a m p a' m' p')) ∧ Below w.heap.size w w' := by
  have := compare_walk b c a m p a' m' p' ⟨#[]⟩ ⟨#[]⟩ og ⟨#[]⟩ ⟨#[]⟩ og' w hv hw 0 (fun h => by rw [tl_nil] at h; cases h)
  have e : cmpV a m p a' m' p' ⟨#[]⟩ ⟨#[]⟩ 0 = o3 a m p a' m' p' := by
    have hn : (⟨#[]⟩ : ByteArray).toList.isEmpty = true := by rw [tl_nil]; rfl
    unfold cmpV o3
    by_cases h1 : cseg a a' ≠ 0
    · rw [if_pos h1, if_pos h1]
    · rw [if_neg h1, if_neg h1]
      by_cases h2 : cseg m m' ≠ 0
      · rw [if_pos h2, if_pos h2]
      · rw [if_neg h2, if_neg h2]
        by_cases h3 : cseg p p' ≠ 0
        · rw [if_pos h3]
        · rw [if_neg h3, if_pos ⟨hn, hn⟩]
          exact (Decidable.not_not.1 h3).symm
  rw [e] at this
  exact this
set_option maxHeartbeats 1000000 in
theorem lessThan_walk (b c : Nat) (r : Int) (w : World) (C : Calls Tryz.prog 86 #[.pointer (some ⟨b, 0, none⟩), .pointer (some ⟨c, 0, none⟩)] w fun e w' => e = .returned (.int .i64 r) ∧ Below w.heap.size w w') :
    Calls Tryz.prog 87 #[.pointer (some ⟨b, 0, none⟩), .pointer (some ⟨c, 0, none⟩)] w fun e w' => e = .returned (.bool (decide (r < 0))) ∧ Below w.heap.size w w' := by
  have HC := Lib.hid C
  clear C
  go_enter Tryz.func87, Tryz.ntmps87
  go_wp2_with fail
  refine HC.out.mono ?_
  rintro e w1 ⟨rfl, hb⟩
  go_wp2_with fail
  go_ret
  exact ⟨rfl, hb⟩
theorem sizeVer : (Tryz.prog.info? 62).map (·.size) = some 6 := by kernel_rfl
set_option maxHeartbeats 1000000 in
theorem equal_walk (b c : Nat) (hbc : b ≠ c) (r : Int) (w : World) {x y z X Y Z : Int} {ov ow : ByteArray} (hv : VerI w b x y z ov) (hw : VerI w c X Y Z ow) (C : Calls Tryz.prog 86 #[.pointer (some ⟨b, 0, none⟩), .pointer (some ⟨c, 0, none⟩)] w fun e w' => e = .returned (.int .i64 r) ∧ Below w.heap.size w w') :
    Calls Tryz.prog 81 #[.pointer (some ⟨b, 0, none⟩), .pointer (some ⟨c, 0, none⟩)] w fun e w' => e = .returned (.bool (r == 0)) ∧ Below w.heap.size w w' := by
  have HC := Lib.hid C
  obtain ⟨j, hj, hjs⟩ := Option.map_eq_some_iff.1 sizeVer
  have hpe : (binOp .eql 63 (.pointer (some ⟨b, 0, none⟩)) (.pointer (some ⟨c, 0, none⟩))).run Tryz.prog w = .ok (.bool false) w :=
    run_eql_ptr_other w Tryz.underlying63 hj (by rw [hjs]; decide) (by intro h; injection h with h; exact hbc h) hv hw
  clear C hv hw hj hjs hbc
  go_enter Tryz.func81, Tryz.ntmps81
  go_wp2_with fail
  refine HC.out.mono ?_
  rintro e w1 ⟨rfl, hb⟩
  go_wp2_with fail
  go_ret
  exact ⟨rfl, hb⟩
set_option maxHeartbeats 8000000 in
theorem gt_walk (bv cb vb : Nat) (x y z X Y Z : Int) (md di pd : Bool) (ov oo op ow : ByteArray) (w : World) (hdi : di = false) (r : Int) (R : Bool) (hR : (r == 1) = R) (C : ∀ W, Below w.heap.size w W → St W bv cb vb x y z X Y Z md di pd ov oo op ow → Calls Tryz.prog 86 #[.pointer (some ⟨bv, 0, none⟩), .pointer (some ⟨vb, 0, none⟩)] W fun e w' => e = .returned (.int .i64 r) ∧ Below W.heap.size W w') (h : St w bv cb vb x y z X Y Z md di pd ov oo op ow) :
    Calls Tryz.prog 67 #[.pointer (some ⟨bv, 0, none⟩), .pointer (some ⟨cb, 0, none⟩), .bool false] w (AskRes (R) w) := by
  have HErr := Lib.hid err_walk
  have HB0 := Lib.hid (Below.refl w.heap.size w)
  have HS0 := Lib.hid h
  have HPrereleasev : Hid (∀ W, Calls Tryz.prog 80 #[.agg #[.int .u64 x, .int .u64 y, .int .u64 z, .string ⟨#[]⟩, .string ⟨#[]⟩, .string ov]] W fun e w' => e = .returned (.string ⟨#[]⟩) ∧ Below W.heap.size W w') := Lib.hid fun W => semver_Version_Prerelease.calls _ _ _ _ _ _ _ W rfl
  have HPrereleasew : Hid (∀ W, Calls Tryz.prog 80 #[.agg #[.int .u64 X, .int .u64 Y, .int .u64 Z, .string ⟨#[]⟩, .string ⟨#[]⟩, .string ow]] W fun e w' => e = .returned (.string ⟨#[]⟩) ∧ Below W.heap.size W w') := Lib.hid fun W => semver_Version_Prerelease.calls _ _ _ _ _ _ _ W rfl
  clear h
  go_enter Tryz.func67, Tryz.ntmps67
  have HC := Lib.hid C
  clear C
  have hdi_ : di = false := hdi
  subst hdi_
  obtain ⟨v0, v1, v2, v3, v4, v5, w0, w1, w2, w3, w4, w5, c0, c2, c3, c4, c5⟩ := HS0.out.cells
  go_wp2_with fail
  refine (HPrereleasev.out _).mono ?_
  rintro e w1_ ⟨rfl, hb_⟩
  have HS1 := Lib.hid (HS0.out.below hb_)
  have HB1 := Lib.hid (HB0.out.trans (hb_.mono HB0.out.size))
  clear v0 v1 v2 v3 v4 v5 w0 w1 w2 w3 w4 w5 c0 c2 c3 c4 c5 hb_
  obtain ⟨v0, v1, v2, v3, v4, v5, w0, w1, w2, w3, w4, w5, c0, c2, c3, c4, c5⟩ := HS1.out.cells
  go_wp2_with fail
  refine (HC.out _ HB1.out HS1.out).mono ?_
  rintro e w2_ ⟨rfl, hb_⟩
  have HS2 := Lib.hid (HS1.out.below hb_)
  have HB2 := Lib.hid (HB1.out.trans (hb_.mono HB1.out.size))
  clear v0 v1 v2 v3 v4 v5 w0 w1 w2 w3 w4 w5 c0 c2 c3 c4 c5 hb_
  obtain ⟨v0, v1, v2, v3, v4, v5, w0, w1, w2, w3, w4, w5, c0, c2, c3, c4, c5⟩ := HS2.out.cells
  cases R with
  | true =>
    go_wp2_with fail
    go_ret2
    exact ⟨_, rfl, HB2.out⟩
  | false =>
    go_wp2_with fail
    refine (HErr.out _ _).mono ?_
    rintro e w3_ ⟨er, rfl, hb_⟩
    have HS3 := Lib.hid (HS2.out.below hb_)
    have HB3 := Lib.hid (HB2.out.trans (hb_.mono HB2.out.size))
    clear v0 v1 v2 v3 v4 v5 w0 w1 w2 w3 w4 w5 c0 c2 c3 c4 c5 hb_
    go_wp2_with fail
    go_ret2
    exact ⟨_, rfl, HB3.out⟩
set_option maxHeartbeats 8000000 in
theorem lt_walk (bv cb vb : Nat) (x y z X Y Z : Int) (md di pd : Bool) (ov oo op ow : ByteArray) (w : World) (r : Int) (R : Bool) (hR : (decide (r < 0)) = R) (C : ∀ W, Below w.heap.size w W → St W bv cb vb x y z X Y Z md di pd ov oo op ow → Calls Tryz.prog 86 #[.pointer (some ⟨bv, 0, none⟩), .pointer (some ⟨vb, 0, none⟩)] W fun e w' => e = .returned (.int .i64 r) ∧ Below W.heap.size W w') (h : St w bv cb vb x y z X Y Z md di pd ov oo op ow) :
    Calls Tryz.prog 68 #[.pointer (some ⟨bv, 0, none⟩), .pointer (some ⟨cb, 0, none⟩), .bool false] w (AskRes (R) w) := by
  have HErr := Lib.hid err_walk
  have HB0 := Lib.hid (Below.refl w.heap.size w)
  have HS0 := Lib.hid h
  have HPrereleasev : Hid (∀ W, Calls Tryz.prog 80 #[.agg #[.int .u64 x, .int .u64 y, .int .u64 z, .string ⟨#[]⟩, .string ⟨#[]⟩, .string ov]] W fun e w' => e = .returned (.string ⟨#[]⟩) ∧ Below W.heap.size W w') := Lib.hid fun W => semver_Version_Prerelease.calls _ _ _ _ _ _ _ W rfl
  have HPrereleasew : Hid (∀ W, Calls Tryz.prog 80 #[.agg #[.int .u64 X, .int .u64 Y, .int .u64 Z, .string ⟨#[]⟩, .string ⟨#[]⟩, .string ow]] W fun e w' => e = .returned (.string ⟨#[]⟩) ∧ Below W.heap.size W w') := Lib.hid fun W => semver_Version_Prerelease.calls _ _ _ _ _ _ _ W rfl
  clear h
  go_enter Tryz.func68, Tryz.ntmps68
  have HC := Lib.hid C
  clear C
  obtain ⟨v0, v1, v2, v3, v4, v5, w0, w1, w2, w3, w4, w5, c0, c2, c3, c4, c5⟩ := HS0.out.cells
  go_wp2_with fail
  refine (HPrereleasev.out _).mono ?_
  rintro e w1_ ⟨rfl, hb_⟩
  have HS1 := Lib.hid (HS0.out.below hb_)
  have HB1 := Lib.hid (HB0.out.trans (hb_.mono HB0.out.size))
  clear v0 v1 v2 v3 v4 v5 w0 w1 w2 w3 w4 w5 c0 c2 c3 c4 c5 hb_
  obtain ⟨v0, v1, v2, v3, v4, v5, w0, w1, w2, w3, w4, w5, c0, c2, c3, c4, c5⟩ := HS1.out.cells
  go_wp2_with fail
  refine (HC.out _ HB1.out HS1.out).mono ?_
  rintro e w2_ ⟨rfl, hb_⟩
  have HS2 := Lib.hid (HS1.out.below hb_)
  have HB2 := Lib.hid (HB1.out.trans (hb_.mono HB1.out.size))
  clear v0 v1 v2 v3 v4 v5 w0 w1 w2 w3 w4 w5 c0 c2 c3 c4 c5 hb_
  obtain ⟨v0, v1, v2, v3, v4, v5, w0, w1, w2, w3, w4, w5, c0, c2, c3, c4, c5⟩ := HS2.out.cells
  cases R with
  | true =>
    go_wp2_with fail
    go_ret2
    exact ⟨_, rfl, HB2.out⟩
  | false =>
    go_wp2_with fail
    refine (HErr.out _ _).mono ?_
    rintro e w3_ ⟨er, rfl, hb_⟩
    have HS3 := Lib.hid (HS2.out.below hb_)
    have HB3 := Lib.hid (HB2.out.trans (hb_.mono HB2.out.size))
    clear v0 v1 v2 v3 v4 v5 w0 w1 w2 w3 w4 w5 c0 c2 c3 c4 c5 hb_
    go_wp2_with fail
    go_ret2
    exact ⟨_, rfl, HB3.out⟩
set_option maxHeartbeats 8000000 in
theorem ge_walk (bv cb vb : Nat) (x y z X Y Z : Int) (md di pd : Bool) (ov oo op ow : ByteArray) (w : World) (r : Int) (R : Bool) (hR : (decide (0 ≤ r)) = R) (C : ∀ W, Below w.heap.size w W → St W bv cb vb x y z X Y Z md di pd ov oo op ow → Calls Tryz.prog 86 #[.pointer (some ⟨bv, 0, none⟩), .pointer (some ⟨vb, 0, none⟩)] W fun e w' => e = .returned (.int .i64 r) ∧ Below W.heap.size W w') (h : St w bv cb vb x y z X Y Z md di pd ov oo op ow) :
    Calls Tryz.prog 69 #[.pointer (some ⟨bv, 0, none⟩), .pointer (some ⟨cb, 0, none⟩), .bool false] w (AskRes (R) w) := by
  have HErr := Lib.hid err_walk
  have HB0 := Lib.hid (Below.refl w.heap.size w)
  have HS0 := Lib.hid h
  have HPrereleasev : Hid (∀ W, Calls Tryz.prog 80 #[.agg #[.int .u64 x, .int .u64 y, .int .u64 z, .string ⟨#[]⟩, .string ⟨#[]⟩, .string ov]] W fun e w' => e = .returned (.string ⟨#[]⟩) ∧ Below W.heap.size W w') := Lib.hid fun W => semver_Version_Prerelease.calls _ _ _ _ _ _ _ W rfl
  have HPrereleasew : Hid (∀ W, Calls Tryz.prog 80 #[.agg #[.int .u64 X, .int .u64 Y, .int .u64 Z, .string ⟨#[]⟩, .string ⟨#[]⟩, .string ow]] W fun e w' => e = .returned (.string ⟨#[]⟩) ∧ Below W.heap.size W w') := Lib.hid fun W => semver_Version_Prerelease.calls _ _ _ _ _ _ _ W rfl
  clear h
  go_enter Tryz.func69, Tryz.ntmps69
  have HC := Lib.hid C
  clear C
  obtain ⟨v0, v1, v2, v3, v4, v5, w0, w1, w2, w3, w4, w5, c0, c2, c3, c4, c5⟩ := HS0.out.cells
  go_wp2_with fail
  refine (HPrereleasev.out _).mono ?_
  rintro e w1_ ⟨rfl, hb_⟩
  have HS1 := Lib.hid (HS0.out.below hb_)
  have HB1 := Lib.hid (HB0.out.trans (hb_.mono HB0.out.size))
  clear v0 v1 v2 v3 v4 v5 w0 w1 w2 w3 w4 w5 c0 c2 c3 c4 c5 hb_
  obtain ⟨v0, v1, v2, v3, v4, v5, w0, w1, w2, w3, w4, w5, c0, c2, c3, c4, c5⟩ := HS1.out.cells
  go_wp2_with fail
  refine (HC.out _ HB1.out HS1.out).mono ?_
  rintro e w2_ ⟨rfl, hb_⟩
  have HS2 := Lib.hid (HS1.out.below hb_)
  have HB2 := Lib.hid (HB1.out.trans (hb_.mono HB1.out.size))
  clear v0 v1 v2 v3 v4 v5 w0 w1 w2 w3 w4 w5 c0 c2 c3 c4 c5 hb_
  obtain ⟨v0, v1, v2, v3, v4, v5, w0, w1, w2, w3, w4, w5, c0, c2, c3, c4, c5⟩ := HS2.out.cells
  cases R with
  | true =>
    go_wp2_with fail
    go_ret2
    exact ⟨_, rfl, HB2.out⟩
  | false =>
    go_wp2_with fail
    refine (HErr.out _ _).mono ?_
    rintro e w3_ ⟨er, rfl, hb_⟩
    have HS3 := Lib.hid (HS2.out.below hb_)
    have HB3 := Lib.hid (HB2.out.trans (hb_.mono HB2.out.size))
    clear v0 v1 v2 v3 v4 v5 w0 w1 w2 w3 w4 w5 c0 c2 c3 c4 c5 hb_
    go_wp2_with fail
    go_ret2
    exact ⟨_, rfl, HB3.out⟩
set_option maxHeartbeats 8000000 in
theorem le_walk (bv cb vb : Nat) (x y z X Y Z : Int) (md di pd : Bool) (ov oo op ow : ByteArray) (w : World) (hdi : di = false) (r : Int) (R : Bool) (hR : (decide (r ≤ 0)) = R) (C : ∀ W, Below w.heap.size w W → St W bv cb vb x y z X Y Z md di pd ov oo op ow → Calls Tryz.prog 86 #[.pointer (some ⟨bv, 0, none⟩), .pointer (some ⟨vb, 0, none⟩)] W fun e w' => e = .returned (.int .i64 r) ∧ Below W.heap.size W w') (h : St w bv cb vb x y z X Y Z md di pd ov oo op ow) :
    Calls Tryz.prog 70 #[.pointer (some ⟨bv, 0, none⟩), .pointer (some ⟨cb, 0, none⟩), .bool false] w (AskRes (R) w) := by
  have HErr := Lib.hid err_walk
  have HB0 := Lib.hid (Below.refl w.heap.size w)
  have HS0 := Lib.hid h
  have HPrereleasev : Hid (∀ W, Calls Tryz.prog 80 #[.agg #[.int .u64 x, .int .u64 y, .int .u64 z, .string ⟨#[]⟩, .string ⟨#[]⟩, .string ov]] W fun e w' => e = .returned (.string ⟨#[]⟩) ∧ Below W.heap.size W w') := Lib.hid fun W => semver_Version_Prerelease.calls _ _ _ _ _ _ _ W rfl
  have HPrereleasew : Hid (∀ W, Calls Tryz.prog 80 #[.agg #[.int .u64 X, .int .u64 Y, .int .u64 Z, .string ⟨#[]⟩, .string ⟨#[]⟩, .string ow]] W fun e w' => e = .returned (.string ⟨#[]⟩) ∧ Below W.heap.size W w') := Lib.hid fun W => semver_Version_Prerelease.calls _ _ _ _ _ _ _ W rfl
  clear h
  go_enter Tryz.func70, Tryz.ntmps70
  have HC := Lib.hid C
  clear C
  have hdi_ : di = false := hdi
  subst hdi_
  obtain ⟨v0, v1, v2, v3, v4, v5, w0, w1, w2, w3, w4, w5, c0, c2, c3, c4, c5⟩ := HS0.out.cells
  go_wp2_with fail
  refine (HPrereleasev.out _).mono ?_
  rintro e w1_ ⟨rfl, hb_⟩
  have HS1 := Lib.hid (HS0.out.below hb_)
  have HB1 := Lib.hid (HB0.out.trans (hb_.mono HB0.out.size))
  clear v0 v1 v2 v3 v4 v5 w0 w1 w2 w3 w4 w5 c0 c2 c3 c4 c5 hb_
  obtain ⟨v0, v1, v2, v3, v4, v5, w0, w1, w2, w3, w4, w5, c0, c2, c3, c4, c5⟩ := HS1.out.cells
  go_wp2_with fail
  refine (HC.out _ HB1.out HS1.out).mono ?_
  rintro e w2_ ⟨rfl, hb_⟩
  have HS2 := Lib.hid (HS1.out.below hb_)
  have HB2 := Lib.hid (HB1.out.trans (hb_.mono HB1.out.size))
  clear v0 v1 v2 v3 v4 v5 w0 w1 w2 w3 w4 w5 c0 c2 c3 c4 c5 hb_
  obtain ⟨v0, v1, v2, v3, v4, v5, w0, w1, w2, w3, w4, w5, c0, c2, c3, c4, c5⟩ := HS2.out.cells
  cases R with
  | true =>
    go_wp2_with fail
    go_ret2
    exact ⟨_, rfl, HB2.out⟩
  | false =>
    go_wp2_with fail
    refine (HErr.out _ _).mono ?_
    rintro e w3_ ⟨er, rfl, hb_⟩
    have HS3 := Lib.hid (HS2.out.below hb_)
    have HB3 := Lib.hid (HB2.out.trans (hb_.mono HB2.out.size))
    clear v0 v1 v2 v3 v4 v5 w0 w1 w2 w3 w4 w5 c0 c2 c3 c4 c5 hb_
    go_wp2_with fail
    go_ret2
    exact ⟨_, rfl, HB3.out⟩
set_option maxHeartbeats 8000000 in
theorem ne_walk (bv cb vb : Nat) (x y z X Y Z : Int) (md di pd : Bool) (ov oo op ow : ByteArray) (w : World) (hdi : di = false) (R : Bool) (C : ∀ W, Below w.heap.size w W → St W bv cb vb x y z X Y Z md di pd ov oo op ow → Calls Tryz.prog 81 #[.pointer (some ⟨bv, 0, none⟩), .pointer (some ⟨vb, 0, none⟩)] W fun e w' => e = .returned (.bool R) ∧ Below W.heap.size W w') (h : St w bv cb vb x y z X Y Z md di pd ov oo op ow) :
    Calls Tryz.prog 66 #[.pointer (some ⟨bv, 0, none⟩), .pointer (some ⟨cb, 0, none⟩), .bool false] w (AskRes (!R) w) := by
  have HErr := Lib.hid err_walk
  have HB0 := Lib.hid (Below.refl w.heap.size w)
  have HS0 := Lib.hid h
  have HPrereleasev : Hid (∀ W, Calls Tryz.prog 80 #[.agg #[.int .u64 x, .int .u64 y, .int .u64 z, .string ⟨#[]⟩, .string ⟨#[]⟩, .string ov]] W fun e w' => e = .returned (.string ⟨#[]⟩) ∧ Below W.heap.size W w') := Lib.hid fun W => semver_Version_Prerelease.calls _ _ _ _ _ _ _ W rfl
  have HPrereleasew : Hid (∀ W, Calls Tryz.prog 80 #[.agg #[.int .u64 X, .int .u64 Y, .int .u64 Z, .string ⟨#[]⟩, .string ⟨#[]⟩, .string ow]] W fun e w' => e = .returned (.string ⟨#[]⟩) ∧ Below W.heap.size W w') := Lib.hid fun W => semver_Version_Prerelease.calls _ _ _ _ _ _ _ W rfl
  clear h
  go_enter Tryz.func66, Tryz.ntmps66
  have HC := Lib.hid C
  clear C
  have hdi_ : di = false := hdi
  subst hdi_
  obtain ⟨v0, v1, v2, v3, v4, v5, w0, w1, w2, w3, w4, w5, c0, c2, c3, c4, c5⟩ := HS0.out.cells
  go_wp2_with fail
  refine (HPrereleasev.out _).mono ?_
  rintro e w1_ ⟨rfl, hb_⟩
  have HS1 := Lib.hid (HS0.out.below hb_)
  have HB1 := Lib.hid (HB0.out.trans (hb_.mono HB0.out.size))
  clear v0 v1 v2 v3 v4 v5 w0 w1 w2 w3 w4 w5 c0 c2 c3 c4 c5 hb_
  obtain ⟨v0, v1, v2, v3, v4, v5, w0, w1, w2, w3, w4, w5, c0, c2, c3, c4, c5⟩ := HS1.out.cells
  go_wp2_with fail
  refine (HC.out _ HB1.out HS1.out).mono ?_
  rintro e w2_ ⟨rfl, hb_⟩
  have HS2 := Lib.hid (HS1.out.below hb_)
  have HB2 := Lib.hid (HB1.out.trans (hb_.mono HB1.out.size))
  clear v0 v1 v2 v3 v4 v5 w0 w1 w2 w3 w4 w5 c0 c2 c3 c4 c5 hb_
  obtain ⟨v0, v1, v2, v3, v4, v5, w0, w1, w2, w3, w4, w5, c0, c2, c3, c4, c5⟩ := HS2.out.cells
  cases R with
  | true =>
    go_wp2_with fail
    refine (HErr.out _ _).mono ?_
    rintro e w3_ ⟨er, rfl, hb_⟩
    have HS3 := Lib.hid (HS2.out.below hb_)
    have HB3 := Lib.hid (HB2.out.trans (hb_.mono HB2.out.size))
    clear v0 v1 v2 v3 v4 v5 w0 w1 w2 w3 w4 w5 c0 c2 c3 c4 c5 hb_
    go_wp2_with fail
    go_ret2
    exact ⟨_, rfl, HB3.out⟩
  | false =>
    go_wp2_with fail
    go_ret2
    exact ⟨_, rfl, HB2.out⟩
set_option maxHeartbeats 8000000 in
theorem eq_walk (bv cb vb : Nat) (x y z X Y Z : Int) (md di pd : Bool) (ov oo op ow : ByteArray) (w : World) (hdi : di = false) (R : Bool) (C : ∀ W, Below w.heap.size w W → St W bv cb vb x y z X Y Z md di pd ov oo op ow → Calls Tryz.prog 81 #[.pointer (some ⟨bv, 0, none⟩), .pointer (some ⟨vb, 0, none⟩)] W fun e w' => e = .returned (.bool R) ∧ Below W.heap.size W w') (h : St w bv cb vb x y z X Y Z md di pd ov oo op ow) :
    Calls Tryz.prog 65 #[.pointer (some ⟨bv, 0, none⟩), .pointer (some ⟨cb, 0, none⟩), .bool false] w (AskRes (R) w) := by
  have HErr := Lib.hid err_walk
  have HB0 := Lib.hid (Below.refl w.heap.size w)
  have HS0 := Lib.hid h
  have HPrereleasev : Hid (∀ W, Calls Tryz.prog 80 #[.agg #[.int .u64 x, .int .u64 y, .int .u64 z, .string ⟨#[]⟩, .string ⟨#[]⟩, .string ov]] W fun e w' => e = .returned (.string ⟨#[]⟩) ∧ Below W.heap.size W w') := Lib.hid fun W => semver_Version_Prerelease.calls _ _ _ _ _ _ _ W rfl
  have HPrereleasew : Hid (∀ W, Calls Tryz.prog 80 #[.agg #[.int .u64 X, .int .u64 Y, .int .u64 Z, .string ⟨#[]⟩, .string ⟨#[]⟩, .string ow]] W fun e w' => e = .returned (.string ⟨#[]⟩) ∧ Below W.heap.size W w') := Lib.hid fun W => semver_Version_Prerelease.calls _ _ _ _ _ _ _ W rfl
  clear h
  go_enter Tryz.func65, Tryz.ntmps65
  have HC := Lib.hid C
  clear C
  have hdi_ : di = false := hdi
  subst hdi_
  obtain ⟨v0, v1, v2, v3, v4, v5, w0, w1, w2, w3, w4, w5, c0, c2, c3, c4, c5⟩ := HS0.out.cells
  go_wp2_with fail
  refine (HPrereleasev.out _).mono ?_
  rintro e w1_ ⟨rfl, hb_⟩
  have HS1 := Lib.hid (HS0.out.below hb_)
  have HB1 := Lib.hid (HB0.out.trans (hb_.mono HB0.out.size))
  clear v0 v1 v2 v3 v4 v5 w0 w1 w2 w3 w4 w5 c0 c2 c3 c4 c5 hb_
  obtain ⟨v0, v1, v2, v3, v4, v5, w0, w1, w2, w3, w4, w5, c0, c2, c3, c4, c5⟩ := HS1.out.cells
  go_wp2_with fail
  refine (HC.out _ HB1.out HS1.out).mono ?_
  rintro e w2_ ⟨rfl, hb_⟩
  have HS2 := Lib.hid (HS1.out.below hb_)
  have HB2 := Lib.hid (HB1.out.trans (hb_.mono HB1.out.size))
  clear v0 v1 v2 v3 v4 v5 w0 w1 w2 w3 w4 w5 c0 c2 c3 c4 c5 hb_
  obtain ⟨v0, v1, v2, v3, v4, v5, w0, w1, w2, w3, w4, w5, c0, c2, c3, c4, c5⟩ := HS2.out.cells
  cases R with
  | true =>
    go_wp2_with fail
    go_ret2
    exact ⟨_, rfl, HB2.out⟩
  | false =>
    go_wp2_with fail
    refine (HErr.out _ _).mono ?_
    rintro e w3_ ⟨er, rfl, hb_⟩
    have HS3 := Lib.hid (HS2.out.below hb_)
    have HB3 := Lib.hid (HB2.out.trans (hb_.mono HB2.out.size))
    clear v0 v1 v2 v3 v4 v5 w0 w1 w2 w3 w4 w5 c0 c2 c3 c4 c5 hb_
    go_wp2_with fail
    go_ret2
    exact ⟨_, rfl, HB3.out⟩
set_option maxHeartbeats 8000000 in
theorem short_walk (bv cb vb : Nat) (x y z X Y Z : Int) (md di pd : Bool) (ov oo op ow : ByteArray) (w : World) (hdi : di = true) (R : Bool) (C : ∀ W, Below w.heap.size w W → St W bv cb vb x y z X Y Z md di pd ov oo op ow → Calls Tryz.prog 71 #[.pointer (some ⟨bv, 0, none⟩), .pointer (some ⟨cb, 0, none⟩), .bool false] W (AskRes R W)) (h : St w bv cb vb x y z X Y Z md di pd ov oo op ow) :
    Calls Tryz.prog 65 #[.pointer (some ⟨bv, 0, none⟩), .pointer (some ⟨cb, 0, none⟩), .bool false] w (AskRes (R) w) := by
  have HErr := Lib.hid err_walk
  have HB0 := Lib.hid (Below.refl w.heap.size w)
  have HS0 := Lib.hid h
  have HPrereleasev : Hid (∀ W, Calls Tryz.prog 80 #[.agg #[.int .u64 x, .int .u64 y, .int .u64 z, .string ⟨#[]⟩, .string ⟨#[]⟩, .string ov]] W fun e w' => e = .returned (.string ⟨#[]⟩) ∧ Below W.heap.size W w') := Lib.hid fun W => semver_Version_Prerelease.calls _ _ _ _ _ _ _ W rfl
  have HPrereleasew : Hid (∀ W, Calls Tryz.prog 80 #[.agg #[.int .u64 X, .int .u64 Y, .int .u64 Z, .string ⟨#[]⟩, .string ⟨#[]⟩, .string ow]] W fun e w' => e = .returned (.string ⟨#[]⟩) ∧ Below W.heap.size W w') := Lib.hid fun W => semver_Version_Prerelease.calls _ _ _ _ _ _ _ W rfl
  clear h
  go_enter Tryz.func65, Tryz.ntmps65
  have HC := Lib.hid C
  clear C
  have hdi_ : di = true := hdi
  subst hdi_
  obtain ⟨v0, v1, v2, v3, v4, v5, w0, w1, w2, w3, w4, w5, c0, c2, c3, c4, c5⟩ := HS0.out.cells
  go_wp2_with fail
  refine (HPrereleasev.out _).mono ?_
  rintro e w1_ ⟨rfl, hb_⟩
  have HS1 := Lib.hid (HS0.out.below hb_)
  have HB1 := Lib.hid (HB0.out.trans (hb_.mono HB0.out.size))
  clear v0 v1 v2 v3 v4 v5 w0 w1 w2 w3 w4 w5 c0 c2 c3 c4 c5 hb_
  obtain ⟨v0, v1, v2, v3, v4, v5, w0, w1, w2, w3, w4, w5, c0, c2, c3, c4, c5⟩ := HS1.out.cells
  go_wp2_with fail
  refine (HC.out _ HB1.out HS1.out).mono ?_
  rintro e w9_ ⟨er, rfl, hb_⟩
  have HB9 := Lib.hid (HB1.out.trans (hb_.mono HB1.out.size))
  clear hb_
  go_wp2_with fail
  go_ret2
  exact ⟨_, rfl, HB9.out⟩
/-- What ~ asks. -/
def tildeB (lt : Bool) (x y X Y Z : Int) (md pd : Bool) : Bool := if lt then false else if (X == 0) && ((Y == 0) && ((Z == 0) && (!md && !pd))) then true else if x != X then false else if (y != Y) && !md then false else true
/-- What ^ asks. -/
def caretB (lt : Bool) (x y z X Y Z : Int) (md pd : Bool) : Bool := if lt then false else if decide (0 < X) || md then x == X else if decide (0 < x) then false else if decide (0 < Y) || pd then y == Y else if decide (0 < y) then false else Z == z
set_option maxHeartbeats 8000000 in
theorem tilde_walk (bv cb vb : Nat) (x y z X Y Z : Int) (md di pd : Bool) (ov oo op ow : ByteArray) (w : World) (L R : Bool) (hR : tildeB L x y X Y Z md pd = R) (C : ∀ W, Below w.heap.size w W → St W bv cb vb x y z X Y Z md di pd ov oo op ow → Calls Tryz.prog 87 #[.pointer (some ⟨bv, 0, none⟩), .pointer (some ⟨vb, 0, none⟩)] W fun e w' => e = .returned (.bool L) ∧ Below W.heap.size W w') (h : St w bv cb vb x y z X Y Z md di pd ov oo op ow) :
    Calls Tryz.prog 71 #[.pointer (some ⟨bv, 0, none⟩), .pointer (some ⟨cb, 0, none⟩), .bool false] w (AskRes (R) w) := by
  have HErr := Lib.hid err_walk
  have HB0 := Lib.hid (Below.refl w.heap.size w)
  have HS0 := Lib.hid h
  have HPrereleasev : Hid (∀ W, Calls Tryz.prog 80 #[.agg #[.int .u64 x, .int .u64 y, .int .u64 z, .string ⟨#[]⟩, .string ⟨#[]⟩, .string ov]] W fun e w' => e = .returned (.string ⟨#[]⟩) ∧ Below W.heap.size W w') := Lib.hid fun W => semver_Version_Prerelease.calls _ _ _ _ _ _ _ W rfl
  have HPrereleasew : Hid (∀ W, Calls Tryz.prog 80 #[.agg #[.int .u64 X, .int .u64 Y, .int .u64 Z, .string ⟨#[]⟩, .string ⟨#[]⟩, .string ow]] W fun e w' => e = .returned (.string ⟨#[]⟩) ∧ Below W.heap.size W w') := Lib.hid fun W => semver_Version_Prerelease.calls _ _ _ _ _ _ _ W rfl
  have HMajorv : Hid (∀ W, Calls Tryz.prog 82 #[.agg #[.int .u64 x, .int .u64 y, .int .u64 z, .string ⟨#[]⟩, .string ⟨#[]⟩, .string ov]] W fun e w' => e = .returned (.int .u64 x) ∧ Below W.heap.size W w') := Lib.hid fun W => semver_Version_Major.calls _ _ _ _ _ _ _ W rfl
  have HMajorw : Hid (∀ W, Calls Tryz.prog 82 #[.agg #[.int .u64 X, .int .u64 Y, .int .u64 Z, .string ⟨#[]⟩, .string ⟨#[]⟩, .string ow]] W fun e w' => e = .returned (.int .u64 X) ∧ Below W.heap.size W w') := Lib.hid fun W => semver_Version_Major.calls _ _ _ _ _ _ _ W rfl
  have HMinorv : Hid (∀ W, Calls Tryz.prog 83 #[.agg #[.int .u64 x, .int .u64 y, .int .u64 z, .string ⟨#[]⟩, .string ⟨#[]⟩, .string ov]] W fun e w' => e = .returned (.int .u64 y) ∧ Below W.heap.size W w') := Lib.hid fun W => semver_Version_Minor.calls _ _ _ _ _ _ _ W rfl
  have HMinorw : Hid (∀ W, Calls Tryz.prog 83 #[.agg #[.int .u64 X, .int .u64 Y, .int .u64 Z, .string ⟨#[]⟩, .string ⟨#[]⟩, .string ow]] W fun e w' => e = .returned (.int .u64 Y) ∧ Below W.heap.size W w') := Lib.hid fun W => semver_Version_Minor.calls _ _ _ _ _ _ _ W rfl
  have HPatchv : Hid (∀ W, Calls Tryz.prog 84 #[.agg #[.int .u64 x, .int .u64 y, .int .u64 z, .string ⟨#[]⟩, .string ⟨#[]⟩, .string ov]] W fun e w' => e = .returned (.int .u64 z) ∧ Below W.heap.size W w') := Lib.hid fun W => semver_Version_Patch.calls _ _ _ _ _ _ _ W rfl
  have HPatchw : Hid (∀ W, Calls Tryz.prog 84 #[.agg #[.int .u64 X, .int .u64 Y, .int .u64 Z, .string ⟨#[]⟩, .string ⟨#[]⟩, .string ow]] W fun e w' => e = .returned (.int .u64 Z) ∧ Below W.heap.size W w') := Lib.hid fun W => semver_Version_Patch.calls _ _ _ _ _ _ _ W rfl
  clear h
  go_enter Tryz.func71, Tryz.ntmps71
  have HC := Lib.hid C
  have HRR := Lib.hid hR
  clear C hR
  obtain ⟨v0, v1, v2, v3, v4, v5, w0, w1, w2, w3, w4, w5, c0, c2, c3, c4, c5⟩ := HS0.out.cells
  go_wp2_with fail
  refine (HPrereleasev.out _).mono ?_
  rintro e w1_ ⟨rfl, hb_⟩
  have HS1 := Lib.hid (HS0.out.below hb_)
  have HB1 := Lib.hid (HB0.out.trans (hb_.mono HB0.out.size))
  clear v0 v1 v2 v3 v4 v5 w0 w1 w2 w3 w4 w5 c0 c2 c3 c4 c5 hb_
  obtain ⟨v0, v1, v2, v3, v4, v5, w0, w1, w2, w3, w4, w5, c0, c2, c3, c4, c5⟩ := HS1.out.cells
  go_wp2_with fail
  refine (HC.out _ HB1.out HS1.out).mono ?_
  rintro e w2_ ⟨rfl, hb_⟩
  have HS2 := Lib.hid (HS1.out.below hb_)
  have HB2 := Lib.hid (HB1.out.trans (hb_.mono HB1.out.size))
  clear v0 v1 v2 v3 v4 v5 w0 w1 w2 w3 w4 w5 c0 c2 c3 c4 c5 hb_
  obtain ⟨v0, v1, v2, v3, v4, v5, w0, w1, w2, w3, w4, w5, c0, c2, c3, c4, c5⟩ := HS2.out.cells
  cases L with
  | true =>
    obtain rfl : R = false := by rw [← HRR.out]; simp [tildeB]
    go_wp2_with fail
    refine (HErr.out _ _).mono ?_
    rintro e w3_ ⟨er, rfl, hb_⟩
    have HS3 := Lib.hid (HS2.out.below hb_)
    have HB3 := Lib.hid (HB2.out.trans (hb_.mono HB2.out.size))
    clear v0 v1 v2 v3 v4 v5 w0 w1 w2 w3 w4 w5 c0 c2 c3 c4 c5 hb_
    go_wp2_with fail
    go_ret2
    exact ⟨_, rfl, HB3.out⟩
  | false =>
    go_wp2_with fail
    refine (HMajorw.out _).mono ?_
    rintro e w3_ ⟨rfl, hb_⟩
    have HS3 := Lib.hid (HS2.out.below hb_)
    have HB3 := Lib.hid (HB2.out.trans (hb_.mono HB2.out.size))
    clear v0 v1 v2 v3 v4 v5 w0 w1 w2 w3 w4 w5 c0 c2 c3 c4 c5 hb_
    obtain ⟨v0, v1, v2, v3, v4, v5, w0, w1, w2, w3, w4, w5, c0, c2, c3, c4, c5⟩ := HS3.out.cells
    cases eX : X == 0 with
    | true =>
      go_wp2_with fail
      refine (HMinorw.out _).mono ?_
      rintro e w4_ ⟨rfl, hb_⟩
      have HS4 := Lib.hid (HS3.out.below hb_)
      have HB4 := Lib.hid (HB3.out.trans (hb_.mono HB3.out.size))
      clear v0 v1 v2 v3 v4 v5 w0 w1 w2 w3 w4 w5 c0 c2 c3 c4 c5 hb_
      obtain ⟨v0, v1, v2, v3, v4, v5, w0, w1, w2, w3, w4, w5, c0, c2, c3, c4, c5⟩ := HS4.out.cells
      cases eY : Y == 0 with
      | true =>
        go_wp2_with fail
        refine (HPatchw.out _).mono ?_
        rintro e w5_ ⟨rfl, hb_⟩
        have HS5 := Lib.hid (HS4.out.below hb_)
        have HB5 := Lib.hid (HB4.out.trans (hb_.mono HB4.out.size))
        clear v0 v1 v2 v3 v4 v5 w0 w1 w2 w3 w4 w5 c0 c2 c3 c4 c5 hb_
        obtain ⟨v0, v1, v2, v3, v4, v5, w0, w1, w2, w3, w4, w5, c0, c2, c3, c4, c5⟩ := HS5.out.cells
        cases eZ : Z == 0 with
        | true =>
          cases md with
          | true =>
            have x1_ : (x != X) = !(x == X) := rfl
            cases ex_ : (x == X) with
            | false =>
              rw [ex_] at x1_
              simp only [Bool.not_false] at x1_
              go_upto_region 7 with fail
              clear v0 v1 v2 v3 v4 v5 w0 w1 w2 w3 w4 w5 c0 c2 c3 c4 c5
              obtain ⟨v0, v1, v2, v3, v4, v5, w0, w1, w2, w3, w4, w5, c0, c3, c5⟩ := HS5.out.nears
              have Nv_ := Lib.hid (nearC w5_ HMajorv.out)
              have Nw_ := Lib.hid (nearC w5_ HMajorw.out)
              refine wp_region_near w5_.heap.size w5_ (by kernel_rfl) (by kernel_rfl) (Below.refl _ _) ?_
              repeat (go_big_quiet_step ((first | exact Nv_.out _ | exact Nw_.out _)))
              refine wpQuiet_nil ?_
              intro w6_ hw'
              obtain ⟨q_, hx_⟩ := hw'
              have hb_ : Below w5_.heap.size w5_ w6_ := by rw [hx_]; exact q_.h
              clear hx_ Nv_ Nw_
              have HS6 := Lib.hid (HS5.out.below hb_)
              have HB6 := Lib.hid (HB5.out.trans (hb_.mono HB5.out.size))
              clear v0 v1 v2 v3 v4 v5 w0 w1 w2 w3 w4 w5 c0 c3 c5 hb_
              obtain ⟨v0, v1, v2, v3, v4, v5, w0, w1, w2, w3, w4, w5, c0, c2, c3, c4, c5⟩ := HS6.out.cells
              obtain rfl : R = false := by rw [← HRR.out]; simp [tildeB, eX, eY, eZ, x1_]
              go_wp2_with fail
              refine (HErr.out _ _).mono ?_
              rintro e w7_ ⟨er, rfl, hb_⟩
              have HS7 := Lib.hid (HS6.out.below hb_)
              have HB7 := Lib.hid (HB6.out.trans (hb_.mono HB6.out.size))
              clear v0 v1 v2 v3 v4 v5 w0 w1 w2 w3 w4 w5 c0 c2 c3 c4 c5 hb_
              go_wp2_with fail
              go_ret2
              exact ⟨_, rfl, HB7.out⟩
            | true =>
              rw [ex_] at x1_
              simp only [Bool.not_true] at x1_
              go_upto_region 7 with fail
              clear v0 v1 v2 v3 v4 v5 w0 w1 w2 w3 w4 w5 c0 c2 c3 c4 c5
              obtain ⟨v0, v1, v2, v3, v4, v5, w0, w1, w2, w3, w4, w5, c0, c3, c5⟩ := HS5.out.nears
              have Nv_ := Lib.hid (nearC w5_ HMajorv.out)
              have Nw_ := Lib.hid (nearC w5_ HMajorw.out)
              refine wp_region_near w5_.heap.size w5_ (by kernel_rfl) (by kernel_rfl) (Below.refl _ _) ?_
              repeat (go_big_quiet_step ((first | exact Nv_.out _ | exact Nw_.out _)))
              refine wpQuiet_nil ?_
              intro w6_ hw'
              obtain ⟨q_, hx_⟩ := hw'
              have hb_ : Below w5_.heap.size w5_ w6_ := by rw [hx_]; exact q_.h
              clear hx_ Nv_ Nw_
              have HS6 := Lib.hid (HS5.out.below hb_)
              have HB6 := Lib.hid (HB5.out.trans (hb_.mono HB5.out.size))
              clear v0 v1 v2 v3 v4 v5 w0 w1 w2 w3 w4 w5 c0 c3 c5 hb_
              obtain ⟨v0, v1, v2, v3, v4, v5, w0, w1, w2, w3, w4, w5, c0, c2, c3, c4, c5⟩ := HS6.out.cells
              have y1_ : (y != Y) = !(y == Y) := rfl
              cases ey_ : (y == Y) with
              | false =>
                rw [ey_] at y1_
                simp only [Bool.not_false] at y1_
                go_upto_region 9 with fail
                clear v0 v1 v2 v3 v4 v5 w0 w1 w2 w3 w4 w5 c0 c2 c3 c4 c5
                obtain ⟨v0, v1, v2, v3, v4, v5, w0, w1, w2, w3, w4, w5, c0, c3, c5⟩ := HS6.out.nears
                have Nv_ := Lib.hid (nearC w6_ HMinorv.out)
                have Nw_ := Lib.hid (nearC w6_ HMinorw.out)
                refine wp_region_near w6_.heap.size w6_ (by kernel_rfl) (by kernel_rfl) (Below.refl _ _) ?_
                repeat (go_big_quiet_step ((first | exact Nv_.out _ | exact Nw_.out _)))
                refine wpQuiet_nil ?_
                intro w7_ hw'
                obtain ⟨q_, hx_⟩ := hw'
                have hb_ : Below w6_.heap.size w6_ w7_ := by rw [hx_]; exact q_.h
                clear hx_ Nv_ Nw_
                have HS7 := Lib.hid (HS6.out.below hb_)
                have HB7 := Lib.hid (HB6.out.trans (hb_.mono HB6.out.size))
                clear v0 v1 v2 v3 v4 v5 w0 w1 w2 w3 w4 w5 c0 c3 c5 hb_
                obtain ⟨v0, v1, v2, v3, v4, v5, w0, w1, w2, w3, w4, w5, c0, c2, c3, c4, c5⟩ := HS7.out.cells
                obtain rfl : R = true := by rw [← HRR.out]; simp [tildeB, eX, eY, eZ, x1_, y1_]
                go_wp2_with fail
                go_ret2
                exact ⟨_, rfl, HB7.out⟩
              | true =>
                rw [ey_] at y1_
                simp only [Bool.not_true] at y1_
                go_upto_region 9 with fail
                clear v0 v1 v2 v3 v4 v5 w0 w1 w2 w3 w4 w5 c0 c2 c3 c4 c5
                obtain ⟨v0, v1, v2, v3, v4, v5, w0, w1, w2, w3, w4, w5, c0, c3, c5⟩ := HS6.out.nears
                have Nv_ := Lib.hid (nearC w6_ HMinorv.out)
                have Nw_ := Lib.hid (nearC w6_ HMinorw.out)
                refine wp_region_near w6_.heap.size w6_ (by kernel_rfl) (by kernel_rfl) (Below.refl _ _) ?_
                repeat (go_big_quiet_step ((first | exact Nv_.out _ | exact Nw_.out _)))
                refine wpQuiet_nil ?_
                intro w7_ hw'
                obtain ⟨q_, hx_⟩ := hw'
                have hb_ : Below w6_.heap.size w6_ w7_ := by rw [hx_]; exact q_.h
                clear hx_ Nv_ Nw_
                have HS7 := Lib.hid (HS6.out.below hb_)
                have HB7 := Lib.hid (HB6.out.trans (hb_.mono HB6.out.size))
                clear v0 v1 v2 v3 v4 v5 w0 w1 w2 w3 w4 w5 c0 c3 c5 hb_
                obtain ⟨v0, v1, v2, v3, v4, v5, w0, w1, w2, w3, w4, w5, c0, c2, c3, c4, c5⟩ := HS7.out.cells
                obtain rfl : R = true := by rw [← HRR.out]; simp [tildeB, eX, eY, eZ, x1_, y1_]
                go_wp2_with fail
                go_ret2
                exact ⟨_, rfl, HB7.out⟩
          | false =>
            cases pd with
            | true =>
              have x1_ : (x != X) = !(x == X) := rfl
              cases ex_ : (x == X) with
              | false =>
                rw [ex_] at x1_
                simp only [Bool.not_false] at x1_
                go_upto_region 7 with fail
                clear v0 v1 v2 v3 v4 v5 w0 w1 w2 w3 w4 w5 c0 c2 c3 c4 c5
                obtain ⟨v0, v1, v2, v3, v4, v5, w0, w1, w2, w3, w4, w5, c0, c3, c5⟩ := HS5.out.nears
                have Nv_ := Lib.hid (nearC w5_ HMajorv.out)
                have Nw_ := Lib.hid (nearC w5_ HMajorw.out)
                refine wp_region_near w5_.heap.size w5_ (by kernel_rfl) (by kernel_rfl) (Below.refl _ _) ?_
                repeat (go_big_quiet_step ((first | exact Nv_.out _ | exact Nw_.out _)))
                refine wpQuiet_nil ?_
                intro w6_ hw'
                obtain ⟨q_, hx_⟩ := hw'
                have hb_ : Below w5_.heap.size w5_ w6_ := by rw [hx_]; exact q_.h
                clear hx_ Nv_ Nw_
                have HS6 := Lib.hid (HS5.out.below hb_)
                have HB6 := Lib.hid (HB5.out.trans (hb_.mono HB5.out.size))
                clear v0 v1 v2 v3 v4 v5 w0 w1 w2 w3 w4 w5 c0 c3 c5 hb_
                obtain ⟨v0, v1, v2, v3, v4, v5, w0, w1, w2, w3, w4, w5, c0, c2, c3, c4, c5⟩ := HS6.out.cells
                obtain rfl : R = false := by rw [← HRR.out]; simp [tildeB, eX, eY, eZ, x1_]
                go_wp2_with fail
                refine (HErr.out _ _).mono ?_
                rintro e w7_ ⟨er, rfl, hb_⟩
                have HS7 := Lib.hid (HS6.out.below hb_)
                have HB7 := Lib.hid (HB6.out.trans (hb_.mono HB6.out.size))
                clear v0 v1 v2 v3 v4 v5 w0 w1 w2 w3 w4 w5 c0 c2 c3 c4 c5 hb_
                go_wp2_with fail
                go_ret2
                exact ⟨_, rfl, HB7.out⟩
              | true =>
                rw [ex_] at x1_
                simp only [Bool.not_true] at x1_
                go_upto_region 7 with fail
                clear v0 v1 v2 v3 v4 v5 w0 w1 w2 w3 w4 w5 c0 c2 c3 c4 c5
                obtain ⟨v0, v1, v2, v3, v4, v5, w0, w1, w2, w3, w4, w5, c0, c3, c5⟩ := HS5.out.nears
                have Nv_ := Lib.hid (nearC w5_ HMajorv.out)
                have Nw_ := Lib.hid (nearC w5_ HMajorw.out)
                refine wp_region_near w5_.heap.size w5_ (by kernel_rfl) (by kernel_rfl) (Below.refl _ _) ?_
                repeat (go_big_quiet_step ((first | exact Nv_.out _ | exact Nw_.out _)))
                refine wpQuiet_nil ?_
                intro w6_ hw'
                obtain ⟨q_, hx_⟩ := hw'
                have hb_ : Below w5_.heap.size w5_ w6_ := by rw [hx_]; exact q_.h
                clear hx_ Nv_ Nw_
                have HS6 := Lib.hid (HS5.out.below hb_)
                have HB6 := Lib.hid (HB5.out.trans (hb_.mono HB5.out.size))
                clear v0 v1 v2 v3 v4 v5 w0 w1 w2 w3 w4 w5 c0 c3 c5 hb_
                obtain ⟨v0, v1, v2, v3, v4, v5, w0, w1, w2, w3, w4, w5, c0, c2, c3, c4, c5⟩ := HS6.out.cells
                have y1_ : (y != Y) = !(y == Y) := rfl
                cases ey_ : (y == Y) with
                | false =>
                  rw [ey_] at y1_
                  simp only [Bool.not_false] at y1_
                  go_upto_region 9 with fail
                  clear v0 v1 v2 v3 v4 v5 w0 w1 w2 w3 w4 w5 c0 c2 c3 c4 c5
                  obtain ⟨v0, v1, v2, v3, v4, v5, w0, w1, w2, w3, w4, w5, c0, c3, c5⟩ := HS6.out.nears
                  have Nv_ := Lib.hid (nearC w6_ HMinorv.out)
                  have Nw_ := Lib.hid (nearC w6_ HMinorw.out)
                  refine wp_region_near w6_.heap.size w6_ (by kernel_rfl) (by kernel_rfl) (Below.refl _ _) ?_
                  repeat (go_big_quiet_step ((first | exact Nv_.out _ | exact Nw_.out _)))
                  refine wpQuiet_nil ?_
                  intro w7_ hw'
                  obtain ⟨q_, hx_⟩ := hw'
                  have hb_ : Below w6_.heap.size w6_ w7_ := by rw [hx_]; exact q_.h
                  clear hx_ Nv_ Nw_
                  have HS7 := Lib.hid (HS6.out.below hb_)
                  have HB7 := Lib.hid (HB6.out.trans (hb_.mono HB6.out.size))
                  clear v0 v1 v2 v3 v4 v5 w0 w1 w2 w3 w4 w5 c0 c3 c5 hb_
                  obtain ⟨v0, v1, v2, v3, v4, v5, w0, w1, w2, w3, w4, w5, c0, c2, c3, c4, c5⟩ := HS7.out.cells
                  obtain rfl : R = false := by rw [← HRR.out]; simp [tildeB, eX, eY, eZ, x1_, y1_]
                  go_wp2_with fail
                  refine (HErr.out _ _).mono ?_
                  rintro e w8_ ⟨er, rfl, hb_⟩
                  have HS8 := Lib.hid (HS7.out.below hb_)
                  have HB8 := Lib.hid (HB7.out.trans (hb_.mono HB7.out.size))
                  clear v0 v1 v2 v3 v4 v5 w0 w1 w2 w3 w4 w5 c0 c2 c3 c4 c5 hb_
                  go_wp2_with fail
                  go_ret2
                  exact ⟨_, rfl, HB8.out⟩
                | true =>
                  rw [ey_] at y1_
                  simp only [Bool.not_true] at y1_
                  go_upto_region 9 with fail
                  clear v0 v1 v2 v3 v4 v5 w0 w1 w2 w3 w4 w5 c0 c2 c3 c4 c5
                  obtain ⟨v0, v1, v2, v3, v4, v5, w0, w1, w2, w3, w4, w5, c0, c3, c5⟩ := HS6.out.nears
                  have Nv_ := Lib.hid (nearC w6_ HMinorv.out)
                  have Nw_ := Lib.hid (nearC w6_ HMinorw.out)
                  refine wp_region_near w6_.heap.size w6_ (by kernel_rfl) (by kernel_rfl) (Below.refl _ _) ?_
                  repeat (go_big_quiet_step ((first | exact Nv_.out _ | exact Nw_.out _)))
                  refine wpQuiet_nil ?_
                  intro w7_ hw'
                  obtain ⟨q_, hx_⟩ := hw'
                  have hb_ : Below w6_.heap.size w6_ w7_ := by rw [hx_]; exact q_.h
                  clear hx_ Nv_ Nw_
                  have HS7 := Lib.hid (HS6.out.below hb_)
                  have HB7 := Lib.hid (HB6.out.trans (hb_.mono HB6.out.size))
                  clear v0 v1 v2 v3 v4 v5 w0 w1 w2 w3 w4 w5 c0 c3 c5 hb_
                  obtain ⟨v0, v1, v2, v3, v4, v5, w0, w1, w2, w3, w4, w5, c0, c2, c3, c4, c5⟩ := HS7.out.cells
                  obtain rfl : R = true := by rw [← HRR.out]; simp [tildeB, eX, eY, eZ, x1_, y1_]
                  go_wp2_with fail
                  go_ret2
                  exact ⟨_, rfl, HB7.out⟩
            | false =>
              obtain rfl : R = true := by rw [← HRR.out]; simp [tildeB, eX, eY, eZ]
              go_wp2_with fail
              go_ret2
              exact ⟨_, rfl, HB5.out⟩
        | false =>
          have x1_ : (x != X) = !(x == X) := rfl
          cases ex_ : (x == X) with
          | false =>
            rw [ex_] at x1_
            simp only [Bool.not_false] at x1_
            go_upto_region 7 with fail
            clear v0 v1 v2 v3 v4 v5 w0 w1 w2 w3 w4 w5 c0 c2 c3 c4 c5
            obtain ⟨v0, v1, v2, v3, v4, v5, w0, w1, w2, w3, w4, w5, c0, c3, c5⟩ := HS5.out.nears
            have Nv_ := Lib.hid (nearC w5_ HMajorv.out)
            have Nw_ := Lib.hid (nearC w5_ HMajorw.out)
            refine wp_region_near w5_.heap.size w5_ (by kernel_rfl) (by kernel_rfl) (Below.refl _ _) ?_
            repeat (go_big_quiet_step ((first | exact Nv_.out _ | exact Nw_.out _)))
            refine wpQuiet_nil ?_
            intro w6_ hw'
            obtain ⟨q_, hx_⟩ := hw'
            have hb_ : Below w5_.heap.size w5_ w6_ := by rw [hx_]; exact q_.h
            clear hx_ Nv_ Nw_
            have HS6 := Lib.hid (HS5.out.below hb_)
            have HB6 := Lib.hid (HB5.out.trans (hb_.mono HB5.out.size))
            clear v0 v1 v2 v3 v4 v5 w0 w1 w2 w3 w4 w5 c0 c3 c5 hb_
            obtain ⟨v0, v1, v2, v3, v4, v5, w0, w1, w2, w3, w4, w5, c0, c2, c3, c4, c5⟩ := HS6.out.cells
            obtain rfl : R = false := by rw [← HRR.out]; simp [tildeB, eX, eY, eZ, x1_]
            go_wp2_with fail
            refine (HErr.out _ _).mono ?_
            rintro e w7_ ⟨er, rfl, hb_⟩
            have HS7 := Lib.hid (HS6.out.below hb_)
            have HB7 := Lib.hid (HB6.out.trans (hb_.mono HB6.out.size))
            clear v0 v1 v2 v3 v4 v5 w0 w1 w2 w3 w4 w5 c0 c2 c3 c4 c5 hb_
            go_wp2_with fail
            go_ret2
            exact ⟨_, rfl, HB7.out⟩
          | true =>
            rw [ex_] at x1_
            simp only [Bool.not_true] at x1_
            go_upto_region 7 with fail
            clear v0 v1 v2 v3 v4 v5 w0 w1 w2 w3 w4 w5 c0 c2 c3 c4 c5
            obtain ⟨v0, v1, v2, v3, v4, v5, w0, w1, w2, w3, w4, w5, c0, c3, c5⟩ := HS5.out.nears
            have Nv_ := Lib.hid (nearC w5_ HMajorv.out)
            have Nw_ := Lib.hid (nearC w5_ HMajorw.out)
            refine wp_region_near w5_.heap.size w5_ (by kernel_rfl) (by kernel_rfl) (Below.refl _ _) ?_
            repeat (go_big_quiet_step ((first | exact Nv_.out _ | exact Nw_.out _)))
            refine wpQuiet_nil ?_
            intro w6_ hw'
            obtain ⟨q_, hx_⟩ := hw'
            have hb_ : Below w5_.heap.size w5_ w6_ := by rw [hx_]; exact q_.h
            clear hx_ Nv_ Nw_
            have HS6 := Lib.hid (HS5.out.below hb_)
            have HB6 := Lib.hid (HB5.out.trans (hb_.mono HB5.out.size))
            clear v0 v1 v2 v3 v4 v5 w0 w1 w2 w3 w4 w5 c0 c3 c5 hb_
            obtain ⟨v0, v1, v2, v3, v4, v5, w0, w1, w2, w3, w4, w5, c0, c2, c3, c4, c5⟩ := HS6.out.cells
            have y1_ : (y != Y) = !(y == Y) := rfl
            cases ey_ : (y == Y) with
            | false =>
              rw [ey_] at y1_
              simp only [Bool.not_false] at y1_
              cases md with
              | true =>
                go_upto_region 9 with fail
                clear v0 v1 v2 v3 v4 v5 w0 w1 w2 w3 w4 w5 c0 c2 c3 c4 c5
                obtain ⟨v0, v1, v2, v3, v4, v5, w0, w1, w2, w3, w4, w5, c0, c3, c5⟩ := HS6.out.nears
                have Nv_ := Lib.hid (nearC w6_ HMinorv.out)
                have Nw_ := Lib.hid (nearC w6_ HMinorw.out)
                refine wp_region_near w6_.heap.size w6_ (by kernel_rfl) (by kernel_rfl) (Below.refl _ _) ?_
                repeat (go_big_quiet_step ((first | exact Nv_.out _ | exact Nw_.out _)))
                refine wpQuiet_nil ?_
                intro w7_ hw'
                obtain ⟨q_, hx_⟩ := hw'
                have hb_ : Below w6_.heap.size w6_ w7_ := by rw [hx_]; exact q_.h
                clear hx_ Nv_ Nw_
                have HS7 := Lib.hid (HS6.out.below hb_)
                have HB7 := Lib.hid (HB6.out.trans (hb_.mono HB6.out.size))
                clear v0 v1 v2 v3 v4 v5 w0 w1 w2 w3 w4 w5 c0 c3 c5 hb_
                obtain ⟨v0, v1, v2, v3, v4, v5, w0, w1, w2, w3, w4, w5, c0, c2, c3, c4, c5⟩ := HS7.out.cells
                obtain rfl : R = true := by rw [← HRR.out]; simp [tildeB, eX, eY, eZ, x1_, y1_]
                go_wp2_with fail
                go_ret2
                exact ⟨_, rfl, HB7.out⟩
              | false =>
                go_upto_region 9 with fail
                clear v0 v1 v2 v3 v4 v5 w0 w1 w2 w3 w4 w5 c0 c2 c3 c4 c5
                obtain ⟨v0, v1, v2, v3, v4, v5, w0, w1, w2, w3, w4, w5, c0, c3, c5⟩ := HS6.out.nears
                have Nv_ := Lib.hid (nearC w6_ HMinorv.out)
                have Nw_ := Lib.hid (nearC w6_ HMinorw.out)
                refine wp_region_near w6_.heap.size w6_ (by kernel_rfl) (by kernel_rfl) (Below.refl _ _) ?_
                repeat (go_big_quiet_step ((first | exact Nv_.out _ | exact Nw_.out _)))
                refine wpQuiet_nil ?_
                intro w7_ hw'
                obtain ⟨q_, hx_⟩ := hw'
                have hb_ : Below w6_.heap.size w6_ w7_ := by rw [hx_]; exact q_.h
                clear hx_ Nv_ Nw_
                have HS7 := Lib.hid (HS6.out.below hb_)
                have HB7 := Lib.hid (HB6.out.trans (hb_.mono HB6.out.size))
                clear v0 v1 v2 v3 v4 v5 w0 w1 w2 w3 w4 w5 c0 c3 c5 hb_
                obtain ⟨v0, v1, v2, v3, v4, v5, w0, w1, w2, w3, w4, w5, c0, c2, c3, c4, c5⟩ := HS7.out.cells
                obtain rfl : R = false := by rw [← HRR.out]; simp [tildeB, eX, eY, eZ, x1_, y1_]
                go_wp2_with fail
                refine (HErr.out _ _).mono ?_
                rintro e w8_ ⟨er, rfl, hb_⟩
                have HS8 := Lib.hid (HS7.out.below hb_)
                have HB8 := Lib.hid (HB7.out.trans (hb_.mono HB7.out.size))
                clear v0 v1 v2 v3 v4 v5 w0 w1 w2 w3 w4 w5 c0 c2 c3 c4 c5 hb_
                go_wp2_with fail
                go_ret2
                exact ⟨_, rfl, HB8.out⟩
            | true =>
              rw [ey_] at y1_
              simp only [Bool.not_true] at y1_
              cases md with
              | true =>
                go_upto_region 9 with fail
                clear v0 v1 v2 v3 v4 v5 w0 w1 w2 w3 w4 w5 c0 c2 c3 c4 c5
                obtain ⟨v0, v1, v2, v3, v4, v5, w0, w1, w2, w3, w4, w5, c0, c3, c5⟩ := HS6.out.nears
                have Nv_ := Lib.hid (nearC w6_ HMinorv.out)
                have Nw_ := Lib.hid (nearC w6_ HMinorw.out)
                refine wp_region_near w6_.heap.size w6_ (by kernel_rfl) (by kernel_rfl) (Below.refl _ _) ?_
                repeat (go_big_quiet_step ((first | exact Nv_.out _ | exact Nw_.out _)))
                refine wpQuiet_nil ?_
                intro w7_ hw'
                obtain ⟨q_, hx_⟩ := hw'
                have hb_ : Below w6_.heap.size w6_ w7_ := by rw [hx_]; exact q_.h
                clear hx_ Nv_ Nw_
                have HS7 := Lib.hid (HS6.out.below hb_)
                have HB7 := Lib.hid (HB6.out.trans (hb_.mono HB6.out.size))
                clear v0 v1 v2 v3 v4 v5 w0 w1 w2 w3 w4 w5 c0 c3 c5 hb_
                obtain ⟨v0, v1, v2, v3, v4, v5, w0, w1, w2, w3, w4, w5, c0, c2, c3, c4, c5⟩ := HS7.out.cells
                obtain rfl : R = true := by rw [← HRR.out]; simp [tildeB, eX, eY, eZ, x1_, y1_]
                go_wp2_with fail
                go_ret2
                exact ⟨_, rfl, HB7.out⟩
              | false =>
                go_upto_region 9 with fail
                clear v0 v1 v2 v3 v4 v5 w0 w1 w2 w3 w4 w5 c0 c2 c3 c4 c5
                obtain ⟨v0, v1, v2, v3, v4, v5, w0, w1, w2, w3, w4, w5, c0, c3, c5⟩ := HS6.out.nears
                have Nv_ := Lib.hid (nearC w6_ HMinorv.out)
                have Nw_ := Lib.hid (nearC w6_ HMinorw.out)
                refine wp_region_near w6_.heap.size w6_ (by kernel_rfl) (by kernel_rfl) (Below.refl _ _) ?_
                repeat (go_big_quiet_step ((first | exact Nv_.out _ | exact Nw_.out _)))
                refine wpQuiet_nil ?_
                intro w7_ hw'
                obtain ⟨q_, hx_⟩ := hw'
                have hb_ : Below w6_.heap.size w6_ w7_ := by rw [hx_]; exact q_.h
                clear hx_ Nv_ Nw_
                have HS7 := Lib.hid (HS6.out.below hb_)
                have HB7 := Lib.hid (HB6.out.trans (hb_.mono HB6.out.size))
                clear v0 v1 v2 v3 v4 v5 w0 w1 w2 w3 w4 w5 c0 c3 c5 hb_
                obtain ⟨v0, v1, v2, v3, v4, v5, w0, w1, w2, w3, w4, w5, c0, c2, c3, c4, c5⟩ := HS7.out.cells
                obtain rfl : R = true := by rw [← HRR.out]; simp [tildeB, eX, eY, eZ, x1_, y1_]
                go_wp2_with fail
                go_ret2
                exact ⟨_, rfl, HB7.out⟩
      | false =>
        have x1_ : (x != X) = !(x == X) := rfl
        cases ex_ : (x == X) with
        | false =>
          rw [ex_] at x1_
          simp only [Bool.not_false] at x1_
          go_upto_region 7 with fail
          clear v0 v1 v2 v3 v4 v5 w0 w1 w2 w3 w4 w5 c0 c2 c3 c4 c5
          obtain ⟨v0, v1, v2, v3, v4, v5, w0, w1, w2, w3, w4, w5, c0, c3, c5⟩ := HS4.out.nears
          have Nv_ := Lib.hid (nearC w4_ HMajorv.out)
          have Nw_ := Lib.hid (nearC w4_ HMajorw.out)
          refine wp_region_near w4_.heap.size w4_ (by kernel_rfl) (by kernel_rfl) (Below.refl _ _) ?_
          repeat (go_big_quiet_step ((first | exact Nv_.out _ | exact Nw_.out _)))
          refine wpQuiet_nil ?_
          intro w5_ hw'
          obtain ⟨q_, hx_⟩ := hw'
          have hb_ : Below w4_.heap.size w4_ w5_ := by rw [hx_]; exact q_.h
          clear hx_ Nv_ Nw_
          have HS5 := Lib.hid (HS4.out.below hb_)
          have HB5 := Lib.hid (HB4.out.trans (hb_.mono HB4.out.size))
          clear v0 v1 v2 v3 v4 v5 w0 w1 w2 w3 w4 w5 c0 c3 c5 hb_
          obtain ⟨v0, v1, v2, v3, v4, v5, w0, w1, w2, w3, w4, w5, c0, c2, c3, c4, c5⟩ := HS5.out.cells
          obtain rfl : R = false := by rw [← HRR.out]; simp [tildeB, eX, eY, x1_]
          go_wp2_with fail
          refine (HErr.out _ _).mono ?_
          rintro e w6_ ⟨er, rfl, hb_⟩
          have HS6 := Lib.hid (HS5.out.below hb_)
          have HB6 := Lib.hid (HB5.out.trans (hb_.mono HB5.out.size))
          clear v0 v1 v2 v3 v4 v5 w0 w1 w2 w3 w4 w5 c0 c2 c3 c4 c5 hb_
          go_wp2_with fail
          go_ret2
          exact ⟨_, rfl, HB6.out⟩
        | true =>
          rw [ex_] at x1_
          simp only [Bool.not_true] at x1_
          go_upto_region 7 with fail
          clear v0 v1 v2 v3 v4 v5 w0 w1 w2 w3 w4 w5 c0 c2 c3 c4 c5
          obtain ⟨v0, v1, v2, v3, v4, v5, w0, w1, w2, w3, w4, w5, c0, c3, c5⟩ := HS4.out.nears
          have Nv_ := Lib.hid (nearC w4_ HMajorv.out)
          have Nw_ := Lib.hid (nearC w4_ HMajorw.out)
          refine wp_region_near w4_.heap.size w4_ (by kernel_rfl) (by kernel_rfl) (Below.refl _ _) ?_
          repeat (go_big_quiet_step ((first | exact Nv_.out _ | exact Nw_.out _)))
          refine wpQuiet_nil ?_
          intro w5_ hw'
          obtain ⟨q_, hx_⟩ := hw'
          have hb_ : Below w4_.heap.size w4_ w5_ := by rw [hx_]; exact q_.h
          clear hx_ Nv_ Nw_
          have HS5 := Lib.hid (HS4.out.below hb_)
          have HB5 := Lib.hid (HB4.out.trans (hb_.mono HB4.out.size))
          clear v0 v1 v2 v3 v4 v5 w0 w1 w2 w3 w4 w5 c0 c3 c5 hb_
          obtain ⟨v0, v1, v2, v3, v4, v5, w0, w1, w2, w3, w4, w5, c0, c2, c3, c4, c5⟩ := HS5.out.cells
          have y1_ : (y != Y) = !(y == Y) := rfl
          cases ey_ : (y == Y) with
          | false =>
            rw [ey_] at y1_
            simp only [Bool.not_false] at y1_
            cases md with
            | true =>
              go_upto_region 9 with fail
              clear v0 v1 v2 v3 v4 v5 w0 w1 w2 w3 w4 w5 c0 c2 c3 c4 c5
              obtain ⟨v0, v1, v2, v3, v4, v5, w0, w1, w2, w3, w4, w5, c0, c3, c5⟩ := HS5.out.nears
              have Nv_ := Lib.hid (nearC w5_ HMinorv.out)
              have Nw_ := Lib.hid (nearC w5_ HMinorw.out)
              refine wp_region_near w5_.heap.size w5_ (by kernel_rfl) (by kernel_rfl) (Below.refl _ _) ?_
              repeat (go_big_quiet_step ((first | exact Nv_.out _ | exact Nw_.out _)))
              refine wpQuiet_nil ?_
              intro w6_ hw'
              obtain ⟨q_, hx_⟩ := hw'
              have hb_ : Below w5_.heap.size w5_ w6_ := by rw [hx_]; exact q_.h
              clear hx_ Nv_ Nw_
              have HS6 := Lib.hid (HS5.out.below hb_)
              have HB6 := Lib.hid (HB5.out.trans (hb_.mono HB5.out.size))
              clear v0 v1 v2 v3 v4 v5 w0 w1 w2 w3 w4 w5 c0 c3 c5 hb_
              obtain ⟨v0, v1, v2, v3, v4, v5, w0, w1, w2, w3, w4, w5, c0, c2, c3, c4, c5⟩ := HS6.out.cells
              obtain rfl : R = true := by rw [← HRR.out]; simp [tildeB, eX, eY, x1_, y1_]
              go_wp2_with fail
              go_ret2
              exact ⟨_, rfl, HB6.out⟩
            | false =>
              go_upto_region 9 with fail
              clear v0 v1 v2 v3 v4 v5 w0 w1 w2 w3 w4 w5 c0 c2 c3 c4 c5
              obtain ⟨v0, v1, v2, v3, v4, v5, w0, w1, w2, w3, w4, w5, c0, c3, c5⟩ := HS5.out.nears
              have Nv_ := Lib.hid (nearC w5_ HMinorv.out)
              have Nw_ := Lib.hid (nearC w5_ HMinorw.out)
              refine wp_region_near w5_.heap.size w5_ (by kernel_rfl) (by kernel_rfl) (Below.refl _ _) ?_
              repeat (go_big_quiet_step ((first | exact Nv_.out _ | exact Nw_.out _)))
              refine wpQuiet_nil ?_
              intro w6_ hw'
              obtain ⟨q_, hx_⟩ := hw'
              have hb_ : Below w5_.heap.size w5_ w6_ := by rw [hx_]; exact q_.h
              clear hx_ Nv_ Nw_
              have HS6 := Lib.hid (HS5.out.below hb_)
              have HB6 := Lib.hid (HB5.out.trans (hb_.mono HB5.out.size))
              clear v0 v1 v2 v3 v4 v5 w0 w1 w2 w3 w4 w5 c0 c3 c5 hb_
              obtain ⟨v0, v1, v2, v3, v4, v5, w0, w1, w2, w3, w4, w5, c0, c2, c3, c4, c5⟩ := HS6.out.cells
              obtain rfl : R = false := by rw [← HRR.out]; simp [tildeB, eX, eY, x1_, y1_]
              go_wp2_with fail
              refine (HErr.out _ _).mono ?_
              rintro e w7_ ⟨er, rfl, hb_⟩
              have HS7 := Lib.hid (HS6.out.below hb_)
              have HB7 := Lib.hid (HB6.out.trans (hb_.mono HB6.out.size))
              clear v0 v1 v2 v3 v4 v5 w0 w1 w2 w3 w4 w5 c0 c2 c3 c4 c5 hb_
              go_wp2_with fail
              go_ret2
              exact ⟨_, rfl, HB7.out⟩
          | true =>
            rw [ey_] at y1_
            simp only [Bool.not_true] at y1_
            cases md with
            | true =>
              go_upto_region 9 with fail
              clear v0 v1 v2 v3 v4 v5 w0 w1 w2 w3 w4 w5 c0 c2 c3 c4 c5
              obtain ⟨v0, v1, v2, v3, v4, v5, w0, w1, w2, w3, w4, w5, c0, c3, c5⟩ := HS5.out.nears
              have Nv_ := Lib.hid (nearC w5_ HMinorv.out)
              have Nw_ := Lib.hid (nearC w5_ HMinorw.out)
              refine wp_region_near w5_.heap.size w5_ (by kernel_rfl) (by kernel_rfl) (Below.refl _ _) ?_
              repeat (go_big_quiet_step ((first | exact Nv_.out _ | exact Nw_.out _)))
              refine wpQuiet_nil ?_
              intro w6_ hw'
              obtain ⟨q_, hx_⟩ := hw'
              have hb_ : Below w5_.heap.size w5_ w6_ := by rw [hx_]; exact q_.h
              clear hx_ Nv_ Nw_
              have HS6 := Lib.hid (HS5.out.below hb_)
              have HB6 := Lib.hid (HB5.out.trans (hb_.mono HB5.out.size))
              clear v0 v1 v2 v3 v4 v5 w0 w1 w2 w3 w4 w5 c0 c3 c5 hb_
              obtain ⟨v0, v1, v2, v3, v4, v5, w0, w1, w2, w3, w4, w5, c0, c2, c3, c4, c5⟩ := HS6.out.cells
              obtain rfl : R = true := by rw [← HRR.out]; simp [tildeB, eX, eY, x1_, y1_]
              go_wp2_with fail
              go_ret2
              exact ⟨_, rfl, HB6.out⟩
            | false =>
              go_upto_region 9 with fail
              clear v0 v1 v2 v3 v4 v5 w0 w1 w2 w3 w4 w5 c0 c2 c3 c4 c5
              obtain ⟨v0, v1, v2, v3, v4, v5, w0, w1, w2, w3, w4, w5, c0, c3, c5⟩ := HS5.out.nears
              have Nv_ := Lib.hid (nearC w5_ HMinorv.out)
              have Nw_ := Lib.hid (nearC w5_ HMinorw.out)
              refine wp_region_near w5_.heap.size w5_ (by kernel_rfl) (by kernel_rfl) (Below.refl _ _) ?_
              repeat (go_big_quiet_step ((first | exact Nv_.out _ | exact Nw_.out _)))
              refine wpQuiet_nil ?_
              intro w6_ hw'
              obtain ⟨q_, hx_⟩ := hw'
              have hb_ : Below w5_.heap.size w5_ w6_ := by rw [hx_]; exact q_.h
              clear hx_ Nv_ Nw_
              have HS6 := Lib.hid (HS5.out.below hb_)
              have HB6 := Lib.hid (HB5.out.trans (hb_.mono HB5.out.size))
              clear v0 v1 v2 v3 v4 v5 w0 w1 w2 w3 w4 w5 c0 c3 c5 hb_
              obtain ⟨v0, v1, v2, v3, v4, v5, w0, w1, w2, w3, w4, w5, c0, c2, c3, c4, c5⟩ := HS6.out.cells
              obtain rfl : R = true := by rw [← HRR.out]; simp [tildeB, eX, eY, x1_, y1_]
              go_wp2_with fail
              go_ret2
              exact ⟨_, rfl, HB6.out⟩
    | false =>
      have x1_ : (x != X) = !(x == X) := rfl
      cases ex_ : (x == X) with
      | false =>
        rw [ex_] at x1_
        simp only [Bool.not_false] at x1_
        go_upto_region 7 with fail
        clear v0 v1 v2 v3 v4 v5 w0 w1 w2 w3 w4 w5 c0 c2 c3 c4 c5
        obtain ⟨v0, v1, v2, v3, v4, v5, w0, w1, w2, w3, w4, w5, c0, c3, c5⟩ := HS3.out.nears
        have Nv_ := Lib.hid (nearC w3_ HMajorv.out)
        have Nw_ := Lib.hid (nearC w3_ HMajorw.out)
        refine wp_region_near w3_.heap.size w3_ (by kernel_rfl) (by kernel_rfl) (Below.refl _ _) ?_
        repeat (go_big_quiet_step ((first | exact Nv_.out _ | exact Nw_.out _)))
        refine wpQuiet_nil ?_
        intro w4_ hw'
        obtain ⟨q_, hx_⟩ := hw'
        have hb_ : Below w3_.heap.size w3_ w4_ := by rw [hx_]; exact q_.h
        clear hx_ Nv_ Nw_
        have HS4 := Lib.hid (HS3.out.below hb_)
        have HB4 := Lib.hid (HB3.out.trans (hb_.mono HB3.out.size))
        clear v0 v1 v2 v3 v4 v5 w0 w1 w2 w3 w4 w5 c0 c3 c5 hb_
        obtain ⟨v0, v1, v2, v3, v4, v5, w0, w1, w2, w3, w4, w5, c0, c2, c3, c4, c5⟩ := HS4.out.cells
        obtain rfl : R = false := by rw [← HRR.out]; simp [tildeB, eX, x1_]
        go_wp2_with fail
        refine (HErr.out _ _).mono ?_
        rintro e w5_ ⟨er, rfl, hb_⟩
        have HS5 := Lib.hid (HS4.out.below hb_)
        have HB5 := Lib.hid (HB4.out.trans (hb_.mono HB4.out.size))
        clear v0 v1 v2 v3 v4 v5 w0 w1 w2 w3 w4 w5 c0 c2 c3 c4 c5 hb_
        go_wp2_with fail
        go_ret2
        exact ⟨_, rfl, HB5.out⟩
      | true =>
        rw [ex_] at x1_
        simp only [Bool.not_true] at x1_
        go_upto_region 7 with fail
        clear v0 v1 v2 v3 v4 v5 w0 w1 w2 w3 w4 w5 c0 c2 c3 c4 c5
        obtain ⟨v0, v1, v2, v3, v4, v5, w0, w1, w2, w3, w4, w5, c0, c3, c5⟩ := HS3.out.nears
        have Nv_ := Lib.hid (nearC w3_ HMajorv.out)
        have Nw_ := Lib.hid (nearC w3_ HMajorw.out)
        refine wp_region_near w3_.heap.size w3_ (by kernel_rfl) (by kernel_rfl) (Below.refl _ _) ?_
        repeat (go_big_quiet_step ((first | exact Nv_.out _ | exact Nw_.out _)))
        refine wpQuiet_nil ?_
        intro w4_ hw'
        obtain ⟨q_, hx_⟩ := hw'
        have hb_ : Below w3_.heap.size w3_ w4_ := by rw [hx_]; exact q_.h
        clear hx_ Nv_ Nw_
        have HS4 := Lib.hid (HS3.out.below hb_)
        have HB4 := Lib.hid (HB3.out.trans (hb_.mono HB3.out.size))
        clear v0 v1 v2 v3 v4 v5 w0 w1 w2 w3 w4 w5 c0 c3 c5 hb_
        obtain ⟨v0, v1, v2, v3, v4, v5, w0, w1, w2, w3, w4, w5, c0, c2, c3, c4, c5⟩ := HS4.out.cells
        have y1_ : (y != Y) = !(y == Y) := rfl
        cases ey_ : (y == Y) with
        | false =>
          rw [ey_] at y1_
          simp only [Bool.not_false] at y1_
          cases md with
          | true =>
            go_upto_region 9 with fail
            clear v0 v1 v2 v3 v4 v5 w0 w1 w2 w3 w4 w5 c0 c2 c3 c4 c5
            obtain ⟨v0, v1, v2, v3, v4, v5, w0, w1, w2, w3, w4, w5, c0, c3, c5⟩ := HS4.out.nears
            have Nv_ := Lib.hid (nearC w4_ HMinorv.out)
            have Nw_ := Lib.hid (nearC w4_ HMinorw.out)
            refine wp_region_near w4_.heap.size w4_ (by kernel_rfl) (by kernel_rfl) (Below.refl _ _) ?_
            repeat (go_big_quiet_step ((first | exact Nv_.out _ | exact Nw_.out _)))
            refine wpQuiet_nil ?_
            intro w5_ hw'
            obtain ⟨q_, hx_⟩ := hw'
            have hb_ : Below w4_.heap.size w4_ w5_ := by rw [hx_]; exact q_.h
            clear hx_ Nv_ Nw_
            have HS5 := Lib.hid (HS4.out.below hb_)
            have HB5 := Lib.hid (HB4.out.trans (hb_.mono HB4.out.size))
            clear v0 v1 v2 v3 v4 v5 w0 w1 w2 w3 w4 w5 c0 c3 c5 hb_
            obtain ⟨v0, v1, v2, v3, v4, v5, w0, w1, w2, w3, w4, w5, c0, c2, c3, c4, c5⟩ := HS5.out.cells
            obtain rfl : R = true := by rw [← HRR.out]; simp [tildeB, eX, x1_, y1_]
            go_wp2_with fail
            go_ret2
            exact ⟨_, rfl, HB5.out⟩
          | false =>
            go_upto_region 9 with fail
            clear v0 v1 v2 v3 v4 v5 w0 w1 w2 w3 w4 w5 c0 c2 c3 c4 c5
            obtain ⟨v0, v1, v2, v3, v4, v5, w0, w1, w2, w3, w4, w5, c0, c3, c5⟩ := HS4.out.nears
            have Nv_ := Lib.hid (nearC w4_ HMinorv.out)
            have Nw_ := Lib.hid (nearC w4_ HMinorw.out)
            refine wp_region_near w4_.heap.size w4_ (by kernel_rfl) (by kernel_rfl) (Below.refl _ _) ?_
            repeat (go_big_quiet_step ((first | exact Nv_.out _ | exact Nw_.out _)))
            refine wpQuiet_nil ?_
            intro w5_ hw'
            obtain ⟨q_, hx_⟩ := hw'
            have hb_ : Below w4_.heap.size w4_ w5_ := by rw [hx_]; exact q_.h
            clear hx_ Nv_ Nw_
            have HS5 := Lib.hid (HS4.out.below hb_)
            have HB5 := Lib.hid (HB4.out.trans (hb_.mono HB4.out.size))
            clear v0 v1 v2 v3 v4 v5 w0 w1 w2 w3 w4 w5 c0 c3 c5 hb_
            obtain ⟨v0, v1, v2, v3, v4, v5, w0, w1, w2, w3, w4, w5, c0, c2, c3, c4, c5⟩ := HS5.out.cells
            obtain rfl : R = false := by rw [← HRR.out]; simp [tildeB, eX, x1_, y1_]
            go_wp2_with fail
            refine (HErr.out _ _).mono ?_
            rintro e w6_ ⟨er, rfl, hb_⟩
            have HS6 := Lib.hid (HS5.out.below hb_)
            have HB6 := Lib.hid (HB5.out.trans (hb_.mono HB5.out.size))
            clear v0 v1 v2 v3 v4 v5 w0 w1 w2 w3 w4 w5 c0 c2 c3 c4 c5 hb_
            go_wp2_with fail
            go_ret2
            exact ⟨_, rfl, HB6.out⟩
        | true =>
          rw [ey_] at y1_
          simp only [Bool.not_true] at y1_
          cases md with
          | true =>
            go_upto_region 9 with fail
            clear v0 v1 v2 v3 v4 v5 w0 w1 w2 w3 w4 w5 c0 c2 c3 c4 c5
            obtain ⟨v0, v1, v2, v3, v4, v5, w0, w1, w2, w3, w4, w5, c0, c3, c5⟩ := HS4.out.nears
            have Nv_ := Lib.hid (nearC w4_ HMinorv.out)
            have Nw_ := Lib.hid (nearC w4_ HMinorw.out)
            refine wp_region_near w4_.heap.size w4_ (by kernel_rfl) (by kernel_rfl) (Below.refl _ _) ?_
            repeat (go_big_quiet_step ((first | exact Nv_.out _ | exact Nw_.out _)))
            refine wpQuiet_nil ?_
            intro w5_ hw'
            obtain ⟨q_, hx_⟩ := hw'
            have hb_ : Below w4_.heap.size w4_ w5_ := by rw [hx_]; exact q_.h
            clear hx_ Nv_ Nw_
            have HS5 := Lib.hid (HS4.out.below hb_)
            have HB5 := Lib.hid (HB4.out.trans (hb_.mono HB4.out.size))
            clear v0 v1 v2 v3 v4 v5 w0 w1 w2 w3 w4 w5 c0 c3 c5 hb_
            obtain ⟨v0, v1, v2, v3, v4, v5, w0, w1, w2, w3, w4, w5, c0, c2, c3, c4, c5⟩ := HS5.out.cells
            obtain rfl : R = true := by rw [← HRR.out]; simp [tildeB, eX, x1_, y1_]
            go_wp2_with fail
            go_ret2
            exact ⟨_, rfl, HB5.out⟩
          | false =>
            go_upto_region 9 with fail
            clear v0 v1 v2 v3 v4 v5 w0 w1 w2 w3 w4 w5 c0 c2 c3 c4 c5
            obtain ⟨v0, v1, v2, v3, v4, v5, w0, w1, w2, w3, w4, w5, c0, c3, c5⟩ := HS4.out.nears
            have Nv_ := Lib.hid (nearC w4_ HMinorv.out)
            have Nw_ := Lib.hid (nearC w4_ HMinorw.out)
            refine wp_region_near w4_.heap.size w4_ (by kernel_rfl) (by kernel_rfl) (Below.refl _ _) ?_
            repeat (go_big_quiet_step ((first | exact Nv_.out _ | exact Nw_.out _)))
            refine wpQuiet_nil ?_
            intro w5_ hw'
            obtain ⟨q_, hx_⟩ := hw'
            have hb_ : Below w4_.heap.size w4_ w5_ := by rw [hx_]; exact q_.h
            clear hx_ Nv_ Nw_
            have HS5 := Lib.hid (HS4.out.below hb_)
            have HB5 := Lib.hid (HB4.out.trans (hb_.mono HB4.out.size))
            clear v0 v1 v2 v3 v4 v5 w0 w1 w2 w3 w4 w5 c0 c3 c5 hb_
            obtain ⟨v0, v1, v2, v3, v4, v5, w0, w1, w2, w3, w4, w5, c0, c2, c3, c4, c5⟩ := HS5.out.cells
            obtain rfl : R = true := by rw [← HRR.out]; simp [tildeB, eX, x1_, y1_]
            go_wp2_with fail
            go_ret2
            exact ⟨_, rfl, HB5.out⟩
set_option maxHeartbeats 8000000 in
theorem caret_walk (bv cb vb : Nat) (x y z X Y Z : Int) (md di pd : Bool) (ov oo op ow : ByteArray) (w : World) (hXn : 0 ≤ X) (hYn : 0 ≤ Y) (L R : Bool) (hR : caretB L x y z X Y Z md pd = R) (C : ∀ W, Below w.heap.size w W → St W bv cb vb x y z X Y Z md di pd ov oo op ow → Calls Tryz.prog 87 #[.pointer (some ⟨bv, 0, none⟩), .pointer (some ⟨vb, 0, none⟩)] W fun e w' => e = .returned (.bool L) ∧ Below W.heap.size W w') (h : St w bv cb vb x y z X Y Z md di pd ov oo op ow) :
    Calls Tryz.prog 72 #[.pointer (some ⟨bv, 0, none⟩), .pointer (some ⟨cb, 0, none⟩), .bool false] w (AskRes (R) w) := by
  have HErr := Lib.hid err_walk
  have HB0 := Lib.hid (Below.refl w.heap.size w)
  have HS0 := Lib.hid h
  have HPrereleasev : Hid (∀ W, Calls Tryz.prog 80 #[.agg #[.int .u64 x, .int .u64 y, .int .u64 z, .string ⟨#[]⟩, .string ⟨#[]⟩, .string ov]] W fun e w' => e = .returned (.string ⟨#[]⟩) ∧ Below W.heap.size W w') := Lib.hid fun W => semver_Version_Prerelease.calls _ _ _ _ _ _ _ W rfl
  have HPrereleasew : Hid (∀ W, Calls Tryz.prog 80 #[.agg #[.int .u64 X, .int .u64 Y, .int .u64 Z, .string ⟨#[]⟩, .string ⟨#[]⟩, .string ow]] W fun e w' => e = .returned (.string ⟨#[]⟩) ∧ Below W.heap.size W w') := Lib.hid fun W => semver_Version_Prerelease.calls _ _ _ _ _ _ _ W rfl
  have HMajorv : Hid (∀ W, Calls Tryz.prog 82 #[.agg #[.int .u64 x, .int .u64 y, .int .u64 z, .string ⟨#[]⟩, .string ⟨#[]⟩, .string ov]] W fun e w' => e = .returned (.int .u64 x) ∧ Below W.heap.size W w') := Lib.hid fun W => semver_Version_Major.calls _ _ _ _ _ _ _ W rfl
  have HMajorw : Hid (∀ W, Calls Tryz.prog 82 #[.agg #[.int .u64 X, .int .u64 Y, .int .u64 Z, .string ⟨#[]⟩, .string ⟨#[]⟩, .string ow]] W fun e w' => e = .returned (.int .u64 X) ∧ Below W.heap.size W w') := Lib.hid fun W => semver_Version_Major.calls _ _ _ _ _ _ _ W rfl
  have HMinorv : Hid (∀ W, Calls Tryz.prog 83 #[.agg #[.int .u64 x, .int .u64 y, .int .u64 z, .string ⟨#[]⟩, .string ⟨#[]⟩, .string ov]] W fun e w' => e = .returned (.int .u64 y) ∧ Below W.heap.size W w') := Lib.hid fun W => semver_Version_Minor.calls _ _ _ _ _ _ _ W rfl
  have HMinorw : Hid (∀ W, Calls Tryz.prog 83 #[.agg #[.int .u64 X, .int .u64 Y, .int .u64 Z, .string ⟨#[]⟩, .string ⟨#[]⟩, .string ow]] W fun e w' => e = .returned (.int .u64 Y) ∧ Below W.heap.size W w') := Lib.hid fun W => semver_Version_Minor.calls _ _ _ _ _ _ _ W rfl
  have HPatchv : Hid (∀ W, Calls Tryz.prog 84 #[.agg #[.int .u64 x, .int .u64 y, .int .u64 z, .string ⟨#[]⟩, .string ⟨#[]⟩, .string ov]] W fun e w' => e = .returned (.int .u64 z) ∧ Below W.heap.size W w') := Lib.hid fun W => semver_Version_Patch.calls _ _ _ _ _ _ _ W rfl
  have HPatchw : Hid (∀ W, Calls Tryz.prog 84 #[.agg #[.int .u64 X, .int .u64 Y, .int .u64 Z, .string ⟨#[]⟩, .string ⟨#[]⟩, .string ow]] W fun e w' => e = .returned (.int .u64 Z) ∧ Below W.heap.size W w') := Lib.hid fun W => semver_Version_Patch.calls _ _ _ _ _ _ _ W rfl
  clear h
  go_enter Tryz.func72, Tryz.ntmps72
  have HC := Lib.hid C
  have HRR := Lib.hid hR
  have hNN := Lib.hid (And.intro hXn hYn)
  clear C hR hXn hYn
  obtain ⟨v0, v1, v2, v3, v4, v5, w0, w1, w2, w3, w4, w5, c0, c2, c3, c4, c5⟩ := HS0.out.cells
  go_wp2_with fail
  refine (HPrereleasev.out _).mono ?_
  rintro e w1_ ⟨rfl, hb_⟩
  have HS1 := Lib.hid (HS0.out.below hb_)
  have HB1 := Lib.hid (HB0.out.trans (hb_.mono HB0.out.size))
  clear v0 v1 v2 v3 v4 v5 w0 w1 w2 w3 w4 w5 c0 c2 c3 c4 c5 hb_
  obtain ⟨v0, v1, v2, v3, v4, v5, w0, w1, w2, w3, w4, w5, c0, c2, c3, c4, c5⟩ := HS1.out.cells
  go_wp2_with fail
  refine (HC.out _ HB1.out HS1.out).mono ?_
  rintro e w2_ ⟨rfl, hb_⟩
  have HS2 := Lib.hid (HS1.out.below hb_)
  have HB2 := Lib.hid (HB1.out.trans (hb_.mono HB1.out.size))
  clear v0 v1 v2 v3 v4 v5 w0 w1 w2 w3 w4 w5 c0 c2 c3 c4 c5 hb_
  obtain ⟨v0, v1, v2, v3, v4, v5, w0, w1, w2, w3, w4, w5, c0, c2, c3, c4, c5⟩ := HS2.out.cells
  cases L with
  | true =>
    obtain rfl : R = false := by rw [← HRR.out]; simp [caretB]
    go_wp2_with fail
    refine (HErr.out _ _).mono ?_
    rintro e w3_ ⟨er, rfl, hb_⟩
    have HS3 := Lib.hid (HS2.out.below hb_)
    have HB3 := Lib.hid (HB2.out.trans (hb_.mono HB2.out.size))
    clear v0 v1 v2 v3 v4 v5 w0 w1 w2 w3 w4 w5 c0 c2 c3 c4 c5 hb_
    go_wp2_with fail
    go_ret2
    exact ⟨_, rfl, HB3.out⟩
  | false =>
    go_wp2_with fail
    refine (HMajorw.out _).mono ?_
    rintro e w3_ ⟨rfl, hb_⟩
    have HS3 := Lib.hid (HS2.out.below hb_)
    have HB3 := Lib.hid (HB2.out.trans (hb_.mono HB2.out.size))
    clear v0 v1 v2 v3 v4 v5 w0 w1 w2 w3 w4 w5 c0 c2 c3 c4 c5 hb_
    obtain ⟨v0, v1, v2, v3, v4, v5, w0, w1, w2, w3, w4, w5, c0, c2, c3, c4, c5⟩ := HS3.out.cells
    cases eX : decide (0 < X) with
    | true =>
      cases e7_ : (x == X) with
      | true =>
        go_upto_region 7 with fail
        clear v0 v1 v2 v3 v4 v5 w0 w1 w2 w3 w4 w5 c0 c2 c3 c4 c5
        obtain ⟨v0, v1, v2, v3, v4, v5, w0, w1, w2, w3, w4, w5, c0, c3, c5⟩ := HS3.out.nears
        have Nv_ := Lib.hid (nearC w3_ HMajorv.out)
        have Nw_ := Lib.hid (nearC w3_ HMajorw.out)
        refine wp_region_near w3_.heap.size w3_ (by kernel_rfl) (by kernel_rfl) (Below.refl _ _) ?_
        repeat (go_big_quiet_step ((first | exact Nv_.out _ | exact Nw_.out _)))
        refine wpQuiet_nil ?_
        intro w4_ hw'
        obtain ⟨q_, hx_⟩ := hw'
        have hb_ : Below w3_.heap.size w3_ w4_ := by rw [hx_]; exact q_.h
        clear hx_ Nv_ Nw_
        have HS4 := Lib.hid (HS3.out.below hb_)
        have HB4 := Lib.hid (HB3.out.trans (hb_.mono HB3.out.size))
        clear v0 v1 v2 v3 v4 v5 w0 w1 w2 w3 w4 w5 c0 c3 c5 hb_
        obtain ⟨v0, v1, v2, v3, v4, v5, w0, w1, w2, w3, w4, w5, c0, c2, c3, c4, c5⟩ := HS4.out.cells
        obtain rfl : R = true := by rw [← HRR.out]; simp [caretB, eX, e7_]
        go_wp2_with fail
        go_ret2
        exact ⟨_, rfl, HB4.out⟩
      | false =>
        go_upto_region 7 with fail
        clear v0 v1 v2 v3 v4 v5 w0 w1 w2 w3 w4 w5 c0 c2 c3 c4 c5
        obtain ⟨v0, v1, v2, v3, v4, v5, w0, w1, w2, w3, w4, w5, c0, c3, c5⟩ := HS3.out.nears
        have Nv_ := Lib.hid (nearC w3_ HMajorv.out)
        have Nw_ := Lib.hid (nearC w3_ HMajorw.out)
        refine wp_region_near w3_.heap.size w3_ (by kernel_rfl) (by kernel_rfl) (Below.refl _ _) ?_
        repeat (go_big_quiet_step ((first | exact Nv_.out _ | exact Nw_.out _)))
        refine wpQuiet_nil ?_
        intro w4_ hw'
        obtain ⟨q_, hx_⟩ := hw'
        have hb_ : Below w3_.heap.size w3_ w4_ := by rw [hx_]; exact q_.h
        clear hx_ Nv_ Nw_
        have HS4 := Lib.hid (HS3.out.below hb_)
        have HB4 := Lib.hid (HB3.out.trans (hb_.mono HB3.out.size))
        clear v0 v1 v2 v3 v4 v5 w0 w1 w2 w3 w4 w5 c0 c3 c5 hb_
        obtain ⟨v0, v1, v2, v3, v4, v5, w0, w1, w2, w3, w4, w5, c0, c2, c3, c4, c5⟩ := HS4.out.cells
        obtain rfl : R = false := by rw [← HRR.out]; simp [caretB, eX, e7_]
        go_wp2_with fail
        refine (HErr.out _ _).mono ?_
        rintro e w5_ ⟨er, rfl, hb_⟩
        have HS5 := Lib.hid (HS4.out.below hb_)
        have HB5 := Lib.hid (HB4.out.trans (hb_.mono HB4.out.size))
        clear v0 v1 v2 v3 v4 v5 w0 w1 w2 w3 w4 w5 c0 c2 c3 c4 c5 hb_
        go_wp2_with fail
        go_ret2
        exact ⟨_, rfl, HB5.out⟩
    | false =>
      cases md with
      | true =>
        cases e7_ : (x == X) with
        | true =>
          go_upto_region 7 with fail
          clear v0 v1 v2 v3 v4 v5 w0 w1 w2 w3 w4 w5 c0 c2 c3 c4 c5
          obtain ⟨v0, v1, v2, v3, v4, v5, w0, w1, w2, w3, w4, w5, c0, c3, c5⟩ := HS3.out.nears
          have Nv_ := Lib.hid (nearC w3_ HMajorv.out)
          have Nw_ := Lib.hid (nearC w3_ HMajorw.out)
          refine wp_region_near w3_.heap.size w3_ (by kernel_rfl) (by kernel_rfl) (Below.refl _ _) ?_
          repeat (go_big_quiet_step ((first | exact Nv_.out _ | exact Nw_.out _)))
          refine wpQuiet_nil ?_
          intro w4_ hw'
          obtain ⟨q_, hx_⟩ := hw'
          have hb_ : Below w3_.heap.size w3_ w4_ := by rw [hx_]; exact q_.h
          clear hx_ Nv_ Nw_
          have HS4 := Lib.hid (HS3.out.below hb_)
          have HB4 := Lib.hid (HB3.out.trans (hb_.mono HB3.out.size))
          clear v0 v1 v2 v3 v4 v5 w0 w1 w2 w3 w4 w5 c0 c3 c5 hb_
          obtain ⟨v0, v1, v2, v3, v4, v5, w0, w1, w2, w3, w4, w5, c0, c2, c3, c4, c5⟩ := HS4.out.cells
          obtain rfl : R = true := by rw [← HRR.out]; simp [caretB, eX, e7_]
          go_wp2_with fail
          go_ret2
          exact ⟨_, rfl, HB4.out⟩
        | false =>
          go_upto_region 7 with fail
          clear v0 v1 v2 v3 v4 v5 w0 w1 w2 w3 w4 w5 c0 c2 c3 c4 c5
          obtain ⟨v0, v1, v2, v3, v4, v5, w0, w1, w2, w3, w4, w5, c0, c3, c5⟩ := HS3.out.nears
          have Nv_ := Lib.hid (nearC w3_ HMajorv.out)
          have Nw_ := Lib.hid (nearC w3_ HMajorw.out)
          refine wp_region_near w3_.heap.size w3_ (by kernel_rfl) (by kernel_rfl) (Below.refl _ _) ?_
          repeat (go_big_quiet_step ((first | exact Nv_.out _ | exact Nw_.out _)))
          refine wpQuiet_nil ?_
          intro w4_ hw'
          obtain ⟨q_, hx_⟩ := hw'
          have hb_ : Below w3_.heap.size w3_ w4_ := by rw [hx_]; exact q_.h
          clear hx_ Nv_ Nw_
          have HS4 := Lib.hid (HS3.out.below hb_)
          have HB4 := Lib.hid (HB3.out.trans (hb_.mono HB3.out.size))
          clear v0 v1 v2 v3 v4 v5 w0 w1 w2 w3 w4 w5 c0 c3 c5 hb_
          obtain ⟨v0, v1, v2, v3, v4, v5, w0, w1, w2, w3, w4, w5, c0, c2, c3, c4, c5⟩ := HS4.out.cells
          obtain rfl : R = false := by rw [← HRR.out]; simp [caretB, eX, e7_]
          go_wp2_with fail
          refine (HErr.out _ _).mono ?_
          rintro e w5_ ⟨er, rfl, hb_⟩
          have HS5 := Lib.hid (HS4.out.below hb_)
          have HB5 := Lib.hid (HB4.out.trans (hb_.mono HB4.out.size))
          clear v0 v1 v2 v3 v4 v5 w0 w1 w2 w3 w4 w5 c0 c2 c3 c4 c5 hb_
          go_wp2_with fail
          go_ret2
          exact ⟨_, rfl, HB5.out⟩
      | false =>
        have eX0 : (X == 0) = true := by have := of_decide_eq_false eX; have := hNN.out.1; simp; omega
        go_wp2_with fail
        refine (HMajorw.out _).mono ?_
        rintro e w4_ ⟨rfl, hb_⟩
        have HS4 := Lib.hid (HS3.out.below hb_)
        have HB4 := Lib.hid (HB3.out.trans (hb_.mono HB3.out.size))
        clear v0 v1 v2 v3 v4 v5 w0 w1 w2 w3 w4 w5 c0 c2 c3 c4 c5 hb_
        obtain ⟨v0, v1, v2, v3, v4, v5, w0, w1, w2, w3, w4, w5, c0, c2, c3, c4, c5⟩ := HS4.out.cells
        go_wp2_with fail
        refine (HMajorv.out _).mono ?_
        rintro e w5_ ⟨rfl, hb_⟩
        have HS5 := Lib.hid (HS4.out.below hb_)
        have HB5 := Lib.hid (HB4.out.trans (hb_.mono HB4.out.size))
        clear v0 v1 v2 v3 v4 v5 w0 w1 w2 w3 w4 w5 c0 c2 c3 c4 c5 hb_
        obtain ⟨v0, v1, v2, v3, v4, v5, w0, w1, w2, w3, w4, w5, c0, c2, c3, c4, c5⟩ := HS5.out.cells
        cases ex : decide (0 < x) with
        | true =>
          obtain rfl : R = false := by rw [← HRR.out]; simp [caretB, eX, ex]
          go_wp2_with fail
          refine (HErr.out _ _).mono ?_
          rintro e w6_ ⟨er, rfl, hb_⟩
          have HS6 := Lib.hid (HS5.out.below hb_)
          have HB6 := Lib.hid (HB5.out.trans (hb_.mono HB5.out.size))
          clear v0 v1 v2 v3 v4 v5 w0 w1 w2 w3 w4 w5 c0 c2 c3 c4 c5 hb_
          go_wp2_with fail
          go_ret2
          exact ⟨_, rfl, HB6.out⟩
        | false =>
          go_wp2_with fail
          refine (HMinorw.out _).mono ?_
          rintro e w6_ ⟨rfl, hb_⟩
          have HS6 := Lib.hid (HS5.out.below hb_)
          have HB6 := Lib.hid (HB5.out.trans (hb_.mono HB5.out.size))
          clear v0 v1 v2 v3 v4 v5 w0 w1 w2 w3 w4 w5 c0 c2 c3 c4 c5 hb_
          obtain ⟨v0, v1, v2, v3, v4, v5, w0, w1, w2, w3, w4, w5, c0, c2, c3, c4, c5⟩ := HS6.out.cells
          cases eY : decide (0 < Y) with
          | true =>
            cases e14_ : (y == Y) with
            | true =>
              go_upto_region 14 with fail
              clear v0 v1 v2 v3 v4 v5 w0 w1 w2 w3 w4 w5 c0 c2 c3 c4 c5
              obtain ⟨v0, v1, v2, v3, v4, v5, w0, w1, w2, w3, w4, w5, c0, c3, c5⟩ := HS6.out.nears
              have Nv_ := Lib.hid (nearC w6_ HMinorv.out)
              have Nw_ := Lib.hid (nearC w6_ HMinorw.out)
              refine wp_region_near w6_.heap.size w6_ (by kernel_rfl) (by kernel_rfl) (Below.refl _ _) ?_
              repeat (go_big_quiet_step ((first | exact Nv_.out _ | exact Nw_.out _)))
              refine wpQuiet_nil ?_
              intro w7_ hw'
              obtain ⟨q_, hx_⟩ := hw'
              have hb_ : Below w6_.heap.size w6_ w7_ := by rw [hx_]; exact q_.h
              clear hx_ Nv_ Nw_
              have HS7 := Lib.hid (HS6.out.below hb_)
              have HB7 := Lib.hid (HB6.out.trans (hb_.mono HB6.out.size))
              clear v0 v1 v2 v3 v4 v5 w0 w1 w2 w3 w4 w5 c0 c3 c5 hb_
              obtain ⟨v0, v1, v2, v3, v4, v5, w0, w1, w2, w3, w4, w5, c0, c2, c3, c4, c5⟩ := HS7.out.cells
              obtain rfl : R = true := by rw [← HRR.out]; simp [caretB, eX, ex, eY, e14_]
              go_wp2_with fail
              go_ret2
              exact ⟨_, rfl, HB7.out⟩
            | false =>
              go_upto_region 14 with fail
              clear v0 v1 v2 v3 v4 v5 w0 w1 w2 w3 w4 w5 c0 c2 c3 c4 c5
              obtain ⟨v0, v1, v2, v3, v4, v5, w0, w1, w2, w3, w4, w5, c0, c3, c5⟩ := HS6.out.nears
              have Nv_ := Lib.hid (nearC w6_ HMinorv.out)
              have Nw_ := Lib.hid (nearC w6_ HMinorw.out)
              refine wp_region_near w6_.heap.size w6_ (by kernel_rfl) (by kernel_rfl) (Below.refl _ _) ?_
              repeat (go_big_quiet_step ((first | exact Nv_.out _ | exact Nw_.out _)))
              refine wpQuiet_nil ?_
              intro w7_ hw'
              obtain ⟨q_, hx_⟩ := hw'
              have hb_ : Below w6_.heap.size w6_ w7_ := by rw [hx_]; exact q_.h
              clear hx_ Nv_ Nw_
              have HS7 := Lib.hid (HS6.out.below hb_)
              have HB7 := Lib.hid (HB6.out.trans (hb_.mono HB6.out.size))
              clear v0 v1 v2 v3 v4 v5 w0 w1 w2 w3 w4 w5 c0 c3 c5 hb_
              obtain ⟨v0, v1, v2, v3, v4, v5, w0, w1, w2, w3, w4, w5, c0, c2, c3, c4, c5⟩ := HS7.out.cells
              obtain rfl : R = false := by rw [← HRR.out]; simp [caretB, eX, ex, eY, e14_]
              go_wp2_with fail
              refine (HErr.out _ _).mono ?_
              rintro e w8_ ⟨er, rfl, hb_⟩
              have HS8 := Lib.hid (HS7.out.below hb_)
              have HB8 := Lib.hid (HB7.out.trans (hb_.mono HB7.out.size))
              clear v0 v1 v2 v3 v4 v5 w0 w1 w2 w3 w4 w5 c0 c2 c3 c4 c5 hb_
              go_wp2_with fail
              go_ret2
              exact ⟨_, rfl, HB8.out⟩
          | false =>
            cases pd with
            | true =>
              cases e14_ : (y == Y) with
              | true =>
                go_upto_region 14 with fail
                clear v0 v1 v2 v3 v4 v5 w0 w1 w2 w3 w4 w5 c0 c2 c3 c4 c5
                obtain ⟨v0, v1, v2, v3, v4, v5, w0, w1, w2, w3, w4, w5, c0, c3, c5⟩ := HS6.out.nears
                have Nv_ := Lib.hid (nearC w6_ HMinorv.out)
                have Nw_ := Lib.hid (nearC w6_ HMinorw.out)
                refine wp_region_near w6_.heap.size w6_ (by kernel_rfl) (by kernel_rfl) (Below.refl _ _) ?_
                repeat (go_big_quiet_step ((first | exact Nv_.out _ | exact Nw_.out _)))
                refine wpQuiet_nil ?_
                intro w7_ hw'
                obtain ⟨q_, hx_⟩ := hw'
                have hb_ : Below w6_.heap.size w6_ w7_ := by rw [hx_]; exact q_.h
                clear hx_ Nv_ Nw_
                have HS7 := Lib.hid (HS6.out.below hb_)
                have HB7 := Lib.hid (HB6.out.trans (hb_.mono HB6.out.size))
                clear v0 v1 v2 v3 v4 v5 w0 w1 w2 w3 w4 w5 c0 c3 c5 hb_
                obtain ⟨v0, v1, v2, v3, v4, v5, w0, w1, w2, w3, w4, w5, c0, c2, c3, c4, c5⟩ := HS7.out.cells
                obtain rfl : R = true := by rw [← HRR.out]; simp [caretB, eX, ex, eY, e14_]
                go_wp2_with fail
                go_ret2
                exact ⟨_, rfl, HB7.out⟩
              | false =>
                go_upto_region 14 with fail
                clear v0 v1 v2 v3 v4 v5 w0 w1 w2 w3 w4 w5 c0 c2 c3 c4 c5
                obtain ⟨v0, v1, v2, v3, v4, v5, w0, w1, w2, w3, w4, w5, c0, c3, c5⟩ := HS6.out.nears
                have Nv_ := Lib.hid (nearC w6_ HMinorv.out)
                have Nw_ := Lib.hid (nearC w6_ HMinorw.out)
                refine wp_region_near w6_.heap.size w6_ (by kernel_rfl) (by kernel_rfl) (Below.refl _ _) ?_
                repeat (go_big_quiet_step ((first | exact Nv_.out _ | exact Nw_.out _)))
                refine wpQuiet_nil ?_
                intro w7_ hw'
                obtain ⟨q_, hx_⟩ := hw'
                have hb_ : Below w6_.heap.size w6_ w7_ := by rw [hx_]; exact q_.h
                clear hx_ Nv_ Nw_
                have HS7 := Lib.hid (HS6.out.below hb_)
                have HB7 := Lib.hid (HB6.out.trans (hb_.mono HB6.out.size))
                clear v0 v1 v2 v3 v4 v5 w0 w1 w2 w3 w4 w5 c0 c3 c5 hb_
                obtain ⟨v0, v1, v2, v3, v4, v5, w0, w1, w2, w3, w4, w5, c0, c2, c3, c4, c5⟩ := HS7.out.cells
                obtain rfl : R = false := by rw [← HRR.out]; simp [caretB, eX, ex, eY, e14_]
                go_wp2_with fail
                refine (HErr.out _ _).mono ?_
                rintro e w8_ ⟨er, rfl, hb_⟩
                have HS8 := Lib.hid (HS7.out.below hb_)
                have HB8 := Lib.hid (HB7.out.trans (hb_.mono HB7.out.size))
                clear v0 v1 v2 v3 v4 v5 w0 w1 w2 w3 w4 w5 c0 c2 c3 c4 c5 hb_
                go_wp2_with fail
                go_ret2
                exact ⟨_, rfl, HB8.out⟩
            | false =>
              have eY0 : (Y == 0) = true := by have := of_decide_eq_false eY; have := hNN.out.2; simp; omega
              go_wp2_with fail
              refine (HMinorw.out _).mono ?_
              rintro e w7_ ⟨rfl, hb_⟩
              have HS7 := Lib.hid (HS6.out.below hb_)
              have HB7 := Lib.hid (HB6.out.trans (hb_.mono HB6.out.size))
              clear v0 v1 v2 v3 v4 v5 w0 w1 w2 w3 w4 w5 c0 c2 c3 c4 c5 hb_
              obtain ⟨v0, v1, v2, v3, v4, v5, w0, w1, w2, w3, w4, w5, c0, c2, c3, c4, c5⟩ := HS7.out.cells
              go_wp2_with fail
              refine (HMinorv.out _).mono ?_
              rintro e w8_ ⟨rfl, hb_⟩
              have HS8 := Lib.hid (HS7.out.below hb_)
              have HB8 := Lib.hid (HB7.out.trans (hb_.mono HB7.out.size))
              clear v0 v1 v2 v3 v4 v5 w0 w1 w2 w3 w4 w5 c0 c2 c3 c4 c5 hb_
              obtain ⟨v0, v1, v2, v3, v4, v5, w0, w1, w2, w3, w4, w5, c0, c2, c3, c4, c5⟩ := HS8.out.cells
              cases ey : decide (0 < y) with
              | true =>
                obtain rfl : R = false := by rw [← HRR.out]; simp [caretB, eX, ex, eY, ey]
                go_wp2_with fail
                refine (HErr.out _ _).mono ?_
                rintro e w9_ ⟨er, rfl, hb_⟩
                have HS9 := Lib.hid (HS8.out.below hb_)
                have HB9 := Lib.hid (HB8.out.trans (hb_.mono HB8.out.size))
                clear v0 v1 v2 v3 v4 v5 w0 w1 w2 w3 w4 w5 c0 c2 c3 c4 c5 hb_
                go_wp2_with fail
                go_ret2
                exact ⟨_, rfl, HB9.out⟩
              | false =>
                cases e20_ : (Z == z) with
                | true =>
                  go_upto_region 20 with fail
                  clear v0 v1 v2 v3 v4 v5 w0 w1 w2 w3 w4 w5 c0 c2 c3 c4 c5
                  obtain ⟨v0, v1, v2, v3, v4, v5, w0, w1, w2, w3, w4, w5, c0, c3, c5⟩ := HS8.out.nears
                  have Nv_ := Lib.hid (nearC w8_ HPatchv.out)
                  have Nw_ := Lib.hid (nearC w8_ HPatchw.out)
                  refine wp_region_near w8_.heap.size w8_ (by kernel_rfl) (by kernel_rfl) (Below.refl _ _) ?_
                  repeat (go_big_quiet_step ((first | exact Nw_.out _ | exact Nv_.out _)))
                  refine wpQuiet_nil ?_
                  intro w9_ hw'
                  obtain ⟨q_, hx_⟩ := hw'
                  have hb_ : Below w8_.heap.size w8_ w9_ := by rw [hx_]; exact q_.h
                  clear hx_ Nv_ Nw_
                  have HS9 := Lib.hid (HS8.out.below hb_)
                  have HB9 := Lib.hid (HB8.out.trans (hb_.mono HB8.out.size))
                  clear v0 v1 v2 v3 v4 v5 w0 w1 w2 w3 w4 w5 c0 c3 c5 hb_
                  obtain ⟨v0, v1, v2, v3, v4, v5, w0, w1, w2, w3, w4, w5, c0, c2, c3, c4, c5⟩ := HS9.out.cells
                  obtain rfl : R = true := by rw [← HRR.out]; simp [caretB, eX, ex, eY, ey, e20_]
                  go_wp2_with fail
                  go_ret2
                  exact ⟨_, rfl, HB9.out⟩
                | false =>
                  go_upto_region 20 with fail
                  clear v0 v1 v2 v3 v4 v5 w0 w1 w2 w3 w4 w5 c0 c2 c3 c4 c5
                  obtain ⟨v0, v1, v2, v3, v4, v5, w0, w1, w2, w3, w4, w5, c0, c3, c5⟩ := HS8.out.nears
                  have Nv_ := Lib.hid (nearC w8_ HPatchv.out)
                  have Nw_ := Lib.hid (nearC w8_ HPatchw.out)
                  refine wp_region_near w8_.heap.size w8_ (by kernel_rfl) (by kernel_rfl) (Below.refl _ _) ?_
                  repeat (go_big_quiet_step ((first | exact Nw_.out _ | exact Nv_.out _)))
                  refine wpQuiet_nil ?_
                  intro w9_ hw'
                  obtain ⟨q_, hx_⟩ := hw'
                  have hb_ : Below w8_.heap.size w8_ w9_ := by rw [hx_]; exact q_.h
                  clear hx_ Nv_ Nw_
                  have HS9 := Lib.hid (HS8.out.below hb_)
                  have HB9 := Lib.hid (HB8.out.trans (hb_.mono HB8.out.size))
                  clear v0 v1 v2 v3 v4 v5 w0 w1 w2 w3 w4 w5 c0 c3 c5 hb_
                  obtain ⟨v0, v1, v2, v3, v4, v5, w0, w1, w2, w3, w4, w5, c0, c2, c3, c4, c5⟩ := HS9.out.cells
                  obtain rfl : R = false := by rw [← HRR.out]; simp [caretB, eX, ex, eY, ey, e20_]
                  go_wp2_with fail
                  refine (HErr.out _ _).mono ?_
                  rintro e w10_ ⟨er, rfl, hb_⟩
                  have HS10 := Lib.hid (HS9.out.below hb_)
                  have HB10 := Lib.hid (HB9.out.trans (hb_.mono HB9.out.size))
                  clear v0 v1 v2 v3 v4 v5 w0 w1 w2 w3 w4 w5 c0 c2 c3 c4 c5 hb_
                  go_wp2_with fail
                  go_ret2
                  exact ⟨_, rfl, HB10.out⟩
end Go.Proofs.YtoebognfkigooaaGreatDoor.Sv
namespace Go.Proofs.YtoebognfkigooaaGreatDoor.Sv
open Go.RowKit Go.Proofs.YtoebognfkigooaaGreatDoor.PFnSemverEither Go.Proofs.YtoebognfkigooaaGreatDoorW.PrintWords Go.Proofs.YtoebognfkigooaaGreatDoor.Txt Go.Proofs.YtoebognfkigooaaGreatDoor Go.Proofs.YtoebognfkigooaaGreatDoor.Vals
set_option linter.unusedVariables false
set_option linter.unusedSimpArgs false
set_option maxRecDepth 20000

def OpIs (o : List UInt8) (fn : FuncId) : Prop := ∀ w : World, Calls Tryz.prog 56 #[.string (ba o)] w fun e w' => e = .returned (.func (.func fn) #[] #[]) ∧ w' = w
set_option maxHeartbeats 1000000 in
theorem check_walk (bv cb vb : Nat) (x y z X Y Z : Int) (md di pd : Bool) (ov oo ow : ByteArray) (o : List UInt8) (fn : FuncId) (R : Bool) (w : World) (h : St w bv cb vb x y z X Y Z md di pd ov oo (ba o) ow) (OP : OpIs o fn)
    (hcall : ∀ W : World, (callFunc fn #[.pointer (some ⟨bv, 0, none⟩), .pointer (some ⟨cb, 0, none⟩), .bool false]).run Tryz.prog W = .ok (.enter fn #[.pointer (some ⟨bv, 0, none⟩), .pointer (some ⟨cb, 0, none⟩), .bool false]) W)
    (FN : Calls Tryz.prog fn #[.pointer (some ⟨bv, 0, none⟩), .pointer (some ⟨cb, 0, none⟩), .bool false] w (AskRes R w)) :
    Calls Tryz.prog 42 #[.pointer (some ⟨cb, 0, none⟩), .pointer (some ⟨bv, 0, none⟩), .bool false] w (AskRes R w) := by
  have HOP := Lib.hid (OP w)
  have HFN := Lib.hid FN
  have c2 := h.cells.c2
  obtain ⟨op, hop⟩ : ∃ op, op = ba o := ⟨_, rfl⟩
  rw [← hop] at c2
  unfold OpIs at *
  rw [← hop] at HOP
  clear h OP FN hop
  go_enter Tryz.func42, Tryz.ntmps42
  go_wp2_with fail
  refine HOP.out.mono ?_
  rintro e w1 ⟨rfl, rfl⟩
  go_wp2_with fail
  refine HFN.out.mono ?_
  rintro e w2 ⟨er, rfl, hb⟩
  go_wp2_with fail
  go_ret2
  exact ⟨_, rfl, hb⟩
set_option maxHeartbeats 1000000 in
theorem op_eq0 : OpIs [] 65 := fun w => by
  show Calls Tryz.prog 56 #[.string ⟨#[]⟩] w _
  go_enter Tryz.func56, Tryz.ntmps56
  go_wp2_with fail
  go_ret
  exact ⟨rfl, rfl⟩
set_option maxHeartbeats 1000000 in
theorem op_eq1 : OpIs [61] 65 := fun w => by
  show Calls Tryz.prog 56 #[.string ⟨#[61]⟩] w _
  go_enter Tryz.func56, Tryz.ntmps56
  go_wp2_with fail
  go_ret
  exact ⟨rfl, rfl⟩
set_option maxHeartbeats 1000000 in
theorem op_ne0 : OpIs [33, 61] 66 := fun w => by
  show Calls Tryz.prog 56 #[.string ⟨#[33, 61]⟩] w _
  go_enter Tryz.func56, Tryz.ntmps56
  go_wp2_with fail
  go_ret
  exact ⟨rfl, rfl⟩
set_option maxHeartbeats 1000000 in
theorem op_gt0 : OpIs [62] 67 := fun w => by
  show Calls Tryz.prog 56 #[.string ⟨#[62]⟩] w _
  go_enter Tryz.func56, Tryz.ntmps56
  go_wp2_with fail
  go_ret
  exact ⟨rfl, rfl⟩
set_option maxHeartbeats 1000000 in
theorem op_lt0 : OpIs [60] 68 := fun w => by
  show Calls Tryz.prog 56 #[.string ⟨#[60]⟩] w _
  go_enter Tryz.func56, Tryz.ntmps56
  go_wp2_with fail
  go_ret
  exact ⟨rfl, rfl⟩
set_option maxHeartbeats 1000000 in
theorem op_ge0 : OpIs [62, 61] 69 := fun w => by
  show Calls Tryz.prog 56 #[.string ⟨#[62, 61]⟩] w _
  go_enter Tryz.func56, Tryz.ntmps56
  go_wp2_with fail
  go_ret
  exact ⟨rfl, rfl⟩
set_option maxHeartbeats 1000000 in
theorem op_ge1 : OpIs [61, 62] 69 := fun w => by
  show Calls Tryz.prog 56 #[.string ⟨#[61, 62]⟩] w _
  go_enter Tryz.func56, Tryz.ntmps56
  go_wp2_with fail
  go_ret
  exact ⟨rfl, rfl⟩
set_option maxHeartbeats 1000000 in
theorem op_le0 : OpIs [60, 61] 70 := fun w => by
  show Calls Tryz.prog 56 #[.string ⟨#[60, 61]⟩] w _
  go_enter Tryz.func56, Tryz.ntmps56
  go_wp2_with fail
  go_ret
  exact ⟨rfl, rfl⟩
set_option maxHeartbeats 1000000 in
theorem op_le1 : OpIs [61, 60] 70 := fun w => by
  show Calls Tryz.prog 56 #[.string ⟨#[61, 60]⟩] w _
  go_enter Tryz.func56, Tryz.ntmps56
  go_wp2_with fail
  go_ret
  exact ⟨rfl, rfl⟩
set_option maxHeartbeats 1000000 in
theorem op_tilde0 : OpIs [126] 71 := fun w => by
  show Calls Tryz.prog 56 #[.string ⟨#[126]⟩] w _
  go_enter Tryz.func56, Tryz.ntmps56
  go_wp2_with fail
  go_ret
  exact ⟨rfl, rfl⟩
set_option maxHeartbeats 1000000 in
theorem op_tilde1 : OpIs [126, 62] 71 := fun w => by
  show Calls Tryz.prog 56 #[.string ⟨#[126, 62]⟩] w _
  go_enter Tryz.func56, Tryz.ntmps56
  go_wp2_with fail
  go_ret
  exact ⟨rfl, rfl⟩
set_option maxHeartbeats 1000000 in
theorem op_caret0 : OpIs [94] 72 := fun w => by
  show Calls Tryz.prog 56 #[.string ⟨#[94]⟩] w _
  go_enter Tryz.func56, Tryz.ntmps56
  go_wp2_with fail
  go_ret
  exact ⟨rfl, rfl⟩
/-- What a test asks, by the order of the two versions. -/
def askB (o : List UInt8) (r : Int) (x y z X Y Z : Int) (md di pd : Bool) : Bool :=
  if o = [] ∨ o = [61] then (if di then tildeB (decide (r < 0)) x y X Y Z md pd else r == 0)
  else if o = [33, 61] then !(r == 0) else if o = [62] then r == 1 else if o = [60] then decide (r < 0)
  else if o = [62, 61] ∨ o = [61, 62] then decide (0 ≤ r) else if o = [60, 61] ∨ o = [61, 60] then decide (r ≤ 0)
  else if o = [126] ∨ o = [126, 62] then tildeB (decide (r < 0)) x y X Y Z md pd else caretB (decide (r < 0)) x y z X Y Z md pd
set_option maxHeartbeats 1000000 in
theorem equal_same (b : Nat) (w : World) : Calls Tryz.prog 81 #[.pointer (some ⟨b, 0, none⟩), .pointer (some ⟨b, 0, none⟩)] w fun e w' => e = .returned (.bool true) ∧ Below w.heap.size w w' := by
  obtain ⟨j, hj, hjs⟩ := Option.map_eq_some_iff.1 sizeVer
  have hpe : (binOp .eql 63 (.pointer (some ⟨b, 0, none⟩)) (.pointer (some ⟨b, 0, none⟩))).run Tryz.prog w = .ok (.bool true) w :=
    run_eql_ptr_same w ⟨b, 0, none⟩ Tryz.underlying63 hj
  clear hj hjs
  go_enter Tryz.func81, Tryz.ntmps81
  go_wp2_with fail
  go_ret
  exact ⟨rfl, Below.refl _ _⟩
theorem check_any (bv cb vb : Nat) (x y z X Y Z : Int) (md di pd : Bool) (ov oo ow : ByteArray) (o : List UInt8) (ho : o ∈ opsLL) (r : Int) (hXn : 0 ≤ X) (hYn : 0 ≤ Y) (w : World) (h : St w bv cb vb x y z X Y Z md di pd ov oo (ba o) ow)
    (hdi : di = false ∨ o = [] ∨ o = [94]) (hr0 : x = X → y = Y → z = Z → r = 0)
    (C : ∀ W, Below w.heap.size w W → VerI W bv x y z ov → VerI W vb X Y Z ow → Calls Tryz.prog 86 #[.pointer (some ⟨bv, 0, none⟩), .pointer (some ⟨vb, 0, none⟩)] W fun e w' => e = .returned (.int .i64 r) ∧ Below W.heap.size W w') :
    Calls Tryz.prog 42 #[.pointer (some ⟨cb, 0, none⟩), .pointer (some ⟨bv, 0, none⟩), .bool false] w (AskRes (askB o r x y z X Y Z md di pd) w) := by
  have CC : ∀ W, Below w.heap.size w W → St W bv cb vb x y z X Y Z md di pd ov oo (ba o) ow → Calls Tryz.prog 86 #[.pointer (some ⟨bv, 0, none⟩), .pointer (some ⟨vb, 0, none⟩)] W fun e w' => e = .returned (.int .i64 r) ∧ Below W.heap.size W w' := fun W hW hs => C W hW hs.1 hs.2.2
  have CL : ∀ W, Below w.heap.size w W → St W bv cb vb x y z X Y Z md di pd ov oo (ba o) ow → Calls Tryz.prog 87 #[.pointer (some ⟨bv, 0, none⟩), .pointer (some ⟨vb, 0, none⟩)] W fun e w' => e = .returned (.bool (decide (r < 0))) ∧ Below W.heap.size W w' := fun W hW hs => lessThan_walk bv vb r W (CC W hW hs)
  have CE : ∀ W, Below w.heap.size w W → St W bv cb vb x y z X Y Z md di pd ov oo (ba o) ow → Calls Tryz.prog 81 #[.pointer (some ⟨bv, 0, none⟩), .pointer (some ⟨vb, 0, none⟩)] W fun e w' => e = .returned (.bool (r == 0)) ∧ Below W.heap.size W w' := fun W hW hs => by
    by_cases hbv : bv = vb
    · subst hbv
      have h1 := hs.1
      have h2 := hs.2.2
      unfold VerI at h1 h2
      rw [h1] at h2
      simp only [Option.some.injEq, Obj.cells.injEq, Array.mk.injEq, List.cons.injEq, Value.int.injEq, true_and] at h2
      have hrr : r = 0 := hr0 h2.1.1 h2.1.2.1 h2.1.2.2.1
      rw [hrr]
      exact equal_same bv W
    · exact equal_walk bv vb hbv r W hs.1 hs.2.2 (CC W hW hs)
  have SH : di = true → Calls Tryz.prog 65 #[.pointer (some ⟨bv, 0, none⟩), .pointer (some ⟨cb, 0, none⟩), .bool false] w (AskRes (tildeB (decide (r < 0)) x y X Y Z md pd) w) := fun hd =>
    short_walk bv cb vb x y z X Y Z md di pd ov oo (ba o) ow w hd _ (fun W hW hs => tilde_walk bv cb vb x y z X Y Z md di pd ov oo (ba o) ow W _ _ rfl (fun W2 hW2 hs2 => CL W2 (hW.trans (hW2.mono hW.size)) hs2) hs) h
  have EQ : di = false → Calls Tryz.prog 65 #[.pointer (some ⟨bv, 0, none⟩), .pointer (some ⟨cb, 0, none⟩), .bool false] w (AskRes (r == 0) w) := fun hd => eq_walk bv cb vb x y z X Y Z md di pd ov oo (ba o) ow w hd _ CE h
  have go : ∀ (fn : FuncId) (R : Bool), OpIs o fn → (∀ W : World, (callFunc fn #[.pointer (some ⟨bv, 0, none⟩), .pointer (some ⟨cb, 0, none⟩), .bool false]).run Tryz.prog W = .ok (.enter fn #[.pointer (some ⟨bv, 0, none⟩), .pointer (some ⟨cb, 0, none⟩), .bool false]) W) →
      Calls Tryz.prog fn #[.pointer (some ⟨bv, 0, none⟩), .pointer (some ⟨cb, 0, none⟩), .bool false] w (AskRes R w) → Calls Tryz.prog 42 #[.pointer (some ⟨cb, 0, none⟩), .pointer (some ⟨bv, 0, none⟩), .bool false] w (AskRes R w) := fun fn R h1 h2 h3 => check_walk bv cb vb x y z X Y Z md di pd ov oo ow o fn R w h h1 h2 h3
  have hd0 : ¬ (o = [] ∨ o = [94]) → di = false := fun hn => hdi.resolve_right hn
  simp only [opsLL, List.mem_cons, List.mem_nil_iff, or_false] at ho
  rcases ho with rfl | rfl | rfl | rfl | rfl | rfl | rfl | rfl | rfl | rfl | rfl | rfl
  · have hd := hd0 (by simp)
    have e : askB [61] r x y z X Y Z md di pd = (r == 0) := by unfold askB; rw [if_pos (.inr rfl), hd]; rfl
    rw [e]; exact go _ _ op_eq1 (fun W => by kernel_rfl) (EQ hd)
  · cases hdd : di with
    | true =>
      subst hdd
      have e : askB [] r x y z X Y Z md true pd = tildeB (decide (r < 0)) x y X Y Z md pd := by unfold askB; rw [if_pos (.inl rfl)]; rfl
      rw [e]; exact go _ _ op_eq0 (fun W => by kernel_rfl) (SH rfl)
    | false =>
      subst hdd
      have e : askB [] r x y z X Y Z md false pd = (r == 0) := by unfold askB; rw [if_pos (.inl rfl)]; rfl
      rw [e]; exact go _ _ op_eq0 (fun W => by kernel_rfl) (EQ rfl)
  · have hd := hd0 (by simp)
    have e : askB [33, 61] r x y z X Y Z md di pd = (!(r == 0)) := by simp [askB]
    rw [e]; exact go _ _ op_ne0 (fun W => by kernel_rfl) (ne_walk bv cb vb x y z X Y Z md di pd ov oo _ ow w hd _ CE h)
  · have hd := hd0 (by simp)
    have e : askB [62] r x y z X Y Z md di pd = (r == 1) := by simp [askB]
    rw [e]; exact go _ _ op_gt0 (fun W => by kernel_rfl) (gt_walk bv cb vb x y z X Y Z md di pd ov oo _ ow w hd r _ rfl CC h)
  · have e : askB [60] r x y z X Y Z md di pd = decide (r < 0) := by simp [askB]
    rw [e]; exact go _ _ op_lt0 (fun W => by kernel_rfl) (lt_walk bv cb vb x y z X Y Z md di pd ov oo _ ow w r _ rfl CC h)
  · have e : askB [62, 61] r x y z X Y Z md di pd = decide (0 ≤ r) := by simp [askB]
    rw [e]; exact go _ _ op_ge0 (fun W => by kernel_rfl) (ge_walk bv cb vb x y z X Y Z md di pd ov oo _ ow w r _ rfl CC h)
  · have e : askB [61, 62] r x y z X Y Z md di pd = decide (0 ≤ r) := by simp [askB]
    rw [e]; exact go _ _ op_ge1 (fun W => by kernel_rfl) (ge_walk bv cb vb x y z X Y Z md di pd ov oo _ ow w r _ rfl CC h)
  · have hd := hd0 (by simp)
    have e : askB [60, 61] r x y z X Y Z md di pd = decide (r ≤ 0) := by simp [askB]
    rw [e]; exact go _ _ op_le0 (fun W => by kernel_rfl) (le_walk bv cb vb x y z X Y Z md di pd ov oo _ ow w hd r _ rfl CC h)
  · have hd := hd0 (by simp)
    have e : askB [61, 60] r x y z X Y Z md di pd = decide (r ≤ 0) := by simp [askB]
    rw [e]; exact go _ _ op_le1 (fun W => by kernel_rfl) (le_walk bv cb vb x y z X Y Z md di pd ov oo _ ow w hd r _ rfl CC h)
  · have e : askB [126] r x y z X Y Z md di pd = tildeB (decide (r < 0)) x y X Y Z md pd := by simp [askB]
    rw [e]; exact go _ _ op_tilde0 (fun W => by kernel_rfl) (tilde_walk bv cb vb x y z X Y Z md di pd ov oo _ ow w _ _ rfl CL h)
  · have e : askB [126, 62] r x y z X Y Z md di pd = tildeB (decide (r < 0)) x y X Y Z md pd := by simp [askB]
    rw [e]; exact go _ _ op_tilde1 (fun W => by kernel_rfl) (tilde_walk bv cb vb x y z X Y Z md di pd ov oo _ ow w _ _ rfl CL h)
  · have e : askB [94] r x y z X Y Z md di pd = caretB (decide (r < 0)) x y z X Y Z md pd := by simp [askB]
    rw [e]; exact go _ _ op_caret0 (fun W => by kernel_rfl) (caret_walk bv cb vb x y z X Y Z md di pd ov oo _ ow w hXn hYn _ _ rfl CL h)
end Go.Proofs.YtoebognfkigooaaGreatDoor.Sv
namespace Go.Proofs.YtoebognfkigooaaGreatDoor.Sv
open Go.RowKit Go.Proofs.YtoebognfkigooaaGreatDoor.PFnSemverEither Go.Proofs.YtoebognfkigooaaGreatDoorW.PrintWords Go.Proofs.YtoebognfkigooaaGreatDoor.Txt Go.Proofs.YtoebognfkigooaaGreatDoor Go.Proofs.YtoebognfkigooaaGreatDoor.Vals
set_option linter.unusedVariables false
set_option linter.unusedSimpArgs false
set_option maxRecDepth 20000

/-- The three fields of Constraints, boxed. -/
def Box3 (w : World) (b ob pb n : Nat) : Prop := w.heap[b]? = some (.cells #[.slice (some ⟨ob, 0, none⟩) n n, .slice (some ⟨pb, 0, none⟩) n n, .bool false] 67 (0, 0))
theorem Box3.below {w w' : World} {b ob pb n : Nat} (h : Box3 w b ob pb n) (hb : Below w.heap.size w w') : Box3 w' b ob pb n := (hb.block _ (blk_lt h)).trans h
theorem GrpTo.at {w : World} {lo ob : Nat} {gs : List (List Cn)} (h : GrpTo gs.length w lo ob gs) {j : Nat} {cs : List Cn} (hj : gs[j]? = some cs) : ∃ rb, w.cell? ⟨ob, j, none⟩ = some (.slice (some ⟨rb, 0, none⟩) cs.length cs.length) ∧ RowIn w lo rb cs := by
  obtain ⟨arr, h2, h3, h4⟩ := h
  obtain ⟨rb, h5, h6⟩ := h4 j cs (List.getElem?_eq_some_iff.1 hj).1 hj
  exact ⟨rb, by rw [blk_cell h2]; exact h5, h6⟩
theorem RowIn.at {w : World} {lo rb : Nat} {cs : List Cn} (h : RowIn w lo rb cs) {j : Nat} {c : Cn} (hj : cs[j]? = some c) : ∃ b, w.cell? ⟨rb, j, none⟩ = some (.pointer (some ⟨b, 0, none⟩)) ∧ ConIs w (rb + 1) b c := by
  obtain ⟨_, arr, h2, h3, h4⟩ := h
  obtain ⟨b, h5, h6⟩ := h4 j c (List.getElem?_eq_some_iff.1 hj).1 hj
  exact ⟨b, by rw [blk_cell h2]; exact h5, h6⟩
theorem RowIn.below {w w' : World} {lo rb : Nat} {cs : List Cn} (h : RowIn w lo rb cs) (hb : Below w.heap.size w w') : RowIn w' lo rb cs := h.keep (Keeps.of_below hb)

set_option maxHeartbeats 8000000 in
theorem check_all (gs : List (List Cn)) (hgn : gs.length ≤ 1000) (hcn : ∀ cs ∈ gs, cs.length ≤ 1000) (f : Cn → Bool) (bv ob pb lo : Nat) (w : World) (HG : GrpTo gs.length w lo ob gs) (HP : PreIn w pb gs.length)
    (CH : ∀ cs ∈ gs, ∀ c ∈ cs, ∀ lo b W, Below w.heap.size w W → ConIs W lo b c → Calls Tryz.prog 42 #[.pointer (some ⟨b, 0, none⟩), .pointer (some ⟨bv, 0, none⟩), .bool false] W (AskRes (f c) W)) :
    Calls Tryz.prog 30 #[.agg #[.slice (some ⟨ob, 0, none⟩) gs.length gs.length, .slice (some ⟨pb, 0, none⟩) gs.length gs.length, .bool false], .pointer (some ⟨bv, 0, none⟩)] w fun e w' => e = .returned (.bool (gs.any fun cs => cs.all f)) ∧ Below w.heap.size w w' := by
  obtain ⟨n, hn⟩ : ∃ n, n = gs.length := ⟨_, rfl⟩
  obtain ⟨R, hR⟩ : ∃ R, R = gs.any fun cs => cs.all f := ⟨_, rfl⟩
  have HCH := Lib.hid CH
  have HCN := Lib.hid hcn
  rw [← hn] at hgn HP ⊢
  rw [← hR]
  have HN := Lib.hid hn
  have HR := Lib.hid hR
  have HG0 := Lib.hid HG
  have HP0 := Lib.hid HP
  clear CH hcn hn hR HG HP
  have hx0 : Box3 (w.alloc (.cells #[.slice (some ⟨ob, 0, none⟩) n n, .slice (some ⟨pb, 0, none⟩) n n, .bool false] 67)) w.heap.size ob pb n := heap_alloc_new w _
  have HX0 := Lib.hid hx0
  have HB0 : Hid (Below w.heap.size w (w.alloc (.cells #[.slice (some ⟨ob, 0, none⟩) n n, .slice (some ⟨pb, 0, none⟩) n n, .bool false] 67))) := Lib.hid ((Below.refl _ _).alloc (Nat.le_refl _) _)
  clear hx0
  go_enter Tryz.func30, Tryz.ntmps30
  go_wp2_with fail
  go_loopg [5, 6, 7, 9, 10, 11, 15] n (fun kq v5 v6 v7 v9 v10 v11 v15 wr => ∃ (k : Nat) (x5 x6 x7 x9 x10 x11 : Value), v5 = x5 ∧ v6 = x6 ∧ v7 = x7 ∧ v9 = x9 ∧ v10 = x10 ∧ v11 = x11 ∧ v15 = .int .i64 (k : Int) ∧ k + kq = n ∧ Hid (Below w.heap.size w wr) ∧ Hid (Box3 wr w.heap.size ob pb n) ∧ Hid (((gs.drop k).any fun cs => cs.all f) = R))
  case atStart => exact ⟨0, _, _, _, _, _, _, rfl, rfl, rfl, rfl, rfl, rfl, rfl, by omega, HB0, HX0, Lib.hid HR.out.symm⟩
  case round =>
    obtain ⟨k, x5, x6, x7, x9, x10, x11, rfl, rfl, rfl, rfl, rfl, rfl, rfl, hik, HB, HX, HI⟩ := hrel
    cases gk with
    | zero =>
      have hin : k = n := by omega
      have hni : ¬ (k : Int) < (n : Int) := by omega
      have hr : R = false := by rw [← HI.out, List.drop_eq_nil_of_le (by rw [← HN.out]; omega)]; rfl
      clear hik hin
      subst hr
      go_wp2_with fail
      go_ret
      exact ⟨rfl, HB.out⟩
    | succ m =>
      have hki : k < n := by omega
      have hki' : (k : Int) < (n : Int) := by omega
      have hkL : k < gs.length := by rw [← HN.out]; exact hki
      have HIK := Lib.hid hik
      obtain ⟨cs, hcs⟩ : ∃ cs, cs = gs[k] := ⟨_, rfl⟩
      have hget : gs[k]? = some cs := by rw [List.getElem?_eq_getElem hkL, hcs]
      have HMEM : Hid (cs ∈ gs) := Lib.hid (by rw [hcs]; exact List.getElem_mem hkL)
      obtain ⟨rb, hcell, hrow⟩ := (HG0.out.below HB.out).at hget
      have hdrop : gs.drop k = cs :: gs.drop (k + 1) := by rw [List.drop_eq_getElem_cons hkL, hcs]
      have HI2 : Hid ((cs.all f || ((gs.drop (k + 1)).any fun cs => cs.all f)) = R) := Lib.hid (by rw [← HI.out, hdrop, List.any_cons])
      have HROW := Lib.hid hrow
      obtain ⟨q, hq⟩ : ∃ q, q = cs.length := ⟨_, rfl⟩
      have hqs : q ≤ 1000 := by rw [hq]; exact HCN.out cs HMEM.out
      rw [← hq] at hcell
      have HQ := Lib.hid hq
      obtain ⟨b0_, -⟩ : wr.cell? ⟨w.heap.size, 0, none⟩ = some (.slice (some ⟨ob, 0, none⟩) n n) ∧ True := ⟨by have h := HX.out; unfold Box3 at h; rw [blk_cell h]; rfl, trivial⟩
      clear hik hcs hget hrow hdrop hkL hq
      go_wp2_with fail
      go_loopg [7, 9, 10, 11, 22] q (fun kq v7 v9 v10 v11 v22 wq => ∃ (i : Nat) (x9 x10 x11 : Value), v7 = .bool true ∧ v9 = x9 ∧ v10 = x10 ∧ v11 = x11 ∧ v22 = .int .i64 (i : Int) ∧ i + kq = q ∧ Hid (Below w.heap.size w wq) ∧ Hid (Box3 wq w.heap.size ob pb n) ∧ Hid (RowIn wq lo rb cs) ∧ Hid ((cs.drop i).all f = cs.all f))
      case atStart => exact ⟨0, _, _, _, rfl, rfl, rfl, rfl, rfl, by omega, HB, HX, HROW, Lib.hid rfl⟩
      case round =>
        obtain ⟨i, x9, x10, x11, rfl, rfl, rfl, rfl, rfl, hiq, HBQ, HXQ, HRQ, HA⟩ := hrel
        cases gk with
        | zero =>
          have hin : i = q := by omega
          have hni : ¬ (i : Int) < (q : Int) := by omega
          have hall : cs.all f = true := by rw [← HA.out, List.drop_eq_nil_of_le (by rw [← HQ.out]; omega)]; rfl
          have hr : R = true := by rw [← HI2.out, hall]; rfl
          clear hiq hin hall
          subst hr
          go_wp2_with fail
          go_ret
          exact ⟨rfl, HBQ.out⟩
        | succ mm =>
          have hiq' : i < q := by omega
          have hiq2 : (i : Int) < (q : Int) := by omega
          have hil : i < cs.length := by rw [← HQ.out]; exact hiq'
          have HIQ := Lib.hid hiq
          obtain ⟨c, hc⟩ : ∃ c, c = cs[i] := ⟨_, rfl⟩
          have hci : cs[i]? = some c := by rw [List.getElem?_eq_getElem hil, hc]
          obtain ⟨b, hcell2, hcon⟩ := HRQ.out.at hci
          have hpre : wr.cell? ⟨pb, k, none⟩ = some (.bool false) := (HP0.out.below HBQ.out).cell k hki
          have HCK := Lib.hid (HCH.out cs HMEM.out c (by rw [hc]; exact List.getElem_mem hil) (rb + 1) b wr HBQ.out hcon)
          have hdrop : cs.drop i = c :: cs.drop (i + 1) := by rw [List.drop_eq_getElem_cons hil, hc]
          have HA2 : Hid ((f c && (cs.drop (i + 1)).all f) = cs.all f) := Lib.hid (by rw [← HA.out, hdrop, List.all_cons])
          have hbx := HXQ.out
          unfold Box3 at hbx
          have b1_ : wr.cell? ⟨w.heap.size, 1, none⟩ = some (.slice (some ⟨pb, 0, none⟩) n n) := by rw [blk_cell hbx]; rfl
          have b2_ : wr.cell? ⟨w.heap.size, 2, none⟩ = some (.bool false) := by rw [blk_cell hbx]; rfl
          obtain ⟨fc, hfc⟩ : ∃ fc, fc = f c := ⟨_, rfl⟩
          rw [← hfc] at HCK HA2
          clear hiq hc hci hil hcon hdrop hbx hfc
          go_wp2_with fail
          refine HCK.out.mono ?_
          rintro e w1 ⟨er, rfl, hb1⟩
          have HB1 := Lib.hid (HBQ.out.trans (hb1.mono HBQ.out.size))
          have HX1 := Lib.hid (HXQ.out.below hb1)
          have HR1 := Lib.hid (HRQ.out.below hb1)
          clear hb1 b1_ b2_ hpre hcell2
          cases fc with
          | true =>
            have HA3 : Hid ((cs.drop (i + 1)).all f = cs.all f) := Lib.hid (by rw [← HA2.out]; rfl)
            go_wp2_with fail
            go_roundg mm
            case measure => exact Nat.lt_succ_self mm
            case rel => exact ⟨i + 1, _, _, _, rfl, rfl, rfl, rfl, by simp, by have := HIQ.out; omega, HB1, HX1, HR1, HA3⟩
          | false =>
            have HI3 : Hid (((gs.drop (k + 1)).any fun cs => cs.all f) = R) := Lib.hid (by
              have h := HI2.out
              rw [← HA2.out] at h
              exact h)
            go_wp2_with fail
            go_roundg m
            case measure => exact Nat.lt_succ_self m
            case rel => exact ⟨k + 1, _, _, _, _, _, _, rfl, rfl, rfl, rfl, rfl, rfl, by simp, by have := HIK.out; omega, HB1, HX1, HI3⟩
end Go.Proofs.YtoebognfkigooaaGreatDoor.Sv
namespace Go.Proofs.YtoebognfkigooaaGreatDoor.Sv
open Go.RowKit Go.Proofs.YtoebognfkigooaaGreatDoor.PFnSemverEither Go.Proofs.YtoebognfkigooaaGreatDoorW.PrintWords Go.Proofs.YtoebognfkigooaaGreatDoor.Txt Go.Proofs.YtoebognfkigooaaGreatDoor Go.Proofs.YtoebognfkigooaaGreatDoor.Vals
set_option linter.unusedVariables false
set_option linter.unusedSimpArgs false
set_option maxRecDepth 20000

/-- What a test asks of a release. -/
def askC (a m p : Nat) (c : Cn) : Bool := askB c.op (o3 a m p (val 0 c.d1) (val 0 c.d2) (val 0 c.d3)) a m p (val 0 c.d1) (val 0 c.d2) (val 0 c.d3) c.md c.di c.pd
/-- Only = and ^ may be in short. -/
def DirtyOk (c : Cn) : Prop := c.op ∈ opsLL ∧ (c.di = false ∨ c.op = [] ∨ c.op = [94])
theorem cseg_self (a : Nat) : cseg a a = 0 := by unfold cseg; rw [if_neg (by omega), if_neg (by omega)]
theorem o3_self (a m p : Nat) : o3 a m p a m p = 0 := by unfold o3; simp [cseg_self]
theorem check_con (a m p : Nat) (c : Cn) (hc : DirtyOk c) (bv lo b : Nat) (ov : ByteArray) (W : World) (hcon : ConIs W lo b c) (hv : VerIs W bv a m p ⟨#[]⟩ ⟨#[]⟩ ov) :
    Calls Tryz.prog 42 #[.pointer (some ⟨b, 0, none⟩), .pointer (some ⟨bv, 0, none⟩), .bool false] W (AskRes (askC a m p c) W) := by
  obtain ⟨_, vb, og, hvb, hsix, hver⟩ := hcon
  refine check_any bv b vb a m p _ _ _ _ _ _ ov (ba c.vt) og c.op hc.1 _ (by omega) (by omega) W ⟨hv, hsix, hver⟩ hc.2 (fun h1 h2 h3 => ?_) fun W2 hW2 h1 h2 => ?_
  · rw [← Int.ofNat.inj h1, ← Int.ofNat.inj h2, ← Int.ofNat.inj h3]; exact o3_self a m p
  · exact cmp_rel bv vb a m p _ _ _ ov og W2 h1 h2
set_option maxHeartbeats 2000000 in
theorem semverCompare_walk (s v : ByteArray) (gs : List (List Cn)) (hgn : gs.length ≤ 1000) (hcn : ∀ cs ∈ gs, cs.length ≤ 1000) (hdo : ∀ cs ∈ gs, ∀ c ∈ cs, DirtyOk c) (a m p : Nat)
    (NC : ∀ W, Calls Tryz.prog 14 #[.string s] W (ConsRes gs W))
    (NV : ∀ W, Calls Tryz.prog 29 #[.string v] W (VerRes a m p ⟨#[]⟩ ⟨#[]⟩ v W)) (w : World) :
    Calls Tryz.prog 17 #[.string s, .string v] w fun e w' => e = .returned (.tuple #[.bool (gs.any fun cs => cs.all (askC a m p)), .nilIface]) ∧ Below w.heap.size w w' := by
  have HNC := Lib.hid (NC w)
  have HNV := Lib.hid NV
  have HD := Lib.hid hdo
  have HCN := Lib.hid hcn
  obtain ⟨n, hn⟩ : ∃ n, n = gs.length := ⟨_, rfl⟩
  have HN := Lib.hid hn
  clear NC NV hdo hcn
  go_enter Tryz.func17, Tryz.ntmps17
  go_wp2_with fail
  refine HNC.out.mono ?_
  rintro e w1 ⟨b, ob, pb, lo, rfl, hbl, HBOX, HG, HP, HB1⟩
  rw [← hn] at HBOX HG HP
  clear hn
  go_wp2_with fail
  refine (HNV.out _).mono ?_
  rintro e w2 ⟨bv, rfl, hbv, HV, hb2⟩
  have HB2 := Lib.hid (HB1.out.trans (hb2.out.mono HB1.out.size))
  have hbox : w2.heap[b]? = some (.cells #[.slice (some ⟨ob, 0, none⟩) n n, .slice (some ⟨pb, 0, none⟩) n n, .bool false] 67 (0, 0)) := (hb2.out.block _ (blk_lt HBOX.out)).trans HBOX.out
  have k0 : w2.cell? ⟨b, 0, none⟩ = some (.slice (some ⟨ob, 0, none⟩) n n) := by rw [blk_cell hbox]; rfl
  have k1 : w2.cell? ⟨b, 1, none⟩ = some (.slice (some ⟨pb, 0, none⟩) n n) := by rw [blk_cell hbox]; rfl
  have k2 : w2.cell? ⟨b, 2, none⟩ = some (.bool false) := by rw [blk_cell hbox]; rfl
  have HCA : Hid (Calls Tryz.prog 30 #[.agg #[.slice (some ⟨ob, 0, none⟩) n n, .slice (some ⟨pb, 0, none⟩) n n, .bool false], .pointer (some ⟨bv, 0, none⟩)] w2 fun e w' => e = .returned (.bool (gs.any fun cs => cs.all (askC a m p))) ∧ Below w2.heap.size w2 w') := Lib.hid (by
    have hg := HG.out.below hb2.out
    have hp := HP.out.below hb2.out
    have hN := HN.out
    rw [hN] at hg hp ⊢
    refine check_all gs hgn HCN.out (askC a m p) bv ob pb lo w2 hg hp fun cs hcs c hc lo' b' W hW hcon => ?_
    exact check_con a m p c (HD.out cs hcs c hc) bv lo' b' v W hcon ((hW.block _ (blk_lt HV.out)).trans HV.out))
  clear hb2 hbox hbl hbv
  go_wp2_with fail
  refine HCA.out.mono ?_
  rintro e w3 ⟨rfl, hb3⟩
  have HB3 := Lib.hid (HB2.out.trans (hb3.mono HB2.out.size))
  clear hb3
  go_wp2_with fail
  go_ret2
  exact ⟨rfl, HB3.out⟩
set_option maxHeartbeats 1000000 in
theorem implCompare_walk (s v : ByteArray) (R : Bool) (w : World)
    (C : Calls Tryz.prog 17 #[.string s, .string v] w fun e w' => e = .returned (.tuple #[.bool R, .nilIface]) ∧ Below w.heap.size w w') :
    Calls Tryz.prog 9 #[.string s, .string v] w fun e w' => e = .returned (.tuple #[.bool R, .bool true]) ∧ Below w.heap.size w w' := by
  have HS : Hid (Calls Tryz.prog 13 #[.string s, .string v] w fun e w' => e = .returned (.tuple #[.bool R, .nilIface]) ∧ Below w.heap.size w w') := Lib.hid (by
    have HC := Lib.hid C
    clear C
    go_enter Tryz.func13, Tryz.ntmps13
    go_wp2_with fail
    refine HC.out.mono ?_
    rintro e w1 ⟨rfl, hb⟩
    go_wp2_with fail
    go_ret2
    exact ⟨rfl, hb⟩)
  clear C
  go_enter Tryz.func9, Tryz.ntmps9
  go_wp2_with fail
  refine HS.out.mono ?_
  rintro e w1 ⟨rfl, hb⟩
  go_wp2_with fail
  go_region
  go_wp2_with fail
  go_ret2
  exact ⟨rfl, Below.trans hb ⟨rfl, rfl, rfl, Nat.le_refl _, fun _ _ => rfl⟩⟩

/-! ### the text of groups -/
def okg (c : UInt8) : Bool := isDig c || decide (c.toNat ∈ [46, 32, 44, 61, 33, 62, 60, 126, 94])
theorem okg_no {c : UInt8} (h : okg c = true) : (c.toNat ≠ 45 ∧ c.toNat ≠ 43 ∧ c.toNat ≠ 118) ∧ c ≠ 124 := by
  have key : c.toNat ≠ 45 ∧ c.toNat ≠ 43 ∧ c.toNat ≠ 118 ∧ c.toNat ≠ 124 := by
    unfold okg isDig at h
    simp at h
    omega
  exact ⟨⟨key.1, key.2.1, key.2.2.1⟩, fun e => key.2.2.2 (by rw [e]; rfl)⟩
theorem dig_okg {d : List UInt8} (h : d.all isDig = true) : ∀ x ∈ d, okg x = true := fun x hx => by unfold okg; rw [List.all_eq_true.1 h x hx]; rfl
theorem sg_okg {d : List UInt8} (h : d.all isDig = true) : ∀ x ∈ sg 46 d, okg x = true := fun x hx => by
  unfold sg at hx
  split at hx
  · simp at hx
  · rcases List.mem_cons.1 hx with rfl | hx
    · rfl
    · exact dig_okg h x hx
theorem ops_okg : opsLL.all (fun o => o.all okg) = true := by rfl
theorem text_okg {c : Cn} (h : c.Ok) : ∀ x ∈ c.text, okg x = true := fun x hx => by
  unfold Cn.text Cn.vt at hx
  simp only [List.mem_append] at hx
  rcases hx with hx | hx | hx | hx | hx
  · exact List.all_eq_true.1 (List.all_eq_true.1 ops_okg c.op h.ho) x hx
  · rcases h.hb with e | e <;> rw [e] at hx <;> simp at hx
    rw [hx]; rfl
  · exact dig_okg h.g1 x hx
  · exact sg_okg h.g2 x hx
  · exact sg_okg h.g3 x hx
theorem gtext_okg {tr : List UInt8} (ht : TrOk tr) : ∀ (ps : List Pc), (∀ q ∈ ps, q.2.Ok ∧ (∀ x ∈ q.1, okg x = true)) → ∀ x ∈ gtext tr ps, okg x = true
  | [], _, x, hx => by
    rcases ht with e | e <;> rw [show gtext tr [] = tr from rfl, e] at hx <;> simp at hx
    rw [hx]; rfl
  | p :: ps, h, x, hx => by
    simp only [gtext, List.mem_append] at hx
    rcases hx with hx | hx | hx
    · exact (h p (by simp)).2 x hx
    · exact text_okg (h p (by simp)).1 x hx
    · exact gtext_okg ht ps (fun q hq => h q (by simp [hq])) x hx
theorem dotOk_no : ∀ (a b : List UInt8), (∀ x ∈ a, x.toNat ≠ 46) → dotOk (a ++ b) = dotOk b
  | [], b, _ => rfl
  | [c], [], h => by have := h c (by simp); simp [dotOk, this]
  | [c], d :: r, h => by have := h c (by simp); simp [dotOk, this]
  | c :: d :: a, b, h => by
    have h1 := h c (by simp)
    have ih := dotOk_no (d :: a) b (fun x hx => h x (by simp at hx ⊢; exact .inr hx))
    rw [show c :: d :: a ++ b = c :: d :: (a ++ b) from rfl]
    simp only [dotOk, h1, ne_eq, not_false_eq_true, decide_true, Bool.true_or, Bool.true_and]
    exact ih
theorem dig_no46 {d : List UInt8} (h : d.all isDig = true) : ∀ x ∈ d, x.toNat ≠ 46 := fun x hx => by have := dig_range (List.all_eq_true.1 h x hx); omega
theorem dotOk_sg {d : List UInt8} (h : d.all isDig = true) (b : List UInt8) : dotOk (sg 46 d ++ b) = dotOk b := by
  unfold sg
  split
  · rfl
  · rename_i hd
    cases d with
    | nil => exact absurd rfl hd
    | cons x d =>
      have hx : isMk x = true := by unfold isMk; rw [show isDig x = true by simp only [List.all_cons, Bool.and_eq_true] at h; exact h.1]; rfl
      rw [show 46 :: x :: d ++ b = 46 :: x :: (d ++ b) from rfl]
      simp only [dotOk, hx, Bool.or_true, Bool.true_and]
      exact dotOk_no (x :: d) b (dig_no46 h)
theorem ops_no46 : opsLL.all (fun o => o.all fun c => decide (c.toNat ≠ 46)) = true := by rfl
theorem dotOk_text {c : Cn} (h : c.Ok) (b : List UInt8) : dotOk (c.text ++ b) = dotOk b := by
  unfold Cn.text Cn.vt
  simp only [List.append_assoc]
  rw [dotOk_no c.op _ (fun x hx => by have := List.all_eq_true.1 (List.all_eq_true.1 ops_no46 c.op h.ho) x hx; simpa using this), dotOk_no c.bl _ (fun x hx => by rcases h.hb with e | e <;> rw [e] at hx <;> simp at hx; rw [hx]; decide), dotOk_no c.d1 _ (dig_no46 h.g1), dotOk_sg h.g2, dotOk_sg h.g3]
theorem dotOk_gtext {tr : List UInt8} (ht : TrOk tr) (b : List UInt8) : ∀ (ps : List Pc), (∀ q ∈ ps, q.2.Ok ∧ (∀ x ∈ q.1, x.toNat ≠ 46)) → dotOk (gtext tr ps ++ b) = dotOk b
  | [], _ => dotOk_no tr b (fun x hx => by rcases ht with e | e <;> rw [e] at hx <;> simp at hx; rw [hx]; decide)
  | p :: ps, h => by
    obtain ⟨h1, h2⟩ := h p (by simp)
    simp only [gtext, List.append_assoc]
    rw [dotOk_no p.1 _ h2, dotOk_text h1, dotOk_gtext ht b ps (fun q hq => h q (by simp [hq]))]
/-- A group: what stands behind it, its tests. -/
abbrev Gr := List UInt8 × List Pc
def GrOk (g : Gr) : Prop := TrOk g.1 ∧ GOk g.2 ∧ ∀ q ∈ g.2, DirtyOk q.2
def gseg (g : Gr) : List UInt8 := gtext g.1 g.2
theorem GrOk.pcs {g : Gr} (h : GrOk g) : ∀ q ∈ g.2, q.2.Ok ∧ q.2.Small ∧ (∀ x ∈ q.1, x = 44 ∨ x = 32) := by
  obtain ⟨_, ⟨p, r, e, h1, h2, h3, h4⟩, _⟩ := h
  rw [e]
  intro q hq
  rcases List.mem_cons.1 hq with rfl | hq
  · refine ⟨h1, h2, fun x hx => ?_⟩
    rcases h3 with e | ⟨e, _⟩ <;> rw [e] at hx <;> simp at hx
    exact .inr hx
  · obtain ⟨k1, k2, k3⟩ := h4 q hq
    refine ⟨k1, k2, fun x hx => ?_⟩
    rcases k3 with e | ⟨e, _⟩ | ⟨e, _⟩ <;> rw [e] at hx <;> simp at hx
    · exact .inl hx
    · exact hx
    · exact .inr hx
theorem seg_okg {g : Gr} (h : GrOk g) : ∀ x ∈ gseg g, okg x = true := gtext_okg h.1 g.2 fun q hq => ⟨(h.pcs q hq).1, fun x hx => by rcases (h.pcs q hq).2.2 x hx with e | e <;> rw [e] <;> rfl⟩
theorem seg_dot {g : Gr} (h : GrOk g) (b : List UInt8) : dotOk (gseg g ++ b) = dotOk b := dotOk_gtext h.1 b g.2 fun q hq => ⟨(h.pcs q hq).1, fun x hx => by rcases (h.pcs q hq).2.2 x hx with e | e <;> rw [e] <;> decide⟩
theorem bars_mem : ∀ (L : List (List UInt8)) (x : UInt8), x ∈ bars L → x = 124 ∨ ∃ a ∈ L, x ∈ a
  | [], x, h => by simp [bars] at h
  | [a], x, h => .inr ⟨a, by simp, h⟩
  | a :: b :: r, x, h => by
    simp only [bars, List.mem_append, List.mem_cons] at h
    rcases h with h | h | h | h
    · exact .inr ⟨a, by simp, h⟩
    · exact .inl h
    · exact .inl h
    · rcases bars_mem (b :: r) x h with h | ⟨c, hc, hx⟩
      · exact .inl h
      · exact .inr ⟨c, by simp only [List.mem_cons] at hc ⊢; exact .inr hc, hx⟩
theorem bars_dot : ∀ (gs : List Gr), (∀ g ∈ gs, GrOk g) → dotOk (bars (gs.map gseg)) = true
  | [], _ => rfl
  | [g], h => by
    have := seg_dot (h g (by simp)) []
    rw [List.append_nil] at this
    exact this
  | g :: g2 :: r, h => by
    rw [show bars ((g :: g2 :: r).map gseg) = gseg g ++ ([124, 124] ++ bars ((g2 :: r).map gseg)) from rfl, seg_dot (h g (by simp)), dotOk_no [124, 124] _ (by simp)]
    exact bars_dot (g2 :: r) (fun x hx => h x (by simp only [List.mem_cons] at hx ⊢; exact .inr hx))
theorem seg_len_le : ∀ (L : List (List UInt8)) (a : List UInt8), a ∈ L → a.length ≤ (bars L).length
  | [], a, h => by simp at h
  | [b], a, h => by rw [List.mem_singleton.1 h]; exact Nat.le_refl _
  | b :: c :: r, a, h => by
    simp only [bars, List.length_append, List.length_cons]
    rcases List.mem_cons.1 h with rfl | h
    · omega
    · have := seg_len_le (c :: r) a h; omega
theorem gtext_count (tr : List UInt8) : ∀ ps : List Pc, (∀ q ∈ ps, q.2.Ok) → ps.length ≤ (gtext tr ps).length
  | [], _ => Nat.zero_le _
  | p :: ps, h => by
    have := gtext_count tr ps (fun q hq => h q (by simp [hq]))
    have := text_ne (h p (by simp))
    simp only [gtext, List.length_append, List.length_cons]
    omega
/-- NewConstraint at groups of tests. -/
theorem cons_text (s : ByteArray) (gs : List Gr) (h0 : gs ≠ []) (h32 : gs.length ≤ 32) (hg : ∀ g ∈ gs, GrOk g) (hs : s.size ≤ 512) (h : s.toList = bars (gs.map gseg)) (w : World) :
    Calls Tryz.prog 14 #[.string s] w (ConsRes (gs.map fun g => g.2.map Prod.snd) w) := by
  have hl := len_eq s
  have hq : Plain3 s := fun x hx => by
    rw [h] at hx
    rcases bars_mem _ x hx with e | ⟨a, ha, hxa⟩
    · rw [e]; decide
    · obtain ⟨g, hgm, rfl⟩ := List.mem_map.1 ha
      exact (okg_no (seg_okg (hg g hgm) x hxa)).1
  have hd : dotOk s.toList = true := by rw [h]; exact bars_dot gs hg
  have e1 : (gs.map fun g => (⟨ba (gseg g), g.2.map Prod.snd⟩ : Grp)).map Grp.cs = gs.map fun g => g.2.map Prod.snd := by rw [List.map_map]; rfl
  have e2 : (gs.map fun g => (⟨ba (gseg g), g.2.map Prod.snd⟩ : Grp)).map Grp.u = (gs.map gseg).map ba := by rw [List.map_map, List.map_map]; rfl
  rw [← e1]
  refine newConstraint_walk s hs _ (by rw [List.length_map]; exact List.length_pos_iff.2 h0) (by rw [List.length_map]; exact h32) (fun W => rewrite_walk s hs hq hd W) (fun W => ?_) (fun G hG => ?_) w
  · rw [e2]
    exact bsplit_calls s (by simpa using h0) (fun a ha x hx => by
      obtain ⟨g, hgm, rfl⟩ := List.mem_map.1 ha
      exact (okg_no (seg_okg (hg g hgm) x hx)).2) h (by omega) (by rw [List.length_map]; omega) W
  · obtain ⟨g, hgm, rfl⟩ := List.mem_map.1 hG
    have hgo := hg g hgm
    have hlen : (gseg g).length ≤ 512 := by
      have := seg_len_le (gs.map gseg) (gseg g) (List.mem_map_of_mem hgm)
      rw [← h] at this
      omega
    have hu : (ba (gseg g)).size ≤ 512 := by rw [ba_size]; exact hlen
    have huq : Plain3 (ba (gseg g)) := fun x hx => by rw [tl_ba] at hx; exact (okg_no (seg_okg hgo x hx)).1
    have hut : (ba (gseg g)).toList = gtext g.1 g.2 := tl_ba _
    have hcnt := gtext_count g.1 g.2 (fun q hq => (hgo.pcs q hq).1)
    refine ⟨fun W => ?_, fun W => ?_, ?_, ?_, fun c hc => ?_⟩
    · exact valid_walk _ hu (VAt (ba (gseg g)) g.1) (vstart _ g.1 hgo.2.1 hut) (vstep _ hu huq g.1 hgo.1) W
    · refine (find_walk _ hu (FAt (ba (gseg g)) g.1 (g.2.map fun p => ba p.2.text)) (fstart _ g.1 hgo.2.1 hut) (fstep _ hu huq g.1 hgo.1 _) W).mono ?_
      rintro e w' ⟨G, cap, out, rfl, ho, hf, hb⟩
      have hout := fend _ _ hf.out
      have hol : out.length = (g.2.map Prod.snd).length := by rw [hout]; simp
      refine ⟨G, cap, by rw [hol], ?_, hb⟩
      have h2 := ho.out
      rw [hol] at h2
      rw [hout, List.map_map] at h2
      rw [List.map_map]
      exact Lib.hid h2
    · obtain ⟨p, r, e, _⟩ := hgo.2.1
      simp [e]
    · simp only [List.length_map]
      unfold gseg at hlen
      omega
    · obtain ⟨q, hq, rfl⟩ := List.mem_map.1 hc
      obtain ⟨k1, k2, _⟩ := hgo.pcs q hq
      have htl : q.2.text.length ≤ 512 := by
        have hx := hgo
        have : ∀ (ps : List Pc), q ∈ ps → q.2.text.length ≤ (gtext g.1 ps).length := by
          intro ps
          induction ps with
          | nil => simp
          | cons p ps ih =>
            intro hq
            simp only [gtext, List.length_append]
            rcases List.mem_cons.1 hq with rfl | hq
            · omega
            · have := ih hq; omega
        have := this g.2 hq
        unfold gseg at hlen
        omega
      exact parse_at (ba q.2.text) (by rw [ba_size]; exact htl) (fun x hx => by rw [tl_ba] at hx; exact (okg_no (text_okg k1 x hx)).1) q.2 k1 k2 (tl_ba _)
/-- impl.SemverCompare at groups of tests and a release of three numbers. -/
theorem compare_text (s v : ByteArray) (gs : List Gr) (h0 : gs ≠ []) (h32 : gs.length ≤ 32) (hg : ∀ g ∈ gs, GrOk g) (hs : s.size ≤ 512) (h : s.toList = bars (gs.map gseg))
    (d1 d2 d3 : List UInt8) (n1 : d1 ≠ [] ∧ d1.all isDig = true ∧ d1.length ≤ 9) (n2 : d2 ≠ [] ∧ d2.all isDig = true ∧ d2.length ≤ 9) (n3 : d3 ≠ [] ∧ d3.all isDig = true ∧ d3.length ≤ 9) (hv : v.toList = d1 ++ (sg 46 d2 ++ sg 46 d3)) (w : World) :
    Calls Tryz.prog 9 #[.string s, .string v] w fun e w' => e = .returned (.tuple #[.bool (gs.any fun g => g.2.all fun q => askC (val 0 d1) (val 0 d2) (val 0 d3) q.2), .bool true]) ∧ Below w.heap.size w w' := by
  refine implCompare_walk s v _ w ?_
  have e : (gs.any fun g => g.2.all fun q => askC (val 0 d1) (val 0 d2) (val 0 d3) q.2) = ((gs.map fun g => g.2.map Prod.snd).any fun cs => cs.all (askC (val 0 d1) (val 0 d2) (val 0 d3))) := by
    rw [List.any_map]
    congr 1
    funext g
    show _ = (g.2.map Prod.snd).all (askC (val 0 d1) (val 0 d2) (val 0 d3))
    rw [List.all_map]; rfl
  rw [e]
  have hlen : ∀ g ∈ gs, g.2.length ≤ 512 := fun g hgm => by
    have h1 := gtext_count g.1 g.2 (fun q hq => ((hg g hgm).pcs q hq).1)
    have h2 := seg_len_le (gs.map gseg) (gseg g) (List.mem_map_of_mem hgm)
    rw [← h, ← len_eq] at h2
    unfold gseg at h2
    omega
  refine semverCompare_walk s v _ (by rw [List.length_map]; omega) (fun cs hcs => ?_) (fun cs hcs c hc => ?_) _ _ _ (fun W => cons_text s gs h0 h32 hg hs h W) (fun W => ?_) w
  · obtain ⟨g, hgm, rfl⟩ := List.mem_map.1 hcs
    have := hlen g hgm
    simp only [List.length_map]; omega
  · obtain ⟨g, hgm, rfl⟩ := List.mem_map.1 hcs
    obtain ⟨q, hq, rfl⟩ := List.mem_map.1 hc
    exact (hg g hgm).2.2 q hq
  · have k2 := sg_len d2 n2.2.2
    have k3 := sg_len d3 n3.2.2
    exact newNum_walk (numTx_ok n1.1 n1.2.1 n2.2.1 n3.2.1 (fun e => absurd e n2.1)) v hv (by rw [len_eq, hv]; simp; omega) _ _ _ (parse_val n1.1 n1.2.1 (by omega)) (num_of n2.1 n2.2.1 n2.2.2) (num_of n3.1 n3.2.1 n3.2.2) W
end Go.Proofs.YtoebognfkigooaaGreatDoor.Sv
namespace Go.Proofs.YtoebognfkigooaaGreatDoor.Sv
open Go.RowKit Go.Proofs.YtoebognfkigooaaGreatDoor.PFnSemverEither Go.Proofs.YtoebognfkigooaaGreatDoorW.PrintWords Go.Proofs.YtoebognfkigooaaGreatDoor.Txt Go.Proofs.YtoebognfkigooaaGreatDoor Go.Proofs.YtoebognfkigooaaGreatDoor.Vals
set_option linter.unusedVariables false
set_option linter.unusedSimpArgs false
set_option maxRecDepth 20000

/-- The order of two triples. -/
def ord3 (x y z X Y Z : Int) : Int := if x < X then -1 else if X < x then 1 else if y < Y then -1 else if Y < y then 1 else if z < Z then -1 else if Z < z then 1 else 0
theorem cellAt {w : World} {b : Nat} {cs : Array Value} {t : TypeId} (h : w.heap[b]? = some (.cells cs t (0, 0))) (j : Nat) : w.cell? ⟨b, j, none⟩ = cs[j]? := by rw [blk_cell h]
set_option maxHeartbeats 4000000 in
theorem order_walk (x y z X Y Z : Int) (p q p' q' : ByteArray) (w : World) :
    Calls Tryz.prog 7 #[.agg #[.int .u64 x, .int .u64 y, .int .u64 z, .string p, .string q], .agg #[.int .u64 X, .int .u64 Y, .int .u64 Z, .string p', .string q']] w fun e w' => e = .returned (.int .i64 (ord3 x y z X Y Z)) ∧ Below w.heap.size w w' := by
  go_enter Tryz.func7, Tryz.ntmps7
  go_wp2_with fail
  obtain ⟨w2, hw2⟩ : ∃ w2, w2 = (w.alloc (.cells #[.int .u64 x, .int .u64 y, .int .u64 z, .string p, .string q] 26)).alloc (.cells #[.int .u64 X, .int .u64 Y, .int .u64 Z, .string p', .string q'] 26) := ⟨_, rfl⟩
  have hs2 : w2.heap.size = w.heap.size + 2 := by rw [hw2]; simp
  have h1 : w2.heap[w.heap.size]? = some (.cells #[.int .u64 x, .int .u64 y, .int .u64 z, .string p, .string q] 26 (0, 0)) := by
    rw [hw2]; exact (Below.heap_alloc _ _ _ (by simp)).trans (heap_alloc_new w _)
  have h2 : w2.heap[w.heap.size + 1]? = some (.cells #[.int .u64 X, .int .u64 Y, .int .u64 Z, .string p', .string q'] 26 (0, 0)) := by
    have := heap_alloc_new (w.alloc (.cells #[.int .u64 x, .int .u64 y, .int .u64 z, .string p, .string q] 26)) (.cells #[.int .u64 X, .int .u64 Y, .int .u64 Z, .string p', .string q'] 26)
    rw [hw2]; simpa using this
  have HBW : Hid (Below w.heap.size w w2) := Lib.hid (by rw [hw2]; exact ((Below.refl _ _).alloc (Nat.le_refl _) _).alloc (by simp) _)
  have HK : Hid (∀ W, Below w2.heap.size w2 W → W.cell? ⟨w.heap.size, 0, none⟩ = some (.int .u64 x) ∧ W.cell? ⟨w.heap.size, 1, none⟩ = some (.int .u64 y) ∧ W.cell? ⟨w.heap.size, 2, none⟩ = some (.int .u64 z) ∧ W.cell? ⟨w.heap.size + 1, 0, none⟩ = some (.int .u64 X) ∧ W.cell? ⟨w.heap.size + 1, 1, none⟩ = some (.int .u64 Y) ∧ W.cell? ⟨w.heap.size + 1, 2, none⟩ = some (.int .u64 Z)) := Lib.hid fun W hW => by
    have a := (hW.block _ (blk_lt h1)).trans h1
    have b := (hW.block _ (blk_lt h2)).trans h2
    refine ⟨?_, ?_, ?_, ?_, ?_, ?_⟩
    all_goals first | (rw [blk_cell a]; rfl) | (rw [blk_cell b]; rfl)
  have hdr : Below w2.heap.size w2 w2.drew := ⟨rfl, rfl, rfl, Nat.le_refl _, fun _ _ => rfl⟩
  have HDR := Lib.hid hdr
  rw [← hw2]
  have HS2 := Lib.hid hs2
  clear h1 h2 hdr hw2 hs2
  go_region_held3 (fun W => W.cell? ⟨w.heap.size, 0, none⟩ = some (.int .u64 x) ∧ W.cell? ⟨w.heap.size, 1, none⟩ = some (.int .u64 y) ∧ W.cell? ⟨w.heap.size, 2, none⟩ = some (.int .u64 z) ∧ W.cell? ⟨w.heap.size + 1, 0, none⟩ = some (.int .u64 X) ∧ W.cell? ⟨w.heap.size + 1, 1, none⟩ = some (.int .u64 Y) ∧ W.cell? ⟨w.heap.size + 1, 2, none⟩ = some (.int .u64 Z))
    (first | exact HK.out _ HDR.out | exact HK.out _ (HDR.out.alloc (Nat.le_refl _) _) | exact HK.out _ ((HDR.out.alloc (Nat.le_refl _) _).alloc (by simp) _)) (fail)
  all_goals
    (first
      | (obtain ⟨w3, hw3⟩ : ∃ w3, w3 = ((w2.alloc (.cells #[.int .u64 x, .int .u64 y, .int .u64 z] 40)).alloc (.cells #[.int .u64 X, .int .u64 Y, .int .u64 Z] 40)).drew := ⟨_, rfl⟩
         rw [← hw3]
         have g1 : w3.heap[w2.heap.size]? = some (.cells #[.int .u64 x, .int .u64 y, .int .u64 z] 40 (0, 0)) := by
           rw [hw3]; exact (Below.heap_alloc _ _ _ (by simp)).trans (heap_alloc_new w2 _)
         have g2 : w3.heap[w2.heap.size + 1]? = some (.cells #[.int .u64 X, .int .u64 Y, .int .u64 Z] 40 (0, 0)) := by
           have := heap_alloc_new (w2.alloc (.cells #[.int .u64 x, .int .u64 y, .int .u64 z] 40)) (.cells #[.int .u64 X, .int .u64 Y, .int .u64 Z] 40)
           rw [hw3]; show ((w2.alloc _).alloc _).heap[w2.heap.size + 1]? = _; simpa using this
         have g3 : Below w.heap.size w w3 := by
           rw [hw3]
           exact Below.trans ((HBW.out.alloc HBW.out.size _).alloc (by have := HBW.out.size; rw [World.size_alloc]; omega) _) ⟨rfl, rfl, rfl, Nat.le_refl _, fun _ _ => rfl⟩
         obtain ⟨bl, hn1⟩ : ∃ q, q = w2.heap.size := ⟨_, rfl⟩
         obtain ⟨bm, hn2⟩ : ∃ q, q = w2.heap.size + 1 := ⟨_, rfl⟩
         rw [← hn2] at g2
         rw [← hn1] at g1
         rw [← hn2, ← hn1]
         have HB3 := Lib.hid g3
         have k0 := cellAt g1 0
         have k1 := cellAt g1 1
         have k2 := cellAt g1 2
         have m0 := cellAt g2 0
         have m1 := cellAt g2 1
         have m2 := cellAt g2 2
         clear hw3 hn1 hn2 g1 g2 g3)
      | (obtain ⟨w3, hw3⟩ : ∃ w3, w3 = ((w2.alloc (.cells #[.int .u64 X, .int .u64 Y, .int .u64 Z] 40)).alloc (.cells #[.int .u64 x, .int .u64 y, .int .u64 z] 40)).drew := ⟨_, rfl⟩
         rw [← hw3]
         have g1 : w3.heap[w2.heap.size]? = some (.cells #[.int .u64 X, .int .u64 Y, .int .u64 Z] 40 (0, 0)) := by
           rw [hw3]; exact (Below.heap_alloc _ _ _ (by simp)).trans (heap_alloc_new w2 _)
         have g2 : w3.heap[w2.heap.size + 1]? = some (.cells #[.int .u64 x, .int .u64 y, .int .u64 z] 40 (0, 0)) := by
           have := heap_alloc_new (w2.alloc (.cells #[.int .u64 X, .int .u64 Y, .int .u64 Z] 40)) (.cells #[.int .u64 x, .int .u64 y, .int .u64 z] 40)
           rw [hw3]; show ((w2.alloc _).alloc _).heap[w2.heap.size + 1]? = _; simpa using this
         have g3 : Below w.heap.size w w3 := by
           rw [hw3]
           exact Below.trans ((HBW.out.alloc HBW.out.size _).alloc (by have := HBW.out.size; rw [World.size_alloc]; omega) _) ⟨rfl, rfl, rfl, Nat.le_refl _, fun _ _ => rfl⟩
         obtain ⟨bm, hn1⟩ : ∃ q, q = w2.heap.size := ⟨_, rfl⟩
         obtain ⟨bl, hn2⟩ : ∃ q, q = w2.heap.size + 1 := ⟨_, rfl⟩
         rw [← hn2] at g2
         rw [← hn1] at g1
         rw [← hn2, ← hn1]
         have HB3 := Lib.hid g3
         have k0 := cellAt g2 0
         have k1 := cellAt g2 1
         have k2 := cellAt g2 2
         have m0 := cellAt g1 0
         have m1 := cellAt g1 1
         have m2 := cellAt g1 2
         clear hw3 hn1 hn2 g1 g2 g3))
  all_goals
    (go_wp2_with fail
     refine wp_loop_rounds 4 ?_
     rw [rounds_succ]
     cases e0 : decide (x < X) with
     | true =>
       go_wp2_with fail
       go_region
       go_wp2_with fail
       go_ret
       refine ⟨?_, Below.trans HB3.out ⟨rfl, rfl, rfl, Nat.le_refl _, fun _ _ => rfl⟩⟩
       have : ord3 x y z X Y Z = -1 := by simp [ord3, of_decide_eq_true e0]
       rw [this]
       rfl
     | false =>
       cases f0 : decide (X < x) with
       | true =>
         go_wp2_with fail
         go_region
         go_wp2_with fail
         go_region
         go_wp2_with fail
         go_ret
         refine ⟨?_, Below.trans HB3.out ⟨rfl, rfl, rfl, Nat.le_refl _, fun _ _ => rfl⟩⟩
         have : ord3 x y z X Y Z = 1 := by simp [ord3, of_decide_eq_false e0, of_decide_eq_true f0]
         rw [this]
         rfl
       | false =>
         go_wp2_with fail
         go_region
         go_wp2_with fail
         go_region
         go_wp2_with fail
         rw [rounds_succ]
         cases e1 : decide (y < Y) with
         | true =>
           go_wp2_with fail
           go_region
           go_wp2_with fail
           go_ret
           refine ⟨?_, Below.trans HB3.out ⟨rfl, rfl, rfl, Nat.le_refl _, fun _ _ => rfl⟩⟩
           have : ord3 x y z X Y Z = -1 := by simp [ord3, of_decide_eq_false e0, of_decide_eq_false f0, of_decide_eq_true e1]
           rw [this]
           rfl
         | false =>
           cases f1 : decide (Y < y) with
           | true =>
             go_wp2_with fail
             go_region
             go_wp2_with fail
             go_region
             go_wp2_with fail
             go_ret
             refine ⟨?_, Below.trans HB3.out ⟨rfl, rfl, rfl, Nat.le_refl _, fun _ _ => rfl⟩⟩
             have : ord3 x y z X Y Z = 1 := by simp [ord3, of_decide_eq_false e0, of_decide_eq_false f0, of_decide_eq_false e1, of_decide_eq_true f1]
             rw [this]
             rfl
           | false =>
             go_wp2_with fail
             go_region
             go_wp2_with fail
             go_region
             go_wp2_with fail
             rw [rounds_succ]
             cases e2 : decide (z < Z) with
             | true =>
               go_wp2_with fail
               go_region
               go_wp2_with fail
               go_ret
               refine ⟨?_, Below.trans HB3.out ⟨rfl, rfl, rfl, Nat.le_refl _, fun _ _ => rfl⟩⟩
               have : ord3 x y z X Y Z = -1 := by simp [ord3, of_decide_eq_false e0, of_decide_eq_false f0, of_decide_eq_false e1, of_decide_eq_false f1, of_decide_eq_true e2]
               rw [this]
               rfl
             | false =>
               cases f2 : decide (Z < z) with
               | true =>
                 go_wp2_with fail
                 go_region
                 go_wp2_with fail
                 go_region
                 go_wp2_with fail
                 go_ret
                 refine ⟨?_, Below.trans HB3.out ⟨rfl, rfl, rfl, Nat.le_refl _, fun _ _ => rfl⟩⟩
                 have : ord3 x y z X Y Z = 1 := by simp [ord3, of_decide_eq_false e0, of_decide_eq_false f0, of_decide_eq_false e1, of_decide_eq_false f1, of_decide_eq_false e2, of_decide_eq_true f2]
                 rw [this]
                 rfl
               | false =>
                 go_wp2_with fail
                 go_region
                 go_wp2_with fail
                 go_region
                 go_wp2_with fail
                 rw [rounds_succ]
                 go_wp2_with fail
                 go_ret
                 refine ⟨?_, Below.trans HB3.out ⟨rfl, rfl, rfl, Nat.le_refl _, fun _ _ => rfl⟩⟩
                 have : ord3 x y z X Y Z = 0 := by simp [ord3, of_decide_eq_false e0, of_decide_eq_false f0, of_decide_eq_false e1, of_decide_eq_false f1, of_decide_eq_false e2, of_decide_eq_false f2]
                 rw [this]; rfl)
end Go.Proofs.YtoebognfkigooaaGreatDoor.Sv
namespace Go.Proofs.YtoebognfkigooaaGreatDoor.Sv
open Go.RowKit Go.Proofs.YtoebognfkigooaaGreatDoor.PFnSemverEither Go.Proofs.YtoebognfkigooaaGreatDoorW.PrintWords Go.Proofs.YtoebognfkigooaaGreatDoor.Txt Go.Proofs.YtoebognfkigooaaGreatDoor Go.Proofs.YtoebognfkigooaaGreatDoor.Vals Go.Proofs.YtoebognfkigooaaGreatDoor.Giv
set_option linter.unusedVariables false
set_option linter.unusedSimpArgs false
set_option maxRecDepth 20000

/-- A release as a value. -/
def verV (x y z : Int) : Value := .agg #[.int .u64 x, .int .u64 y, .int .u64 z, .string ⟨#[]⟩, .string ⟨#[]⟩]
def withB (x y z f g h X Y Z : Int) : Bool := decide (0 ≤ ord3 x y z f g h) && decide (ord3 x y z X Y Z < 0)
def Five (w : World) (b : Nat) (x y z : Int) : Prop := w.heap[b]? = some (.cells #[.int .u64 x, .int .u64 y, .int .u64 z, .string ⟨#[]⟩, .string ⟨#[]⟩] 26 (0, 0))
theorem Five.below {w w' : World} {b : Nat} {x y z : Int} (h : Five w b x y z) (hb : Below w.heap.size w w') : Five w' b x y z := (hb.block _ (blk_lt h)).trans h
structure FiveC (C : Addr → Option Value) (b : Nat) (x y z : Int) : Prop where
  c0 : C ⟨b, 0, none⟩ = some (.int .u64 x)
  c1 : C ⟨b, 1, none⟩ = some (.int .u64 y)
  c2 : C ⟨b, 2, none⟩ = some (.int .u64 z)
  c3 : C ⟨b, 3, none⟩ = some (.string ⟨#[]⟩)
  c4 : C ⟨b, 4, none⟩ = some (.string ⟨#[]⟩)
theorem Five.cells {w : World} {b : Nat} {x y z : Int} (h : Five w b x y z) : FiveC (fun p => w.cell? p) b x y z := by
  unfold Five at h
  constructor <;> (show w.cell? _ = _; rw [blk_cell h]; rfl)
theorem three_new (w : World) (x y z f g h X Y Z : Int) : ∃ w3, w3 = ((w.alloc (.cells #[.int .u64 x, .int .u64 y, .int .u64 z, .string ⟨#[]⟩, .string ⟨#[]⟩] 26)).alloc (.cells #[.int .u64 f, .int .u64 g, .int .u64 h, .string ⟨#[]⟩, .string ⟨#[]⟩] 26)).alloc (.cells #[.int .u64 X, .int .u64 Y, .int .u64 Z, .string ⟨#[]⟩, .string ⟨#[]⟩] 26) ∧ Five w3 w.heap.size x y z ∧ Five w3 (w.heap.size + 1) f g h ∧ Five w3 (w.heap.size + 1 + 1) X Y Z ∧ Below w.heap.size w w3 := by
  refine ⟨_, rfl, ?_, ?_, ?_, ((Below.refl _ _).alloc (Nat.le_refl _) _).alloc (by simp) _ |>.alloc (by simp; omega) _⟩
  · exact (Below.heap_alloc _ _ _ (by simp; omega)).trans ((Below.heap_alloc _ _ _ (by simp)).trans (heap_alloc_new w _))
  · have := heap_alloc_new (w.alloc (.cells #[.int .u64 x, .int .u64 y, .int .u64 z, .string ⟨#[]⟩, .string ⟨#[]⟩] 26)) (.cells #[.int .u64 f, .int .u64 g, .int .u64 h, .string ⟨#[]⟩, .string ⟨#[]⟩] 26)
    refine (Below.heap_alloc _ _ _ (by simp)).trans ?_
    simpa using this
  · have := heap_alloc_new ((w.alloc (.cells #[.int .u64 x, .int .u64 y, .int .u64 z, .string ⟨#[]⟩, .string ⟨#[]⟩] 26)).alloc (.cells #[.int .u64 f, .int .u64 g, .int .u64 h, .string ⟨#[]⟩, .string ⟨#[]⟩] 26)) (.cells #[.int .u64 X, .int .u64 Y, .int .u64 Z, .string ⟨#[]⟩, .string ⟨#[]⟩] 26)
    unfold Five
    simpa using this
theorem eq_ver (X Y Z : Int) (hto : ¬ (X = 0 ∧ Y = 0 ∧ Z = 0)) (W : World) : (binOp .eql 26 (.agg #[.int .u64 X, .int .u64 Y, .int .u64 Z, .string ⟨#[]⟩, .string ⟨#[]⟩]) (.agg #[.int .u64 0, .int .u64 0, .int .u64 0, .string ⟨#[]⟩, .string ⟨#[]⟩])).run Tryz.prog W = .ok (.bool false) W := by
  have u24 := Tryz.underlying24
  have u9 := Tryz.underlying9
  have hS : Tryz.prog.underlying 26 = some (.struct (Tryz.prog.fieldsOf 26)) := by kernel_rfl
  rw [run_eql_struct, show (10000 : Nat) = 9999 + 1 from rfl, run_equalIn_agg W 9999 26 _ _ hS (by kernel_rfl)]
  simp only [Program.fieldsOf, Tryz.underlying26]
  go_simp
  exact fun h1 h2 h3 => hto ⟨h1, h2, h3⟩
end Go.Proofs.YtoebognfkigooaaGreatDoor.Sv
namespace Go.Proofs.YtoebognfkigooaaGreatDoor.Sv
open Go.RowKit Go.Proofs.YtoebognfkigooaaGreatDoor.PFnSemverEither Go.Proofs.YtoebognfkigooaaGreatDoorW.PrintWords Go.Proofs.YtoebognfkigooaaGreatDoor.Txt Go.Proofs.YtoebognfkigooaaGreatDoor Go.Proofs.YtoebognfkigooaaGreatDoor.Vals
set_option linter.unusedVariables false
set_option linter.unusedSimpArgs false

def Lex (x y z X Y Z : Int) : Prop := x < X ∨ x = X ∧ (y < Y ∨ y = Y ∧ z < Z)
instance (x y z X Y Z : Int) : Decidable (Lex x y z X Y Z) := by unfold Lex; infer_instance
theorem ord3_cases (x y z X Y Z : Int) : (Lex x y z X Y Z ∧ ord3 x y z X Y Z = -1) ∨ (Lex X Y Z x y z ∧ ord3 x y z X Y Z = 1) ∨ ((x = X ∧ y = Y ∧ z = Z) ∧ ord3 x y z X Y Z = 0) := by
  unfold ord3 Lex
  by_cases a : x < X
  · exact .inl ⟨.inl a, if_pos a⟩
  by_cases b : X < x
  · exact .inr (.inl ⟨.inl b, by rw [if_neg a, if_pos b]⟩)
  by_cases c : y < Y
  · exact .inl ⟨by omega, by rw [if_neg a, if_neg b, if_pos c]⟩
  by_cases d : Y < y
  · exact .inr (.inl ⟨by omega, by rw [if_neg a, if_neg b, if_neg c, if_pos d]⟩)
  by_cases e : z < Z
  · exact .inl ⟨by omega, by rw [if_neg a, if_neg b, if_neg c, if_neg d, if_pos e]⟩
  by_cases f : Z < z
  · exact .inr (.inl ⟨by omega, by rw [if_neg a, if_neg b, if_neg c, if_neg d, if_neg e, if_pos f]⟩)
  · exact .inr (.inr ⟨by omega, by rw [if_neg a, if_neg b, if_neg c, if_neg d, if_neg e, if_neg f]⟩)
theorem o3_ord (a m p a' m' p' : Nat) : o3 a m p a' m' p' = ord3 a m p a' m' p' := by
  unfold o3 ord3 cseg
  by_cases h1 : a < a'
  · simp [h1]
  by_cases h2 : a' < a
  · simp [h1, h2]
  by_cases h3 : m < m'
  · simp [h1, h2, h3]
  by_cases h4 : m' < m
  · simp [h1, h2, h3, h4]
  by_cases h5 : p < p'
  · simp [h1, h2, h3, h4, h5]
  by_cases h6 : p' < p
  · simp [h1, h2, h3, h4, h5, h6]
  · simp [h1, h2, h3, h4, h5, h6]
theorem text3_list (a m p : Nat) : (text3 a m p).toList = Lib.decDigits a ++ (46 :: (Lib.decDigits m ++ (46 :: Lib.decDigits p))) := by
  have e : (⟨#[46]⟩ : ByteArray).toList = [46] := by rw [Lib.toList_data]
  unfold text3
  rw [tl_append, tl_append, tl_append, tl_append, decB_tl, decB_tl, decB_tl, e]
  simp
theorem sg_dec (n : Nat) : sg 46 (Lib.decDigits n) = 46 :: Lib.decDigits n := by unfold sg; rw [if_neg (dec_ne n)]
theorem text3_sg (a m p : Nat) : (text3 a m p).toList = Lib.decDigits a ++ (sg 46 (Lib.decDigits m) ++ sg 46 (Lib.decDigits p)) := by
  rw [text3_list, sg_dec, sg_dec]; simp
theorem text3_size {a m p : Nat} : (text3 a m p).size = (Lib.decDigits a).length + (Lib.decDigits m).length + (Lib.decDigits p).length + 2 := by
  rw [len_eq, text3_list]; simp; omega
theorem dec0 : Lib.decDigits 0 = [48] := Lib.decDigits_one (by decide)
/-- Tests of three, two, one numbers. -/
def cn3 (o bl : List UInt8) (a m p : Nat) : Cn := ⟨o, bl, Lib.decDigits a, Lib.decDigits m, Lib.decDigits p⟩
def cn2 (o : List UInt8) (a m : Nat) : Cn := ⟨o, [], Lib.decDigits a, Lib.decDigits m, []⟩
def cn1 (o : List UInt8) (a : Nat) : Cn := ⟨o, [], Lib.decDigits a, [], []⟩
theorem cn3_ok {o bl : List UInt8} (ho : o ∈ opsLL) (hb : bl = [] ∨ bl = [32]) (a m p : Nat) : (cn3 o bl a m p).Ok := ⟨dec_ne a, dec_all a, dec_all m, dec_all p, fun h => absurd h (dec_ne m), ho, hb⟩
theorem cn2_ok {o : List UInt8} (ho : o ∈ opsLL) (a m : Nat) : (cn2 o a m).Ok := ⟨dec_ne a, dec_all a, dec_all m, rfl, fun h => absurd h (dec_ne m), ho, .inl rfl⟩
theorem cn1_ok {o : List UInt8} (ho : o ∈ opsLL) (a : Nat) : (cn1 o a).Ok := ⟨dec_ne a, dec_all a, rfl, rfl, fun _ => rfl, ho, .inl rfl⟩
theorem dec9 {n : Nat} (h : n < 1000000000) : (Lib.decDigits n).length ≤ 9 := dec_len 8 n (by omega)
theorem cn3_small {o bl : List UInt8} {a m p : Nat} (ha : a < 1000000000) (hm : m < 1000000000) (hp : p < 1000000000) : (cn3 o bl a m p).Small := ⟨dec9 ha, dec9 hm, dec9 hp⟩
theorem cn2_small {o : List UInt8} {a m : Nat} (ha : a < 1000000000) (hm : m < 1000000000) : (cn2 o a m).Small := ⟨dec9 ha, dec9 hm, Nat.zero_le _⟩
theorem cn1_small {o : List UInt8} {a : Nat} (ha : a < 1000000000) : (cn1 o a).Small := ⟨dec9 ha, Nat.zero_le _, Nat.zero_le _⟩
theorem cn3_dirty {o bl : List UInt8} (ho : o ∈ opsLL) (a m p : Nat) : DirtyOk (cn3 o bl a m p) := ⟨ho, .inl (by unfold cn3 Cn.di; simp [dec_ne])⟩
theorem ask3 (o bl : List UInt8) (a m p : Nat) (x y z : Nat) : askC x y z (cn3 o bl a m p) = askB o (ord3 x y z a m p) x y z a m p false false false := by
  unfold askC cn3 Cn.md Cn.di Cn.pd
  simp only [dec_val, o3_ord]
  simp [dec_ne]
theorem ask2 (o : List UInt8) (a m : Nat) (x y z : Nat) : askC x y z (cn2 o a m) = askB o (ord3 x y z a m 0) x y z a m 0 false true true := by
  unfold askC cn2 Cn.md Cn.di Cn.pd
  have e : val 0 ([] : List UInt8) = 0 := rfl
  simp only [dec_val, o3_ord, e]
  simp [dec_ne]
theorem ask1 (o : List UInt8) (a : Nat) (x y z : Nat) : askC x y z (cn1 o a) = askB o (ord3 x y z a 0 0) x y z a 0 0 true true false := by
  unfold askC cn1 Cn.md Cn.di Cn.pd
  have e : val 0 ([] : List UInt8) = 0 := rfl
  simp only [dec_val, o3_ord, e]
  simp
/-- impl.SemverCompare at one group. -/
theorem compare_group (s : ByteArray) (ps : List Pc) (hg : GOk ps) (hd : ∀ q ∈ ps, DirtyOk q.2) (hs : s.size ≤ 512) (h : s.toList = gtext [] ps) (x y z : Nat) (hx : x < 1000000000) (hy : y < 1000000000) (hz : z < 1000000000) (W : World) :
    Calls Tryz.prog 9 #[.string s, .string (text3 x y z)] W fun e w' => e = .returned (.tuple #[.bool (ps.all fun q => askC x y z q.2), .bool true]) ∧ Below W.heap.size W w' := by
  have := compare_text s (text3 x y z) [([], ps)] (by simp) (by simp) (fun g hgm => by rw [List.mem_singleton.1 hgm]; exact ⟨.inl rfl, hg, hd⟩) hs h (Lib.decDigits x) (Lib.decDigits y) (Lib.decDigits z) ⟨dec_ne x, dec_all x, dec9 hx⟩ ⟨dec_ne y, dec_all y, dec9 hy⟩ ⟨dec_ne z, dec_all z, dec9 hz⟩ (text3_sg x y z) W
  simp only [dec_val, List.any_cons, List.any_nil, Bool.or_false] at this
  exact this
theorem compare_one (s : ByteArray) (c : Cn) (hc : c.Ok) (hm : c.Small) (hd : DirtyOk c) (hs : s.size ≤ 512) (h : s.toList = c.text) (x y z : Nat) (hx : x < 1000000000) (hy : y < 1000000000) (hz : z < 1000000000) (W : World) :
    Calls Tryz.prog 9 #[.string s, .string (text3 x y z)] W fun e w' => e = .returned (.tuple #[.bool (askC x y z c), .bool true]) ∧ Below W.heap.size W w' := by
  have := compare_group s [([], c)] ⟨([], c), [], rfl, hc, hm, .inl rfl, fun q hq => by simp at hq⟩ (fun q hq => by rw [List.mem_singleton.1 hq]; exact hd) hs (by rw [h]; simp [gtext]) x y z hx hy hz W
  simp only [List.all_cons, List.all_nil, Bool.and_true] at this
  exact this

/-! ### what stands for what -/
theorem bool_of {p q : Bool} (h : p = true ↔ q = true) : (p == q) = true := by
  cases p <;> cases q <;> simp_all
theorem short2 (x y z a m : Nat) : (askC x y z (cn2 [] a m) == withB x y z a m 0 a (m + 1) 0) = true := by
  rw [ask2]
  refine bool_of ?_
  unfold askB withB tildeB
  rw [if_pos (.inl rfl)]
  rcases ord3_cases x y z a m 0 with ⟨h1, h2⟩ | ⟨h1, h2⟩ | ⟨h1, h2⟩ <;> rcases ord3_cases x y z a (m + 1) 0 with ⟨k1, k2⟩ | ⟨k1, k2⟩ | ⟨k1, k2⟩ <;> rw [h2, k2] <;> (try unfold Lex at *) <;> simp <;> omega
theorem short1 (x y z a : Nat) : (askC x y z (cn1 [] a) == withB x y z a 0 0 (a + 1) 0 0) = true := by
  rw [ask1]
  refine bool_of ?_
  unfold askB withB tildeB
  rw [if_pos (.inl rfl)]
  rcases ord3_cases x y z a 0 0 with ⟨h1, h2⟩ | ⟨h1, h2⟩ | ⟨h1, h2⟩ <;> rcases ord3_cases x y z (a + 1) 0 0 with ⟨k1, k2⟩ | ⟨k1, k2⟩ | ⟨k1, k2⟩ <;> rw [h2, k2] <;> (try unfold Lex at *) <;> simp <;> omega
end Go.Proofs.YtoebognfkigooaaGreatDoor.Sv
namespace Go.Proofs.YtoebognfkigooaaGreatDoor.Sv
open Go.RowKit Go.Proofs.YtoebognfkigooaaGreatDoor.PFnSemverEither Go.Proofs.YtoebognfkigooaaGreatDoorW.PrintWords Go.Proofs.YtoebognfkigooaaGreatDoor.Txt Go.Proofs.YtoebognfkigooaaGreatDoor
set_option linter.unusedSimpArgs false
theorem u16_nat {a : Int} (h : (Lit.int .u16 a).wf = true) : ∃ n : Nat, a = (n : Int) ∧ n ≤ 65535 := by
  simp only [Lit.wf, IntKind.min, IntKind.max, IntKind.signed, IntKind.bits, Bool.and_eq_true, decide_eq_true_eq] at h
  simp at h
  exact ⟨a.toNat, by omega, by omega⟩
theorem tmod_nat (n : Nat) : Int.tmod (n : Int) 1000 = ((n % 1000 : Nat) : Int) := by
  rw [Int.tmod_eq_emod_of_nonneg (by omega)]; omega
theorem wrap64u (n : Nat) (h : n < 18446744073709551616) : IntKind.u64.wrap (n : Int) = (n : Int) := by
  simp only [IntKind.wrap, IntKind.signed, IntKind.bits]
  simp
  omega
end Go.Proofs.YtoebognfkigooaaGreatDoor.Sv
