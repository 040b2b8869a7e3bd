/- base64: the standard encoding in memory. -/
import Derived.Test.YtoaalpkeepjhmaaProg
import Derived.Test.YtoaalpkeepjhmaaTxt
import Derived.WalkKit
import Derived.WalkSpells
import Derived.LoopN
import Derived.BigCall
import Derived.OwnWalk
import Derived.Lib.BufferWrite
import Derived.Lib.Hide
import Derived.Lib.SlBuf
import Derived.Test.YtoaalpkeepjhmaaNear
import Derived.Test.YtoaalpkeepjhmaaNearT
import Derived.Laws.IdiomStrings
import Derived.Laws.Slices
namespace Go.Proofs.Ytoaalpkeepjhmaa.B6
open Go.RowKit Go.Proofs.YtoaalpkeepjhmaaW.PrintWords Go.Proofs.Ytoaalpkeepjhmaa.Txt
set_option linter.unusedVariables false
set_option linter.unusedSimpArgs false
set_option maxRecDepth 100000
def alpha : ByteArray := ⟨#[65, 66, 67, 68, 69, 70, 71, 72, 73, 74, 75, 76, 77, 78, 79, 80, 81, 82, 83, 84, 85, 86, 87, 88, 89, 90, 97, 98, 99, 100, 101, 102, 103, 104, 105, 106, 107, 108, 109, 110, 111, 112, 113, 114, 115, 116, 117, 118, 119, 120, 121, 122, 48, 49, 50, 51, 52, 53, 54, 55, 56, 57, 43, 47]⟩
theorem alpha_size : alpha.size = 64 := rfl
/-- The sign of a number below 64. -/
def sgn (i : Nat) : Nat := (alpha.data.toList.getD i 0).toNat
/-- What each sign stands for, so far. -/
def mAt : Nat → List Nat
  | 0 => List.replicate 256 255
  | i + 1 => (mAt i).set (sgn i) i
theorem mAt_len : ∀ i, (mAt i).length = 256
  | 0 => List.length_replicate
  | i + 1 => by rw [mAt, List.length_set, mAt_len i]
theorem sgn_ok : ∀ i : Fin 64, sgn i.val < 128 ∧ sgn i.val ≠ 10 ∧ sgn i.val ≠ 13 ∧ (mAt i.val)[sgn i.val]? = some 255 := by decide +kernel
/-- The fields of an encoding. -/
def cellsOf (m : List Nat) : List Value := (alpha.data.toList.map fun b => Value.int .u8 (b.toNat : Int)) ++ (m.map fun (k : Nat) => Value.int .u8 (k : Int)) ++ [.int .i32 61, .bool false]
theorem alpha_cells_len : (alpha.data.toList.map fun b => Value.int .u8 (b.toNat : Int)).length = 64 := rfl
theorem cellsOf_map (m : List Nat) (c k : Nat) (h : m[c]? = some k) : (cellsOf m)[64 + c]? = some (.int .u8 (k : Int)) := by
  unfold cellsOf
  have hc : c < m.length := (List.getElem?_eq_some_iff.1 h).1
  rw [List.append_assoc, List.getElem?_append_right (by rw [alpha_cells_len]; omega), alpha_cells_len, show 64 + c - 64 = c by omega, List.getElem?_append_left (by simpa using hc), List.getElem?_map, h]
  rfl
theorem cellsOf_set (m : List Nat) (c k : Nat) (hc : c < m.length) : (cellsOf m).set (64 + c) (.int .u8 (k : Int)) = cellsOf (m.set c k) := by
  unfold cellsOf
  rw [List.append_assoc, List.append_assoc, List.set_append_right _ _ (by rw [alpha_cells_len]; omega), alpha_cells_len, show 64 + c - 64 = c by omega, List.set_append_left _ _ (by simpa using hc), List.map_set]
/-- An encoding in memory. -/
def EncOf (w : World) (b : Nat) (m : List Nat) : Prop := w.heap[b]? = some (.cells (cellsOf m).toArray 56 (0, 0))
theorem EncOf.cell {w : World} {b : Nat} {m : List Nat} (h : EncOf w b m) (j : Nat) : w.cell? ⟨b, j, none⟩ = (cellsOf m)[j]? := by
  unfold EncOf at h
  simp [World.cell?, h]
theorem EncOf.free {w : World} {b : Nat} {m : List Nat} (h : EncOf w b m) (j : Nat) : w.frozen? ⟨b, j, none⟩ = false := by
  unfold EncOf at h
  simp [World.frozen?, h]
theorem EncOf.below {w w' : World} {b B : Nat} {m : List Nat} (h : EncOf w b m) (hb : Below B w w') (hB : b < B) : EncOf w' b m := (hb.block _ hB).trans h
/-- What stands for no sign. -/
def inv : ByteArray := ⟨(List.replicate 256 255).toArray⟩
def encZero : Array Value := Array.replicate 320 (.int .u8 0) ++ #[.int .i32 0, .bool false]
set_option maxHeartbeats 4000000 in
theorem new_walk (w : World) : Calls Try.prog 30 #[.string alpha] w fun e w' => ∃ b, e = .returned (.pointer (some ⟨b, 0, none⟩)) ∧ w.heap.size ≤ b ∧ EncOf w' b (mAt 64) ∧ Below w.heap.size w w' := by
  have hz : ∀ W, (zeroValue 56).run Try.prog W = .ok (.agg encZero) W := fun W => by kernel_rfl
  have ha := alpha_size
  have ha1 : Try.prog.arrayLen 53 = 64 := by kernel_rfl
  have ha2 : Try.prog.arrayLen 54 = 256 := by kernel_rfl
  have k0 : (w.alloc (.cells encZero 56)).cell? ⟨w.heap.size, 320, none⟩ = some (.int .i32 0) := by
    rw [World.cell?_alloc_new]; rfl
  have k1 : (w.alloc (.cells encZero 56)).frozen? ⟨w.heap.size, 320, none⟩ = false := World.frozen?_alloc_new _ _ _ _
  go_enter Try.func30, Try.ntmps30
  go_upto_region 5 with fail
  obtain ⟨w1, hw1⟩ : ∃ w1, w1 = w.alloc (.cells (encZero.setIfInBounds 320 (.int .i32 61)) 56) := ⟨_, rfl⟩
  obtain ⟨eb, heb⟩ : ∃ eb, eb = w.heap.size := ⟨_, rfl⟩
  have h1 : w1.heap[eb]? = some (.cells (encZero.setIfInBounds 320 (.int .i32 61)) 56 (0, 0)) := by rw [hw1, heb]; exact heap_alloc_new w _
  have hb1 : Below w.heap.size w w1 := by rw [hw1]; exact (Below.refl _ _).alloc (Nat.le_refl _) _
  rw [← hw1, ← heb]
  have HW := Lib.hid (And.intro hw1 heb)
  have HB1 := Lib.hid hb1
  clear k0 k1 hz hw1 heb hb1
  have hc1 := Lib.run_copy_row_string (P := Try.prog) w1 36 9 3 5 eb 0 64 64 alpha _ _ Try.underlying36 (by kernel_rfl) h1 (by decide) (by decide)
  obtain ⟨X1, hX1⟩ : ∃ X : List Value, X = (alpha.data.toList.map fun b => Value.int .u8 (b.toNat : Int)) ++ List.replicate 256 (.int .u8 0) ++ [.int .i32 61, .bool false] := ⟨_, rfl⟩
  have hcur : ((encZero.setIfInBounds 320 (Value.int .i32 61)).toList.take 0 ++ Lib.byteCells alpha.data.toList ++ (encZero.setIfInBounds 320 (Value.int .i32 61)).toList.drop (0 + alpha.size)) = X1 := by rw [hX1]; rfl
  rw [hcur] at hc1
  obtain ⟨w2, hw2⟩ : ∃ w2, w2 = w1.setRow eb X1.toArray := ⟨_, rfl⟩
  have h2 : w2.heap[eb]? = some (.cells X1.toArray 56 (0, 0)) := by rw [hw2]; exact setRow_heap w1 eb _ _ _ _ h1
  rw [← hw2] at hc1
  have HW2 := Lib.hid (And.intro hw2 hX1)
  clear hcur hw2
  obtain ⟨w3, hw3⟩ : ∃ w3, w3 = w2.setRow eb (cellsOf (mAt 0)).toArray := ⟨_, rfl⟩
  have hc2 : ∀ s : ByteArray, s = inv → (Builtin.copy_ #[36, 9] 3 #[.slice (some ⟨eb, 64, none⟩) 256 256, .string s]).run Try.prog w2 = .ok (goInt 256) w3 := by
    intro s hs
    subst hs
    have h := Lib.run_copy_row_string (P := Try.prog) w2 36 9 3 5 eb 64 256 256 inv _ _ Try.underlying36 (by kernel_rfl) h2 (by decide) (by rw [hX1]; decide)
    rw [hw3, h, hX1]; rfl
  have h3 : EncOf w3 eb (mAt 0) := by unfold EncOf; rw [hw3]; exact setRow_heap w2 eb _ _ _ _ h2
  have hb3 : Below w.heap.size w w3 := by
    have e := HW.out.2
    rw [hw3, HW2.out.1]
    have hb := HB1.out
    refine ⟨hb.os, hb.tape, hb.output, by simp [World.setRow]; exact hb.size, fun k hk => ?_⟩
    rw [setRow_other _ _ _ _ (by omega), setRow_other _ _ _ _ (by omega)]
    exact hb.block k hk
  have H3 := Lib.hid h3
  have HB3 := Lib.hid hb3
  clear h1 h2 h3 hb3 hX1 hw3 ha1 ha2
  go_wp2_with fail
  rw [hc2 _ (by rfl)]
  simp only [Result.andThen]
  rw [Oper.upon_value]
  go_wp2_with fail
  clear hc1 hc2 HW2 HB1
  go_loopg [4] 64 (fun kq v4 wr => ∃ i : Nat, v4 = .int .i64 (i : Int) ∧ i + kq = 64 ∧ Hid (EncOf wr eb (mAt i)) ∧ Hid (Below w.heap.size w wr))
  case atStart => exact ⟨0, rfl, by omega, H3, HB3⟩
  case round =>
    obtain ⟨i, rfl, hi, HE, HB⟩ := hrel
    cases gk with
    | zero =>
      have hi' : i = 64 := by omega
      subst hi'
      go_wp2_with fail
      go_ret
      exact ⟨eb, rfl, by rw [HW.out.2]; exact Nat.le_refl _, HE.out, HB.out⟩
    | succ m =>
      have hi64 : i < 64 := by omega
      obtain ⟨h1, h2, h3, h4⟩ := sgn_ok ⟨i, hi64⟩
      simp only at h1 h2 h3 h4
      obtain ⟨c, hc⟩ : ∃ c, c = sgn i := ⟨_, rfl⟩
      have hs : ∀ h, (alpha[i]'h).toNat = c := fun h => by
        rw [hc]; unfold sgn
        rw [List.getD_eq_getElem?_getD, List.getElem?_eq_getElem (by exact h)]; rfl
      rw [← hc] at h1 h2 h3 h4
      have HC := Lib.hid hc
      have h1' : (c : Int) < 256 := by omega
      have h1'' : c < 256 := by omega
      have z1 : (c == 10) = false := by simp <;> omega
      have z2 : (c == 13) = false := by simp <;> omega
      have z3 : ((c : Int) == 10) = false := by simp <;> omega
      have z4 : ((c : Int) == 13) = false := by simp <;> omega
      have y1 : (i : Int) < 64 := by omega
      have HI := Lib.hid hi
      have HM := Lib.hid h4
      have hE := HE.out
      have hlt : eb < wr.heap.size := (Array.getElem?_eq_some_iff.1 hE).1
      have k1 : ∀ q : Vals.Near wr.heap.size wr, q.W.cell? ⟨eb, 64 + c, none⟩ = some (.int .u8 255) := fun q => q.cell hlt (by rw [hE.cell]; exact cellsOf_map _ _ _ h4)
      have hw8 : IntKind.u8.wrap (i : Int) = (i : Int) := by show (i : Int) % (2 ^ 8 : Int) = i; omega
      clear hc hi h1 h2 h3 h4 hE
      go_upto_region 12 with fail
      refine Vals.wp_region_near wr.heap.size wr (by kernel_rfl) (by kernel_rfl) (Below.refl _ _) ?_
      repeat (go_big_quiet_step (fail))
      refine wpQuiet_nil ?_
      intro wm hw'
      obtain ⟨q_, hx_⟩ := hw'
      have hb_ : Below wr.heap.size wr wm := by rw [hx_]; exact q_.h
      have HBm := Lib.hid (HB.out.trans (hb_.mono HB.out.size))
      have HEm := Lib.hid (HE.out.below hb_ hlt)
      clear hx_ k1 hb_
      go_upto_region 14 with fail
      refine Split.wp_region_neartail 8 (fun W => ∃ x : Vals.Near wm.heap.size wm, W = x.W) (by kernel_rfl) (by kernel_rfl) (by kernel_rfl) ⟨⟨wm.drew, ⟨rfl, rfl, rfl, Nat.le_refl _, fun _ _ => rfl⟩⟩, rfl⟩ ?_
      simp only [List.take_succ_cons, List.take_zero, List.drop_succ_cons, List.drop_zero]
      repeat (go_big_quiet_step (fail))
      refine wpQuiet_nil ?_
      intro wa hw'
      obtain ⟨⟨wa', hwa⟩, rfl⟩ := hw'
      have HBa := Lib.hid (HBm.out.trans (hwa.mono HBm.out.size))
      have hEa := HEm.out.below hwa (by have := HEm.out; exact (Array.getElem?_eq_some_iff.1 this).1)
      have f1 : wa.cell? ⟨eb, 64 + c, none⟩ = some (.int .u8 255) := by rw [hEa.cell]; exact cellsOf_map _ _ _ HM.out
      have f2 : wa.frozen? ⟨eb, 64 + c, none⟩ = false := hEa.free _
      have hset : EncOf (wa.setCell ⟨eb, 64 + c, none⟩ (.int .u8 (i : Int))) eb (mAt (i + 1)) := by
        unfold EncOf at hEa ⊢
        have e := cellsOf_set (mAt i) c i (by rw [mAt_len]; omega)
        rw [mAt, ← HC.out, ← e]
        simp [World.setCell, Array.getElem?_modify, hEa, List.setIfInBounds_toArray]
      have HS := Lib.hid hset
      clear hset hEa hwa
      go_wp2_with fail
      go_roundg m
      case measure => exact Nat.lt_succ_self m
      case rel => exact ⟨i + 1, by simp, by have := HI.out; omega, HS, Lib.hid (HBa.out.setCell (p := ⟨eb, 64 + c, none⟩) (by rw [HW.out.2]; exact Nat.le_refl _) _)⟩
end Go.Proofs.Ytoaalpkeepjhmaa.B6
