/- strconv.FormatUint at base 10, over the shelf's numDigits, formatBase10 and small. -/
import Derived.Test.YtmoilbhkjmhoaaaDoorPow
import Derived.Lib.ItoaMem
import Derived.Laws.IdiomStrings
import Derived.Laws.Slices
import Derived.Sort.Row
namespace Go.Proofs.YtmoilbhkjmhoaaaDoor.Giv
open Go.RowKit Go.Sort Go.Proofs.YtmoilbhkjmhoaaaDoorW.PrintWords Go.Proofs.YtmoilbhkjmhoaaaDoor.Txt
set_option linter.unusedVariables false
set_option maxRecDepth 100000

abbrev u8v (b : UInt8) : Value := Value.int .u8 (b.toNat : Int)
theorem zeros_at0 (w : World) (T : TypeId) (nd : Nat) (hs : nd ≤ 24) : Holds (fun (b : UInt8) => Value.int .u8 (b.toNat : Int)) (w.alloc (.cells Lib.zeros24 T)) w.heap.size 0 (Array.replicate nd (0 : UInt8)) := fun j hj => by
  have hj' : j < nd := by simpa using hj
  refine ⟨?_, World.frozen?_alloc_new _ _ _ _⟩
  rw [World.cell?_alloc_new, Lib.zeros24_at _ (by omega), getElem!_pos _ j hj]
  simp
set_option maxHeartbeats 2000000 in
theorem fmtUint_in (u : Nat) (hu64 : u < 18446744073709551616) (w : World) (T : Pow10 w) :
    Calls Tryd.prog 47 #[.int .u64 (u : Int), .int .i64 10] w fun e w' => e = .returned (.string (itoaB (u : Int))) ∧ Below w.heap.size w w' := by
  have hit : itoaB (u : Int) = ⟨(Lib.decDigits u).toArray⟩ := by unfold itoaB; rw [Lib.itoa_nonneg]
  rw [hit]
  by_cases hs : u < 100
  · have hlt : (u : Int) < 100 := by omega
    have HS := Lib.hid (fun W => Tryd.internal_strconv_small u hs W)
    clear hit T
    go_enter Tryd.func47, Tryd.ntmps47
    go_wp2_with fail
    refine (HS.out _).mono ?_
    rintro e w' ⟨rfl, rfl⟩
    go_wp2_with fail
    go_ret
    exact ⟨rfl, Below.refl _ _⟩
  · have hu1 : 1 ≤ u := by omega
    have hnlt : ¬ (u : Int) < 100 := by omega
    have hnd20 : Lib.nDigits u ≤ 20 := by have := Lib.numDigits_eq u hu1 hu64; split at this <;> omega
    have hal : Tryd.prog.arrayLen 93 = 24 := by kernel_rfl
    have hsl : ∀ W, (Instr.sliceAt 93 (.pointer (some ⟨w.heap.size, 0, none⟩)) none (some (.int .i64 (Lib.nDigits u : Int))) none).run Tryd.prog W = .ok (.slice (some ⟨w.heap.size, 0, none⟩) (Lib.nDigits u) 24) W := fun W => by
      rw [run_sliceAt_array_h W 93 ⟨w.heap.size, 0, none⟩ Tryd.underlying93 .i64 (Lib.nDigits u : Int) (by omega) (by rw [hal]; omega)]
      go_simp
    have hH0 := zeros_at0 w 93 (Lib.nDigits u) (by omega)
    have hfmt := Tryd.internal_strconv_formatBase10 w.heap.size 0 24 u (Array.replicate (Lib.nDigits u) 0) (w.alloc (.cells Lib.zeros24 93)) hH0 (by rw [Array.size_replicate]; exact Lib.lt_pow_nDigits u) hu64 (by rw [Array.size_replicate]; omega)
    rw [Array.size_replicate] at hfmt
    have HND := Lib.hid (fun o => Tryd.internal_strconv_numDigits u hu1 hu64 (w.alloc o) (Lib.tabIs_alloc T o))
    have HH0 := Lib.hid hH0
    have HFM := Lib.hid hfmt
    clear hH0 hal hit T hfmt
    go_enter Tryd.func47, Tryd.ntmps47
    go_wp2_with fail
    refine (HND.out _).mono ?_
    rintro e w' ⟨rfl, rfl⟩
    go_wp2_with fail
    refine (HFM.out).mono ?_
    rintro e w' ⟨rfl, k, v', dk, rfl, hF⟩
    have hcv := run_convert_bytes_back (P := Tryd.prog) ((putRow (fun (b : UInt8) => Value.int .u8 (b.toNat : Int)) (w.alloc (.cells Lib.zeros24 93)) w.heap.size 0 dk).drewN k) 66 9 5 ⟨w.heap.size, 0, none⟩ 24 (Lib.decDigits u) Tryd.underlying66 Tryd.underlying5 Tryd.underlying9 (fun j hj => by
      rw [Lib.row_is_numeral hF j hj, Lib.add_plain, World.cell?_drewN]
      exact cell?_putRow (fun (b : UInt8) => Value.int .u8 (b.toNat : Int)) _ w.heap.size 0 _ dk HH0.out (by rw [hF.size, Array.size_replicate]) j (by rw [hF.size]; rw [Lib.decDigits_length] at hj; exact hj))
    rw [Lib.decDigits_length] at hcv
    have hbl : Below w.heap.size w ((putRow (fun (b : UInt8) => Value.int .u8 (b.toNat : Int)) (w.alloc (.cells Lib.zeros24 93)) w.heap.size 0 dk).drewN k) := by
      rw [alloc_eq_grow]
      obtain ⟨os', _, e⟩ := putRow_grow_new (fun (b : UInt8) => Value.int .u8 (b.toNat : Int)) w #[.cells Lib.zeros24 93] w.heap.size 0 dk (Nat.le_refl _)
      rw [e]
      exact Lib.below_grow w.heap.size w (Nat.le_refl _) k os'
    obtain ⟨W, hW⟩ : ∃ W, W = (putRow (fun (b : UInt8) => Value.int .u8 (b.toNat : Int)) (w.alloc (.cells Lib.zeros24 93)) w.heap.size 0 dk).drewN k := ⟨_, rfl⟩
    rw [← hW] at hcv hbl ⊢
    have HB := Lib.hid hbl
    clear hF hbl hW
    go_wp2_with fail
    go_ret
    exact ⟨rfl, HB.out⟩
theorem fmtUint_walk (u : Nat) (hu64 : u < 18446744073709551616) (w : World) (T : Pow10 w) :
    Calls Tryd.prog 31 #[.int .u64 (u : Int), .int .i64 10] w fun e w' => e = .returned (.string (itoaB (u : Int))) ∧ Below w.heap.size w w' := by
  have HC := Lib.hid (fmtUint_in u hu64 w T)
  clear T
  go_enter Tryd.func31, Tryd.ntmps31
  go_wp2_with fail
  refine HC.out.mono ?_
  rintro e w1 ⟨rfl, hb⟩
  have HB := Lib.hid hb
  clear hb
  go_wp2_with fail
  go_ret
  exact ⟨rfl, HB.out⟩
end Go.Proofs.YtmoilbhkjmhoaaaDoor.Giv
