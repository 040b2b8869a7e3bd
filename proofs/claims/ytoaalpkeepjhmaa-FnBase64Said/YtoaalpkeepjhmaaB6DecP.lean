/- base64: Decode over the text of bytes. -/
import Derived.Test.YtoaalpkeepjhmaaB6Put
namespace Go.Proofs.Ytoaalpkeepjhmaa.B6
open Go.RowKit Go.Proofs.YtoaalpkeepjhmaaW.PrintWords Go.Proofs.Ytoaalpkeepjhmaa.Txt Go.Proofs.Ytoaalpkeepjhmaa.PFnBase64
set_option linter.unusedVariables false
set_option linter.unusedSimpArgs false
set_option maxRecDepth 100000
/-! ### plain -/
theorem rest_at : ∀ (i : Nat) (L : List Nat), 3 * i ≤ L.length → (enc64 L).drop (4 * i) = enc64 (L.drop (3 * i))
  | 0, L, _ => rfl
  | i + 1, L, h => by
    match L, h with
    | b0 :: b1 :: b2 :: t, h =>
      have ih := rest_at i t (by simp at h; omega)
      rw [show 3 * (i + 1) = 3 * i + 1 + 1 + 1 by omega, show 4 * (i + 1) = 4 * i + 1 + 1 + 1 + 1 by omega, enc64]
      unfold grp
      exact ih
    | [], h | [_], h | [_, _], h => exact absurd h (by simp <;> omega)
theorem drop3 (L : List Nat) (i : Nat) (h : 3 * i + 3 ≤ L.length) : ∃ b0 b1 b2 t, L.drop (3 * i) = b0 :: b1 :: b2 :: t := by
  have hl : (L.drop (3 * i)).length = L.length - 3 * i := List.length_drop
  match hm : L.drop (3 * i) with
  | b0 :: b1 :: b2 :: t => exact ⟨b0, b1, b2, t, rfl⟩
  | [] | [_] | [_, _] => rw [hm] at hl; simp at hl; omega
theorem at_drop {L : List Nat} {n j x : Nat} {l : List Nat} (h : L.drop n = l) (hx : l[j]? = some x) : L[n + j]? = some x := by
  rw [← h, List.getElem?_drop] at hx; exact hx
theorem take_drop {L l : List Nat} {n k : Nat} (h : L.drop n = l) : L.take (n + k) = L.take n ++ l.take k := by
  rw [List.take_add, h]
structure Letters (L : List Nat) (i : Nat) (b0 b1 b2 d0 d1 d2 d3 : Nat) : Prop where
  hb0 : b0 < 256
  hb1 : b1 < 256
  hb2 : b2 < 256
  h0 : d0 < 64
  h1 : d1 < 64
  h2 : d2 < 64
  h3 : d3 < 64
  val : ((d0 * 64 + d1) * 64 + d2) * 64 + d3 = b0 * 65536 + (b1 * 256 + b2)
  c0 : (enc64 L)[4 * i + 0]? = some (sgn d0)
  c1 : (enc64 L)[4 * i + 1]? = some (sgn d1)
  c2 : (enc64 L)[4 * i + 2]? = some (sgn d2)
  c3 : (enc64 L)[4 * i + 3]? = some (sgn d3)
  tk : L.take (3 * i + 3) = L.take (3 * i) ++ [b0, b1, b2]
theorem letters_at (L : List Nat) (hb : ∀ x ∈ L, x < 256) (i : Nat) (h : 3 * i + 3 ≤ L.length) : ∃ b0 b1 b2 d0 d1 d2 d3, Letters L i b0 b1 b2 d0 d1 d2 d3 := by
  obtain ⟨b0, b1, b2, t, hd⟩ := drop3 L i h
  have q0 : b0 < 256 := hb _ (List.mem_of_getElem? (at_drop hd (j := 0) rfl))
  have q1 : b1 < 256 := hb _ (List.mem_of_getElem? (at_drop hd (j := 1) rfl))
  have q2 : b2 < 256 := hb _ (List.mem_of_getElem? (at_drop hd (j := 2) rfl))
  have he := rest_at i L (by omega)
  rw [hd, enc64] at he
  unfold grp at he
  exact ⟨b0, b1, b2, _, _, _, _, q0, q1, q2, by omega, by omega, by omega, by omega, by omega, at_drop he rfl, at_drop he rfl, at_drop he rfl, at_drop he rfl, take_drop hd⟩
theorem bytes64 (b0 b1 b2 b3 b4 b5 v : Nat) (h0 : b0 < 256) (h1 : b1 < 256) (h2 : b2 < 256) (h3 : b3 < 256) (h4 : b4 < 256) (h5 : b5 < 256) (hv : v = ((b0 * 65536 + (b1 * 256 + b2)) * 16777216 + (b3 * 65536 + (b4 * 256 + b5))) * 65536) :
    v < 18446744073709551616 ∧ v / 72057594037927936 % 256 = b0 ∧ v / 281474976710656 % 256 = b1 ∧ v / 1099511627776 % 256 = b2 ∧ v / 4294967296 % 256 = b3 ∧ v / 16777216 % 256 = b4 ∧ v / 65536 % 256 = b5 ∧ v / 256 % 256 = 0 ∧ v % 256 = 0 := by
  subst hv
  refine ⟨?_, ?_, ?_, ?_, ?_, ?_, ?_, ?_, ?_⟩ <;> omega
theorem bytes32 (b0 b1 b2 v : Nat) (h0 : b0 < 256) (h1 : b1 < 256) (h2 : b2 < 256) (hv : v = (b0 * 65536 + (b1 * 256 + b2)) * 256) :
    v < 4294967296 ∧ v / 16777216 % 256 = b0 ∧ v / 65536 % 256 = b1 ∧ v / 256 % 256 = b2 ∧ v % 256 = 0 := by
  subst hv
  refine ⟨?_, ?_, ?_, ?_, ?_⟩ <;> omega
theorem num8_of (d0 d1 d2 d3 d4 d5 d6 d7 x y : Nat) (hx : ((d0 * 64 + d1) * 64 + d2) * 64 + d3 = x) (hy : ((d4 * 64 + d5) * 64 + d6) * 64 + d7 = y) : num8 d0 d1 d2 d3 d4 d5 d6 d7 = x * 16777216 + y := by
  unfold num8; omega
theorem quad (d0 d1 d2 d3 b0 b1 b2 : Nat) (h0 : b0 < 256) (h1 : b1 < 256) (h2 : b2 < 256) (hv : ((d0 * 64 + d1) * 64 + d2) * 64 + d3 = b0 * 65536 + (b1 * 256 + b2)) :
    (d0 * 262144 + d1 * 4096 + d2 * 64 + d3) / 65536 = b0 ∧ (d0 * 262144 + d1 * 4096 + d2 * 64 + d3) / 256 % 256 = b1 ∧ (d0 * 262144 + d1 * 4096 + d2 * 64 + d3) % 256 = b2 := by
  rw [show d0 * 262144 + d1 * 4096 + d2 * 64 + d3 = b0 * 65536 + (b1 * 256 + b2) by omega]
  refine ⟨?_, ?_, ?_⟩ <;> omega
theorem cell_heap {w w' : World} {p : Addr} (h : w'.heap[p.block]? = w.heap[p.block]?) : w'.cell? p = w.cell? p := by
  simp [World.cell?, h]
theorem nearD {fn : FuncId} {args : Array Value} {v : Value} (w : World) (H : ∀ W, Calls Try.prog fn args W fun e w' => e = .returned v ∧ Drawn0 W w') : ∀ q : Vals.Near w.heap.size w, Calls Try.prog fn args q.W fun e w' => e = .returned v ∧ ∃ y : Vals.Near w.heap.size w, w' = y.W := fun q => by
  refine (H q.W).mono ?_
  rintro e w' ⟨rfl, hd⟩
  exact ⟨rfl, q.of hd.below (Nat.le_refl _)⟩
/-- The text's signs in block sb. -/
def Src (w : World) (sb : Nat) (T : List Nat) : Prop := ∀ j k : Nat, T[j]? = some k → w.cell? ⟨sb, j, none⟩ = some (.int .u8 (k : Int))
theorem Src.heap {w w' : World} {sb : Nat} {T : List Nat} (h : Src w sb T) (hh : w'.heap[sb]? = w.heap[sb]?) : Src w' sb T := fun j k hj => (cell_heap (p := ⟨sb, j, none⟩) hh).trans (h j k hj)
theorem rep_8 {g i : Nat} (h : i + 3 ≤ g) : List.replicate (g * 3 - 3 * i) 0 = 0 :: 0 :: 0 :: 0 :: 0 :: 0 :: 0 :: 0 :: List.replicate (g * 3 - 3 * i - 8) 0 := by
  rw [show g * 3 - 3 * i = (g * 3 - 3 * i - 8) + 1 + 1 + 1 + 1 + 1 + 1 + 1 + 1 by omega]; simp [List.replicate_succ]
theorem rep_4 {g i : Nat} (h : i + 2 ≤ g) : List.replicate (g * 3 - 3 * i) 0 = 0 :: 0 :: 0 :: 0 :: List.replicate (g * 3 - 3 * i - 4) 0 := by
  rw [show g * 3 - 3 * i = (g * 3 - 3 * i - 4) + 1 + 1 + 1 + 1 by omega]; simp [List.replicate_succ]
theorem rep_0 {k n : Nat} (h : n + 2 = k) : (0 : Nat) :: 0 :: List.replicate n 0 = List.replicate k 0 := by
  rw [← h]; rfl
theorem rep_1 {k n : Nat} (h : n + 1 = k) : (0 : Nat) :: List.replicate n 0 = List.replicate k 0 := by
  rw [← h]; rfl
theorem digs (y : Nat) (h : y < 16777216) : y / 262144 % 64 * 262144 + y / 4096 % 64 * 4096 + y / 64 % 64 * 64 + y % 64 = y := by omega
theorem pad2 (b0 b1 : Nat) (h0 : b0 < 256) (h1 : b1 < 256) : (b0 * 65536 + b1 * 256) / 262144 % 64 * 262144 + (b0 * 65536 + b1 * 256) / 4096 % 64 * 4096 + (b0 * 65536 + b1 * 256) / 64 % 64 * 64 + 0 = b0 * 65536 + b1 * 256 := by
  have h := digs (b0 * 65536 + b1 * 256) (by omega)
  have z : (b0 * 65536 + b1 * 256) % 64 = 0 := by omega
  rw [z] at h
  exact h
theorem len1 {l : List Nat} (h : l.length = 1) : ∃ a, l = [a] := by
  match l, h with
  | [a], _ => exact ⟨a, rfl⟩
theorem len2 {l : List Nat} (h : l.length = 2) : ∃ a b, l = [a, b] := by
  match l, h with
  | [a, b], _ => exact ⟨a, b, rfl⟩
theorem quantum_last (eb sb db g i n si D S cp : Nat) (L : List Nat) (hL : L.length ≤ 1000) (hb : ∀ x ∈ L, x < 256) (hg : g = (L.length + 2) / 3) (hi : i + 1 = g) (hn : n = 3 * i) (hsi : si = 4 * i) (hD3 : D = g * 3) (hS4 : S = g * 4) (hcp : S ≤ cp) (w : World) (hE : EncOf w eb (mAt 64)) (hD : RowU w db (L.take (3 * i) ++ List.replicate (g * 3 - 3 * i) 0)) (he : eb < db) (hsw : sb < w.heap.size) (hS : Src w sb (enc64 L)) :
    Calls Try.prog 41 #[.pointer (some ⟨eb, 0, none⟩), .slice (some ⟨db, n, none⟩) (D - n) (D - n), .slice (some ⟨sb, 0, none⟩) S cp, .int .i64 (si : Int)] w fun e w' => ∃ k : Nat, e = .returned (.tuple #[.int .i64 ((si : Int) + 4), .int .i64 (k : Int), .nilIface]) ∧ n + k = L.length ∧ (∃ Z, RowU w' db (L ++ Z) ∧ L.length + Z.length = g * 3) ∧ Below db w w' := by
  have hDn : D - n = 3 := by omega
  have hSs : S = si + 4 := by omega
  have hP : (L.take (3 * i)).length = n := by rw [List.length_take]; omega
  rw [hDn, hSs]
  rw [show g * 3 - 3 * i = 3 by omega] at hD
  have hl : (L.drop (3 * i)).length = L.length - 3 * i := List.length_drop
  have hsc : ∀ j k : Nat, (enc64 L)[4 * i + j]? = some k → w.cell? ⟨sb, si + j, none⟩ = some (.int .u8 (k : Int)) := fun j k h => by rw [hsi]; exact hS _ _ h
  have hre := rest_at i L (by omega)
  have hall := take_drop (L := L) (n := 3 * i) (k := L.length - 3 * i) rfl
  rw [show 3 * i + (L.length - 3 * i) = L.length by omega, List.take_length, List.take_of_length_le (l := L.drop (3 * i)) (by omega)] at hall
  rcases (by omega : L.length - 3 * i = 3 ∨ L.length - 3 * i = 2 ∨ L.length - 3 * i = 1) with hr | hr | hr
  · obtain ⟨b0, b1, b2, d0, d1, d2, d3, H⟩ := letters_at L hb i (by omega)
    refine (quantum4 eb sb db si n cp (L.take (3 * i)) d0 d1 d2 d3 H.h0 H.h1 H.h2 H.h3 (by omega) hP w hE hD hsw (by omega) he (hsc 0 _ H.c0) (hsc 1 _ H.c1) (hsc 2 _ H.c2) (hsc 3 _ H.c3)).mono ?_
    rintro e w' ⟨rfl, hrw, hbl⟩
    obtain ⟨v0, v1, v2⟩ := quad _ _ _ _ _ _ _ H.hb0 H.hb1 H.hb2 H.val
    have htk := H.tk
    rw [show 3 * i + 3 = L.length by omega, List.take_length] at htk
    rw [v0, v1, v2, ← htk] at hrw
    exact ⟨3, rfl, by omega, ⟨[], by rw [List.append_nil]; exact hrw, by simp; omega⟩, hbl⟩
  · obtain ⟨b0, b1, hd⟩ := len2 (hl.trans hr)
    have q0 : b0 < 256 := hb _ (List.mem_of_getElem? (at_drop hd (j := 0) rfl))
    have q1 : b1 < 256 := hb _ (List.mem_of_getElem? (at_drop hd (j := 1) rfl))
    rw [hd, enc64] at hre
    rw [hd] at hall
    refine (quantum3 eb sb db si n cp (L.take (3 * i)) _ _ _ (by omega) (by omega) (by omega) (by omega) hP w hE hD hsw (by omega) he (hsc 0 _ (at_drop hre rfl)) (hsc 1 _ (at_drop hre rfl)) (hsc 2 _ (at_drop hre rfl)) (hsc 3 _ (at_drop hre rfl))).mono ?_
    rintro e w' ⟨rfl, hrw, hbl⟩
    obtain ⟨x, hx⟩ : ∃ x, x = (b0 * 65536 + b1 * 256) / 262144 % 64 * 262144 + (b0 * 65536 + b1 * 256) / 4096 % 64 * 4096 + (b0 * 65536 + b1 * 256) / 64 % 64 * 64 + 0 := ⟨_, rfl⟩
    rw [← hx] at hrw
    have hx2 : x = b0 * 65536 + b1 * 256 := hx.trans (pad2 b0 b1 q0 q1)
    clear hx
    rw [show x / 65536 = b0 by omega, show x / 256 % 256 = b1 by omega] at hrw
    refine ⟨2, rfl, by omega, ⟨[0], ?_, by simp; omega⟩, hbl⟩
    rw [hall]
    simpa using hrw
  · obtain ⟨b0, hd⟩ := len1 (hl.trans hr)
    have q0 : b0 < 256 := hb _ (List.mem_of_getElem? (at_drop hd (j := 0) rfl))
    rw [hd, enc64] at hre
    rw [hd] at hall
    refine (quantum2 eb sb db si n cp (L.take (3 * i)) _ _ (by omega) (by omega) (by omega) hP w hE hD hsw (by omega) he (hsc 0 _ (at_drop hre rfl)) (hsc 1 _ (at_drop hre rfl)) (hsc 2 _ (at_drop hre rfl)) (hsc 3 _ (at_drop hre rfl))).mono ?_
    rintro e w' ⟨rfl, hrw, hbl⟩
    obtain ⟨x, hx⟩ : ∃ x, x = b0 * 65536 / 262144 % 64 * 262144 + b0 * 65536 / 4096 % 64 * 4096 + 0 * 64 + 0 := ⟨_, rfl⟩
    rw [← hx] at hrw
    rw [show x / 65536 = b0 by omega] at hrw
    refine ⟨1, rfl, by omega, ⟨[0, 0], ?_, by simp; omega⟩, hbl⟩
    rw [hall]
    simpa using hrw
end Go.Proofs.Ytoaalpkeepjhmaa.B6
