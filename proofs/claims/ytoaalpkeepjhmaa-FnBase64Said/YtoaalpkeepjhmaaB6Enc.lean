/- base64: Encode and EncodeToString. -/
import Derived.Test.YtoaalpkeepjhmaaB6New
import Derived.Deep.MidRow
namespace Go.Proofs.Ytoaalpkeepjhmaa.B6
open Go.RowKit Go.Proofs.YtoaalpkeepjhmaaW.PrintWords Go.Proofs.Ytoaalpkeepjhmaa.Txt
set_option linter.unusedVariables false
set_option linter.unusedSimpArgs false
set_option maxRecDepth 100000
/-! ### bits -/
theorem u64w (x : Nat) (h : x < 18446744073709551616) : IntKind.u64.wrap (x : Int) = (x : Int) := by
  show (x : Int) % (2 ^ 64 : Int) = x
  exact Int.emod_eq_of_lt (by omega) (by omega)
theorem or_u64 (a b : Nat) (ha : a < 18446744073709551616) (hb : b < 18446744073709551616) : bits BinOp.or IntKind.u64 (a : Int) (b : Int) = ((a ||| b : Nat) : Int) := by
  have h1 : (BitVec.ofInt 64 (a : Int)).toNat = a := by rw [BitVec.ofInt_natCast, BitVec.toNat_ofNat]; exact Nat.mod_eq_of_lt ha
  have h2 : (BitVec.ofInt 64 (b : Int)).toNat = b := by rw [BitVec.ofInt_natCast, BitVec.toNat_ofNat]; exact Nat.mod_eq_of_lt hb
  have e : (BitVec.ofInt 64 (a : Int) ||| BitVec.ofInt 64 (b : Int)).toNat = a ||| b := by rw [BitVec.toNat_or, h1, h2]
  show IntKind.u64.wrap ((BitVec.ofInt 64 (a : Int) ||| BitVec.ofInt 64 (b : Int)).toNat : Int) = _
  rw [e]
  exact u64w _ (Nat.or_lt_two_pow (n := 64) ha hb)
theorem and63 (a : Nat) (ha : a < 18446744073709551616) : bits BinOp.and IntKind.u64 (a : Int) 63 = ((a % 64 : Nat) : Int) := by
  have h1 : (BitVec.ofInt 64 (a : Int)).toNat = a := by rw [BitVec.ofInt_natCast, BitVec.toNat_ofNat]; exact Nat.mod_eq_of_lt ha
  have e : (BitVec.ofInt 64 (a : Int) &&& BitVec.ofInt 64 63).toNat = a % 64 := by
    rw [BitVec.toNat_and, h1, show (BitVec.ofInt 64 63).toNat = 2 ^ 6 - 1 by decide, Nat.and_two_pow_sub_one_eq_mod]
  show IntKind.u64.wrap ((BitVec.ofInt 64 (a : Int) &&& BitVec.ofInt 64 63).toNat : Int) = _
  rw [e]
  exact u64w _ (by omega)
theorem or_add (a b k : Nat) (h : b < 2 ^ k) : (a * 2 ^ k) ||| b = a * 2 ^ k + b := by
  rw [Nat.mul_comm, Nat.two_pow_add_eq_or_of_lt h]
theorem or3 (b0 b1 b2 : Nat) (h0 : b0 < 256) (h1 : b1 < 256) (h2 : b2 < 256) : bits BinOp.or IntKind.u64 (bits BinOp.or IntKind.u64 ((b0 : Int) * 65536) ((b1 : Int) * 256)) (b2 : Int) = ((b0 * 65536 + (b1 * 256 + b2) : Nat) : Int) := by
  rw [show (b0 : Int) * 65536 = ((b0 * 65536 : Nat) : Int) by simp, show (b1 : Int) * 256 = ((b1 * 256 : Nat) : Int) by simp, or_u64 _ _ (by omega) (by omega)]
  rw [show b0 * 65536 ||| b1 * 256 = b0 * 65536 + b1 * 256 from or_add b0 (b1 * 256) 16 (by omega), or_u64 _ _ (by omega) (by omega)]
  rw [show (b0 * 65536 + b1 * 256) ||| b2 = (b0 * 65536 + b1 * 256) + b2 by
    have := or_add (b0 * 256 + b1) b2 8 (by omega)
    rw [show (b0 * 256 + b1) * 2 ^ 8 = b0 * 65536 + b1 * 256 by omega] at this
    exact this]
  rw [Nat.add_assoc]
theorem or2 (b0 b1 : Nat) (h0 : b0 < 256) (h1 : b1 < 256) : bits BinOp.or IntKind.u64 ((b0 : Int) * 65536) ((b1 : Int) * 256) = ((b0 * 65536 + b1 * 256 : Nat) : Int) := by
  rw [show (b0 : Int) * 65536 = ((b0 * 65536 : Nat) : Int) by simp, show (b1 : Int) * 256 = ((b1 * 256 : Nat) : Int) by simp, or_u64 _ _ (by omega) (by omega)]
  rw [show b0 * 65536 ||| b1 * 256 = b0 * 65536 + b1 * 256 from or_add b0 (b1 * 256) 16 (by omega)]
/-! ### a row of bytes -/
def RowU (w : World) (b : Nat) (D : List Nat) : Prop := w.heap[b]? = some (.cells (D.map fun (k : Nat) => Value.int .u8 (k : Int)).toArray 5 (0, 0))
theorem RowU.cell {w : World} {b : Nat} {D : List Nat} (h : RowU w b D) (j k : Nat) (hj : D[j]? = some k) : w.cell? ⟨b, j, none⟩ = some (.int .u8 (k : Int)) := by
  unfold RowU at h
  simp [World.cell?, h, hj]
theorem RowU.free {w : World} {b : Nat} {D : List Nat} (h : RowU w b D) (j : Nat) : w.frozen? ⟨b, j, none⟩ = false := by
  unfold RowU at h
  simp [World.frozen?, h]
theorem RowU.below {w w' : World} {b B : Nat} {D : List Nat} (h : RowU w b D) (hb : Below B w w') (hB : b < B) : RowU w' b D := (hb.block _ hB).trans h
theorem RowU.lt {w : World} {b : Nat} {D : List Nat} (h : RowU w b D) : b < w.heap.size := (Array.getElem?_eq_some_iff.1 h).1
theorem RowU.store {w : World} {b : Nat} {D : List Nat} (h : RowU w b D) (j k : Nat) : RowU (w.setCell ⟨b, j, none⟩ (.int .u8 (k : Int))) b (D.set j k) := by
  unfold RowU at h ⊢
  simp [World.setCell, Array.getElem?_modify, h, List.setIfInBounds_toArray, List.map_set]
theorem RowU.other {w : World} {b c : Nat} {D : List Nat} (h : RowU w b D) (hn : b ≠ c) (j : Nat) (v : Value) : RowU (w.setCell ⟨c, j, none⟩ v) b D := (Below.heap_setCell w ⟨c, j, none⟩ v b (by simpa using hn)).trans h
theorem EncOf.other {w : World} {b c : Nat} {m : List Nat} (h : EncOf w b m) (hn : b ≠ c) (j : Nat) (v : Value) : EncOf (w.setCell ⟨c, j, none⟩ v) b m := (Below.heap_setCell w ⟨c, j, none⟩ v b (by simpa using hn)).trans h
theorem EncOf.lt {w : World} {b : Nat} {m : List Nat} (h : EncOf w b m) : b < w.heap.size := (Array.getElem?_eq_some_iff.1 h).1
theorem cellsOf_tail (m : List Nat) (hm : m.length = 256) (j : Nat) : (cellsOf m)[320 + j]? = ([.int .i32 61, .bool false] : List Value)[j]? := by
  unfold cellsOf
  have hl : ((alpha.data.toList.map fun b => Value.int .u8 (b.toNat : Int)) ++ (m.map fun (k : Nat) => Value.int .u8 (k : Int))).length = 320 := by rw [List.length_append, List.length_map, List.length_map, hm]; rfl
  rw [List.getElem?_append_right (by rw [hl]; omega), hl, show 320 + j - 320 = j by omega]
theorem EncOf.pad {w : World} {b : Nat} (h : EncOf w b (mAt 64)) : w.cell? ⟨b, 320, none⟩ = some (.int .i32 61) := by
  rw [h.cell]; exact cellsOf_tail _ (mAt_len 64) 0
theorem EncOf.strict {w : World} {b : Nat} (h : EncOf w b (mAt 64)) : w.cell? ⟨b, 321, none⟩ = some (.bool false) := by
  rw [h.cell]; exact cellsOf_tail _ (mAt_len 64) 1
theorem EncOf.sign {w : World} {b : Nat} {m : List Nat} (h : EncOf w b m) (i : Nat) (hi : i < 64) : w.cell? ⟨b, i, none⟩ = some (.int .u8 (sgn i : Int)) := by
  rw [h.cell]
  unfold cellsOf sgn
  rw [List.append_assoc, List.getElem?_append_left (by rw [alpha_cells_len]; exact hi), List.getElem?_map, List.getElem?_eq_getElem (by exact hi), List.getD_eq_getElem?_getD, List.getElem?_eq_getElem (by exact hi)]
  rfl
/-- The letters' cells. -/
def signsL : List Value := alpha.data.toList.map fun (b : UInt8) => Value.int .u8 (b.toNat : Int)
theorem EncOf.letters {w : World} {b : Nat} {m : List Nat} (h : EncOf w b m) : w.rangeAt b 0 signsL := fun j v hj => by
  unfold signsL at hj
  rw [Nat.zero_add, h.cell]
  unfold cellsOf
  rw [List.append_assoc, List.getElem?_append_left (List.getElem?_eq_some_iff.1 hj).1]
  exact hj
theorem encodedLen_walk (b n : Nat) (hn : n ≤ 100000) (w : World) (hE : EncOf w b (mAt 64)) :
    Calls Try.prog 31 #[.pointer (some ⟨b, 0, none⟩), .int .i64 (n : Int)] w fun e w' => e = .returned (.int .i64 (((n + 2) / 3 * 4 : Nat) : Int)) ∧ w' = w := by
  have k0 := hE.pad
  clear hE
  go_enter Try.func31, Try.ntmps31
  go_wp2_with fail
  go_ret
  refine ⟨?_, rfl⟩
  exact congrArg (fun z => Ending.returned (Value.int IntKind.i64 z)) (show ((n : Int) + 2) / 3 * 4 = (((n + 2) / 3 * 4 : Nat) : Int) by omega)
/-! ### the text of bytes, plain -/
def grp (b0 b1 b2 : Nat) : List Nat := [sgn ((b0 * 65536 + (b1 * 256 + b2)) / 262144 % 64), sgn ((b0 * 65536 + (b1 * 256 + b2)) / 4096 % 64), sgn ((b0 * 65536 + (b1 * 256 + b2)) / 64 % 64), sgn ((b0 * 65536 + (b1 * 256 + b2)) % 64)]
def enc64 : List Nat → List Nat
  | b0 :: b1 :: b2 :: t => grp b0 b1 b2 ++ enc64 t
  | [b0, b1] => [sgn ((b0 * 65536 + b1 * 256) / 262144 % 64), sgn ((b0 * 65536 + b1 * 256) / 4096 % 64), sgn ((b0 * 65536 + b1 * 256) / 64 % 64), 61]
  | [b0] => [sgn (b0 * 65536 / 262144 % 64), sgn (b0 * 65536 / 4096 % 64), 61, 61]
  | [] => []
theorem set4 (G Z : List Nat) (a b c d x0 x1 x2 x3 : Nat) (k : Nat) (hG : G.length = k) : ((((G ++ a :: b :: c :: d :: Z).set k x0).set (k + 1) x1).set (k + 2) x2).set (k + 3) x3 = (G ++ [x0, x1, x2, x3]) ++ Z := by
  subst hG
  simp [List.set_append]
theorem setk_0 {G Z : List Nat} {x a i : Nat} (hG : G.length = 4 * i) : (G ++ a :: Z).set (4 * i) x = G ++ x :: Z := by
  rw [← hG, List.set_append_right _ _ (Nat.le_refl _), Nat.sub_self]; rfl
theorem setk_1 {G Z : List Nat} {x a b i : Nat} (hG : G.length = 4 * i) : (G ++ a :: b :: Z).set (4 * i + 1) x = G ++ a :: x :: Z := by
  rw [← hG, List.set_append_right _ _ (by omega), show G.length + 1 - G.length = 1 by omega]; rfl
theorem setk_2 {G Z : List Nat} {x a b c i : Nat} (hG : G.length = 4 * i) : (G ++ a :: b :: c :: Z).set (4 * i + 2) x = G ++ a :: b :: x :: Z := by
  rw [← hG, List.set_append_right _ _ (by omega), show G.length + 2 - G.length = 2 by omega]; rfl
theorem setk_3 {G Z : List Nat} {x a b c d i : Nat} (hG : G.length = 4 * i) : (G ++ a :: b :: c :: d :: Z).set (4 * i + 3) x = G ++ a :: b :: c :: x :: Z := by
  rw [← hG, List.set_append_right _ _ (by omega), show G.length + 3 - G.length = 3 by omega]; rfl
set_option maxHeartbeats 8000000 in
theorem encode_walk (eb sb db : Nat) (L : List Nat) (hL : L.length ≤ 1000) (hb : ∀ x ∈ L, x < 256) (cp : Nat) (hcp : L.length ≤ cp) (w : World) (hE : EncOf w eb (mAt 64)) (hD : RowU w db (List.replicate ((L.length + 2) / 3 * 4) 0)) (he : eb < db) (hs : sb < db)
    (hS : ∀ j k : Nat, L[j]? = some k → w.cell? ⟨sb, j, none⟩ = some (.int .u8 (k : Int))) :
    Calls Try.prog 32 #[.pointer (some ⟨eb, 0, none⟩), .slice (some ⟨db, 0, none⟩) ((L.length + 2) / 3 * 4) ((L.length + 2) / 3 * 4), .slice (some ⟨sb, 0, none⟩) L.length cp] w fun e w' => e = .returned (.tuple #[]) ∧ RowU w' db (enc64 L) ∧ Below db w w' := by
  obtain ⟨n, hn⟩ : ∃ n, n = L.length := ⟨_, rfl⟩
  obtain ⟨dl, hdl⟩ : ∃ dl, dl = (n + 2) / 3 * 4 := ⟨_, rfl⟩
  rw [← hn] at hL hcp hD ⊢
  rw [← hdl] at hD ⊢
  by_cases h0 : n = 0
  · have hL0 : L = [] := List.eq_nil_of_length_eq_zero (by omega)
    subst h0
    have HDD : Hid (RowU w db (enc64 L)) := Lib.hid (by rw [hdl] at hD; rw [hL0]; exact hD)
    clear hn hdl hL0 hb hE hS hD hcp hL
    go_enter Try.func32, Try.ntmps32
    go_wp2_with fail
    (try simp only [Exit.inBlock, Exit.then]); refine bodyPost_ret (results_none rfl _ _ _) rfl ?_
    exact ⟨rfl, HDD.out, Below.refl _ _⟩
  have h0' : ((n : Int) == 0) = false := by simp <;> omega
  have HE0 := Lib.hid hE
  have HD0 := Lib.hid hD
  have HS0 := Lib.hid hS
  have HLT := Lib.hid (And.intro he hs)
  have HN := Lib.hid (And.intro hn hdl)
  have HBY := Lib.hid hb
  have HCP := Lib.hid hcp
  -- the first load of the alphabet
  have HQ0 := Lib.hid hE.letters
  clear hE hD hS he hs hn hdl hb hcp
  go_enter Try.func32, Try.ntmps32
  go_wp2_with (refine wpList_load_mid rfl 53 (.tmp 14) rfl eb 0 rfl signsL _ HQ0.out Try.underlying53 rfl (by kernel_rfl) ?_)
  clear HQ0
  go_simp
  go_loopg [1, 2, 6] (n / 3) (fun kq v1 v2 v6 wr => ∃ (i : Nat) (G : List Nat) (x6 : Value) (A B : Addr) (p q r : Nat), v1 = .slice (some A) p p ∧ v2 = .slice (some B) q r ∧ (p = dl - 4 * i ∧ q = n - 3 * i ∧ r = cp - 3 * i) ∧ (0 < p → A = ⟨db, 4 * i, none⟩) ∧ (0 < r → B = ⟨sb, 3 * i, none⟩) ∧ v6 = x6 ∧ i + kq = n / 3 ∧ Hid (RowU wr db (G ++ List.replicate (dl - 4 * i) 0)) ∧ Hid (enc64 L = G ++ enc64 (L.drop (3 * i))) ∧ Hid (G.length = 4 * i) ∧ Hid (Below db w wr))
  case atStart => exact ⟨0, [], _, _, _, _, _, _, rfl, rfl, ⟨rfl, rfl, rfl⟩, fun _ => rfl, fun _ => rfl, rfl, by omega, HD0, Lib.hid rfl, Lib.hid rfl, Lib.hid (Below.refl _ _)⟩
  case round =>
    obtain ⟨i, G, x6, A, B, p, q, r, rfl, rfl, ⟨hp, hq, hr⟩, hA, hB, rfl, hi, HR, HG, HGL, HB⟩ := hrel
    cases gk with
    | zero =>
      have hql : q < 3 ∧ q = n - 3 * i := by omega
      obtain ⟨hq3, hqn⟩ := hql
      have hll : (L.drop (3 * i)).length = q := by rw [List.length_drop, ← HN.out.1]; omega
      have hdn := HN.out.2
      rcases (by omega : q = 0 ∨ q = 1 ∨ q = 2) with rfl | rfl | rfl
      · have hd0 : L.drop (3 * i) = [] := List.eq_nil_of_length_eq_zero hll
        have HF : Hid (RowU wr db (enc64 L)) := Lib.hid (by
          rw [HG.out, hd0]
          have h_ := HR.out
          rw [show dl - 4 * i = 0 by omega] at h_
          exact h_)
        clear hll hd0 hq hqn hq3 hp hr hA hB hi hdn
        go_wp2_with fail
        (try simp only [Exit.inBlock, Exit.then]); refine bodyPost_ret (results_none rfl _ _ _) rfl ?_
        exact ⟨rfl, HF.out, HB.out⟩
      · obtain ⟨b0, hd0⟩ : ∃ b0, L.drop (3 * i) = [b0] := by
          match hm : L.drop (3 * i) with
          | [b0] => exact ⟨b0, rfl⟩
          | [] | [_, _] | _ :: _ :: _ :: _ => rw [hm] at hll; simp at hll
        have hg : ∀ j x : Nat, ([b0] : List Nat)[j]? = some x → L[3 * i + j]? = some x := fun j x h => by rw [← hd0, List.getElem?_drop] at h; exact h
        have hb0 : b0 < 256 := HBY.out _ (List.mem_of_getElem? (hg 0 b0 rfl))
        obtain rfl := hA (by omega)
        obtain rfl := hB (by have := HCP.out; omega)
        have hp4 : p = 4 := by omega
        subst hp4
        have hsw : sb < wr.heap.size := Nat.lt_of_lt_of_le HLT.out.2 (Nat.le_of_lt HR.out.lt)
        have hsc : ∀ j x : Nat, ([b0] : List Nat)[j]? = some x → wr.cell? ⟨sb, 3 * i + j, none⟩ = some (.int .u8 (x : Int)) := fun j x h => (HB.out.cell (p := ⟨sb, 3 * i + j, none⟩) HLT.out.2).trans (HS0.out _ _ (hg j x h))
        have HG2 : Hid (enc64 L = G ++ enc64 [b0]) := Lib.hid (by rw [HG.out, hd0])
        have HR0 : Hid (RowU wr db (G ++ 0 :: 0 :: 0 :: 0 :: ([] : List Nat))) := Lib.hid (by
          have h_ := HR.out
          rw [show dl - 4 * i = 4 by omega] at h_
          exact h_)
        have HE0' : Hid (EncOf wr eb (mAt 64)) := Lib.hid (HE0.out.below HB.out HLT.out.1)
        have HBB0 := HB
        have k0 : wr.cell? ⟨sb, 3 * i, none⟩ = some (.int .u8 (b0 : Int)) := hsc 0 b0 rfl
        clear hll hd0 hq hqn hq3 hp hr hA hB hi hdn hsc hsw hg HR HB
        go_upto_region 15 with fail
        rw [show (b0 : Int) * 65536 = ((b0 * 65536 : Nat) : Int) by simp]
        obtain ⟨v, hv⟩ : ∃ v, v = b0 * 65536 := ⟨_, rfl⟩
        have hvl : v < 16777216 := by omega
        rw [← hv]
        have HV := Lib.hid hv
        have a0 : bits BinOp.and IntKind.u64 ((v : Int) / 262144) 63 = ((v / 262144 % 64 : Nat) : Int) := and63 (v / 262144) (by omega)
        obtain ⟨j0, hj0⟩ : ∃ j, j = v / 262144 % 64 := ⟨_, rfl⟩
        rw [← hj0] at a0
        have w0 : (j0 : Int) < 64 := by omega
        have a1 : bits BinOp.and IntKind.u64 ((v : Int) / 4096) 63 = ((v / 4096 % 64 : Nat) : Int) := and63 (v / 4096) (by omega)
        obtain ⟨j1, hj1⟩ : ∃ j, j = v / 4096 % 64 := ⟨_, rfl⟩
        rw [← hj1] at a1
        have w1 : (j1 : Int) < 64 := by omega
        have HJ := Lib.hid (And.intro hj0 hj1)
        clear hv hj0 hj1 hb0
        have HLk0 : Hid (wr.frozen? ⟨db, 4 * i, none⟩ = false) := Lib.hid (HR0.out.free _)
        have cE : wr.cell? ⟨eb, j0, none⟩ = some (.int .u8 (sgn j0 : Int)) := HE0'.out.sign _ (by omega)
        have cD : wr.cell? ⟨db, 4 * i, none⟩ = some (.int .u8 (0 : Nat)) := HR0.out.cell _ _ (by rw [List.getElem?_append_right (by rw [HGL.out]; omega), HGL.out, show 4 * i - 4 * i = 0 by omega]; rfl)
        have fD : wr.frozen? ⟨db, 4 * i, none⟩ = false := HLk0.out
        go_upto_region 16 with fail
        obtain ⟨wA, hW_⟩ : ∃ W_, W_ = wr.setCell ⟨db, 4 * i, none⟩ (.int .u8 (sgn j0 : Int)) := ⟨_, rfl⟩
        rw [← hW_]
        have HR1 : Hid (RowU wA db (G ++ sgn j0 :: 0 :: 0 :: 0 :: ([] : List Nat))) := Lib.hid (by
          have h_ := HR0.out.store (4 * i) (sgn j0)
          rw [setk_0 HGL.out] at h_
          rw [hW_]; exact h_)
        have HE1 : Hid (EncOf wA eb (mAt 64)) := Lib.hid (by rw [hW_]; exact HE0'.out.other (show eb ≠ db by have := HLT.out.1; omega) (4 * i) (.int .u8 (sgn j0 : Int)))
        have HBB1 : Hid (Below db w wA) := Lib.hid (by rw [hW_]; exact HBB0.out.setCell (p := ⟨db, 4 * i, none⟩) (Nat.le_refl db) (.int .u8 (sgn j0 : Int)))
        clear hW_ cE cD fD HR0 HE0' HBB0 HLk0
        have HLk1 : Hid (wA.frozen? ⟨db, 4 * i + 1, none⟩ = false) := Lib.hid (HR1.out.free _)
        have cE : wA.cell? ⟨eb, j1, none⟩ = some (.int .u8 (sgn j1 : Int)) := HE1.out.sign _ (by omega)
        have cD : wA.cell? ⟨db, 4 * i + 1, none⟩ = some (.int .u8 (0 : Nat)) := HR1.out.cell _ _ (by rw [List.getElem?_append_right (by rw [HGL.out]; omega), HGL.out, show 4 * i + 1 - 4 * i = 1 by omega]; rfl)
        have fD : wA.frozen? ⟨db, 4 * i + 1, none⟩ = false := HLk1.out
        go_upto_region 17 with fail
        obtain ⟨wB, hW_⟩ : ∃ W_, W_ = wA.setCell ⟨db, 4 * i + 1, none⟩ (.int .u8 (sgn j1 : Int)) := ⟨_, rfl⟩
        rw [← hW_]
        have HR2 : Hid (RowU wB db (G ++ sgn j0 :: sgn j1 :: 0 :: 0 :: ([] : List Nat))) := Lib.hid (by
          have h_ := HR1.out.store (4 * i + 1) (sgn j1)
          rw [setk_1 HGL.out] at h_
          rw [hW_]; exact h_)
        have HE2 : Hid (EncOf wB eb (mAt 64)) := Lib.hid (by rw [hW_]; exact HE1.out.other (show eb ≠ db by have := HLT.out.1; omega) (4 * i + 1) (.int .u8 (sgn j1 : Int)))
        have HBB2 : Hid (Below db w wB) := Lib.hid (by rw [hW_]; exact HBB1.out.setCell (p := ⟨db, 4 * i + 1, none⟩) (Nat.le_refl db) (.int .u8 (sgn j1 : Int)))
        clear hW_ cE cD fD HR1 HE1 HBB1 HLk1
        have HLk2 : Hid (wB.frozen? ⟨db, 4 * i + 2, none⟩ = false) := Lib.hid (HR2.out.free _)
        have cE : wB.cell? ⟨eb, 320, none⟩ = some (.int .i32 61) := HE2.out.pad
        have cD : wB.cell? ⟨db, 4 * i + 2, none⟩ = some (.int .u8 (0 : Nat)) := HR2.out.cell _ _ (by rw [List.getElem?_append_right (by rw [HGL.out]; omega), HGL.out, show 4 * i + 2 - 4 * i = 2 by omega]; rfl)
        have fD : wB.frozen? ⟨db, 4 * i + 2, none⟩ = false := HLk2.out
        go_upto_region 19 with fail
        obtain ⟨wC, hW_⟩ : ∃ W_, W_ = wB.setCell ⟨db, 4 * i + 2, none⟩ (.int .u8 (61 : Int)) := ⟨_, rfl⟩
        rw [← hW_]
        have HR3 : Hid (RowU wC db (G ++ sgn j0 :: sgn j1 :: 61 :: 0 :: ([] : List Nat))) := Lib.hid (by
          have h_ := HR2.out.store (4 * i + 2) (61)
          rw [setk_2 HGL.out] at h_
          rw [hW_]; exact h_)
        have HE3 : Hid (EncOf wC eb (mAt 64)) := Lib.hid (by rw [hW_]; exact HE2.out.other (show eb ≠ db by have := HLT.out.1; omega) (4 * i + 2) (.int .u8 (61 : Int)))
        have HBB3 : Hid (Below db w wC) := Lib.hid (by rw [hW_]; exact HBB2.out.setCell (p := ⟨db, 4 * i + 2, none⟩) (Nat.le_refl db) (.int .u8 (61 : Int)))
        clear hW_ cE cD fD HR2 HE2 HBB2 HLk2
        have HLk3 : Hid (wC.frozen? ⟨db, 4 * i + 3, none⟩ = false) := Lib.hid (HR3.out.free _)
        have cE : wC.cell? ⟨eb, 320, none⟩ = some (.int .i32 61) := HE3.out.pad
        have cD : wC.cell? ⟨db, 4 * i + 3, none⟩ = some (.int .u8 (0 : Nat)) := HR3.out.cell _ _ (by rw [List.getElem?_append_right (by rw [HGL.out]; omega), HGL.out, show 4 * i + 3 - 4 * i = 3 by omega]; rfl)
        have fD : wC.frozen? ⟨db, 4 * i + 3, none⟩ = false := HLk3.out
        go_wp2_with fail
        go_end0
        refine ⟨rfl, ?_, HBB3.out.setCell (p := ⟨db, 4 * i + 3, none⟩) (Nat.le_refl db) _⟩
        have h_ := HR3.out.store (4 * i + 3) (61)
        rw [setk_3 HGL.out] at h_
        have e_ : enc64 L = G ++ sgn j0 :: sgn j1 :: 61 :: 61 :: ([] : List Nat) := by
          rw [HG2.out]; unfold enc64
          rw [HJ.out.1, HJ.out.2, HV.out]
        rw [e_]; exact h_
      · obtain ⟨b0, b1, hd0⟩ : ∃ b0 b1, L.drop (3 * i) = [b0, b1] := by
          match hm : L.drop (3 * i) with
          | [b0, b1] => exact ⟨b0, b1, rfl⟩
          | [] | [_] | _ :: _ :: _ :: _ => rw [hm] at hll; simp at hll
        have hg : ∀ j x : Nat, ([b0, b1] : List Nat)[j]? = some x → L[3 * i + j]? = some x := fun j x h => by rw [← hd0, List.getElem?_drop] at h; exact h
        have hb0 : b0 < 256 := HBY.out _ (List.mem_of_getElem? (hg 0 b0 rfl))
        have hb1 : b1 < 256 := HBY.out _ (List.mem_of_getElem? (hg 1 b1 rfl))
        obtain rfl := hA (by omega)
        obtain rfl := hB (by have := HCP.out; omega)
        have hp4 : p = 4 := by omega
        subst hp4
        have hsw : sb < wr.heap.size := Nat.lt_of_lt_of_le HLT.out.2 (Nat.le_of_lt HR.out.lt)
        have hsc : ∀ j x : Nat, ([b0, b1] : List Nat)[j]? = some x → wr.cell? ⟨sb, 3 * i + j, none⟩ = some (.int .u8 (x : Int)) := fun j x h => (HB.out.cell (p := ⟨sb, 3 * i + j, none⟩) HLT.out.2).trans (HS0.out _ _ (hg j x h))
        have HG2 : Hid (enc64 L = G ++ enc64 [b0, b1]) := Lib.hid (by rw [HG.out, hd0])
        have HR0 : Hid (RowU wr db (G ++ 0 :: 0 :: 0 :: 0 :: ([] : List Nat))) := Lib.hid (by
          have h_ := HR.out
          rw [show dl - 4 * i = 4 by omega] at h_
          exact h_)
        have HE0' : Hid (EncOf wr eb (mAt 64)) := Lib.hid (HE0.out.below HB.out HLT.out.1)
        have HBB0 := HB
        have k0 : ∀ q : Vals.Near wr.heap.size wr, q.W.cell? ⟨sb, 3 * i, none⟩ = some (.int .u8 (b0 : Int)) := fun q => q.cell hsw (hsc 0 b0 rfl)
        have k1 : ∀ q : Vals.Near wr.heap.size wr, q.W.cell? ⟨sb, 3 * i + 1, none⟩ = some (.int .u8 (b1 : Int)) := fun q => q.cell hsw (hsc 1 b1 rfl)
        clear hll hd0 hq hqn hq3 hp hr hA hB hi hdn hsc hsw hg HR HB
        go_upto_region 21 with fail
        refine Vals.wp_region_near wr.heap.size wr (by kernel_rfl) (by kernel_rfl) (Below.refl _ _) ?_
        repeat (go_big_quiet_step (fail))
        refine wpQuiet_nil ?_
        rw [show bits BinOp.or IntKind.u64 ((b0 : Int) * 65536) ((b1 : Int) * 256) = ((b0 * 65536 + b1 * 256 : Nat) : Int) from or2 b0 b1 hb0 hb1]
        intro wm hw'
        obtain ⟨q_, hx_⟩ := hw'
        have hb_ : Below wr.heap.size wr wm := by rw [hx_]; exact q_.h
        have hlt_ := HR0.out.lt
        have HRn := Lib.hid (HR0.out.below hb_ hlt_)
        have HBn : Hid (Below db w wm) := Lib.hid (HBB0.out.trans (hb_.mono (Nat.le_of_lt hlt_)))
        have HEn : Hid (EncOf wm eb (mAt 64)) := Lib.hid (HE0.out.below HBn.out HLT.out.1)
        clear HR0 HBB0 HE0' hx_ hb_ hlt_ k0 k1
        have HR0 := HRn
        have HBB0 := HBn
        have HE0' := HEn
        clear HRn HBn HEn
        go_upto_region 22 with fail
        obtain ⟨v, hv⟩ : ∃ v, v = b0 * 65536 + b1 * 256 := ⟨_, rfl⟩
        have hvl : v < 16777216 := by omega
        rw [← hv]
        have HV := Lib.hid hv
        have a0 : bits BinOp.and IntKind.u64 ((v : Int) / 262144) 63 = ((v / 262144 % 64 : Nat) : Int) := and63 (v / 262144) (by omega)
        obtain ⟨j0, hj0⟩ : ∃ j, j = v / 262144 % 64 := ⟨_, rfl⟩
        rw [← hj0] at a0
        have w0 : (j0 : Int) < 64 := by omega
        have a1 : bits BinOp.and IntKind.u64 ((v : Int) / 4096) 63 = ((v / 4096 % 64 : Nat) : Int) := and63 (v / 4096) (by omega)
        obtain ⟨j1, hj1⟩ : ∃ j, j = v / 4096 % 64 := ⟨_, rfl⟩
        rw [← hj1] at a1
        have w1 : (j1 : Int) < 64 := by omega
        have a2 : bits BinOp.and IntKind.u64 ((v : Int) / 64) 63 = ((v / 64 % 64 : Nat) : Int) := and63 (v / 64) (by omega)
        obtain ⟨j2, hj2⟩ : ∃ j, j = v / 64 % 64 := ⟨_, rfl⟩
        rw [← hj2] at a2
        have w2 : (j2 : Int) < 64 := by omega
        have HJ := Lib.hid (And.intro hj0 (And.intro hj1 hj2))
        clear hv hj0 hj1 hj2 hb0 hb1
        have HLk0 : Hid (wm.frozen? ⟨db, 4 * i, none⟩ = false) := Lib.hid (HR0.out.free _)
        have cE : wm.cell? ⟨eb, j0, none⟩ = some (.int .u8 (sgn j0 : Int)) := HE0'.out.sign _ (by omega)
        have cD : wm.cell? ⟨db, 4 * i, none⟩ = some (.int .u8 (0 : Nat)) := HR0.out.cell _ _ (by rw [List.getElem?_append_right (by rw [HGL.out]; omega), HGL.out, show 4 * i - 4 * i = 0 by omega]; rfl)
        have fD : wm.frozen? ⟨db, 4 * i, none⟩ = false := HLk0.out
        go_upto_region 23 with fail
        obtain ⟨wA, hW_⟩ : ∃ W_, W_ = wm.setCell ⟨db, 4 * i, none⟩ (.int .u8 (sgn j0 : Int)) := ⟨_, rfl⟩
        rw [← hW_]
        have HR1 : Hid (RowU wA db (G ++ sgn j0 :: 0 :: 0 :: 0 :: ([] : List Nat))) := Lib.hid (by
          have h_ := HR0.out.store (4 * i) (sgn j0)
          rw [setk_0 HGL.out] at h_
          rw [hW_]; exact h_)
        have HE1 : Hid (EncOf wA eb (mAt 64)) := Lib.hid (by rw [hW_]; exact HE0'.out.other (show eb ≠ db by have := HLT.out.1; omega) (4 * i) (.int .u8 (sgn j0 : Int)))
        have HBB1 : Hid (Below db w wA) := Lib.hid (by rw [hW_]; exact HBB0.out.setCell (p := ⟨db, 4 * i, none⟩) (Nat.le_refl db) (.int .u8 (sgn j0 : Int)))
        clear hW_ cE cD fD HR0 HE0' HBB0 HLk0
        have HLk1 : Hid (wA.frozen? ⟨db, 4 * i + 1, none⟩ = false) := Lib.hid (HR1.out.free _)
        have cE : wA.cell? ⟨eb, j1, none⟩ = some (.int .u8 (sgn j1 : Int)) := HE1.out.sign _ (by omega)
        have cD : wA.cell? ⟨db, 4 * i + 1, none⟩ = some (.int .u8 (0 : Nat)) := HR1.out.cell _ _ (by rw [List.getElem?_append_right (by rw [HGL.out]; omega), HGL.out, show 4 * i + 1 - 4 * i = 1 by omega]; rfl)
        have fD : wA.frozen? ⟨db, 4 * i + 1, none⟩ = false := HLk1.out
        go_upto_region 24 with fail
        obtain ⟨wB, hW_⟩ : ∃ W_, W_ = wA.setCell ⟨db, 4 * i + 1, none⟩ (.int .u8 (sgn j1 : Int)) := ⟨_, rfl⟩
        rw [← hW_]
        have HR2 : Hid (RowU wB db (G ++ sgn j0 :: sgn j1 :: 0 :: 0 :: ([] : List Nat))) := Lib.hid (by
          have h_ := HR1.out.store (4 * i + 1) (sgn j1)
          rw [setk_1 HGL.out] at h_
          rw [hW_]; exact h_)
        have HE2 : Hid (EncOf wB eb (mAt 64)) := Lib.hid (by rw [hW_]; exact HE1.out.other (show eb ≠ db by have := HLT.out.1; omega) (4 * i + 1) (.int .u8 (sgn j1 : Int)))
        have HBB2 : Hid (Below db w wB) := Lib.hid (by rw [hW_]; exact HBB1.out.setCell (p := ⟨db, 4 * i + 1, none⟩) (Nat.le_refl db) (.int .u8 (sgn j1 : Int)))
        clear hW_ cE cD fD HR1 HE1 HBB1 HLk1
        have HLk2 : Hid (wB.frozen? ⟨db, 4 * i + 2, none⟩ = false) := Lib.hid (HR2.out.free _)
        have cE : wB.cell? ⟨eb, j2, none⟩ = some (.int .u8 (sgn j2 : Int)) := HE2.out.sign _ (by omega)
        have cD : wB.cell? ⟨db, 4 * i + 2, none⟩ = some (.int .u8 (0 : Nat)) := HR2.out.cell _ _ (by rw [List.getElem?_append_right (by rw [HGL.out]; omega), HGL.out, show 4 * i + 2 - 4 * i = 2 by omega]; rfl)
        have fD : wB.frozen? ⟨db, 4 * i + 2, none⟩ = false := HLk2.out
        go_upto_region 25 with fail
        obtain ⟨wC, hW_⟩ : ∃ W_, W_ = wB.setCell ⟨db, 4 * i + 2, none⟩ (.int .u8 (sgn j2 : Int)) := ⟨_, rfl⟩
        rw [← hW_]
        have HR3 : Hid (RowU wC db (G ++ sgn j0 :: sgn j1 :: sgn j2 :: 0 :: ([] : List Nat))) := Lib.hid (by
          have h_ := HR2.out.store (4 * i + 2) (sgn j2)
          rw [setk_2 HGL.out] at h_
          rw [hW_]; exact h_)
        have HE3 : Hid (EncOf wC eb (mAt 64)) := Lib.hid (by rw [hW_]; exact HE2.out.other (show eb ≠ db by have := HLT.out.1; omega) (4 * i + 2) (.int .u8 (sgn j2 : Int)))
        have HBB3 : Hid (Below db w wC) := Lib.hid (by rw [hW_]; exact HBB2.out.setCell (p := ⟨db, 4 * i + 2, none⟩) (Nat.le_refl db) (.int .u8 (sgn j2 : Int)))
        clear hW_ cE cD fD HR2 HE2 HBB2 HLk2
        have HLk3 : Hid (wC.frozen? ⟨db, 4 * i + 3, none⟩ = false) := Lib.hid (HR3.out.free _)
        have cE : wC.cell? ⟨eb, 320, none⟩ = some (.int .i32 61) := HE3.out.pad
        have cD : wC.cell? ⟨db, 4 * i + 3, none⟩ = some (.int .u8 (0 : Nat)) := HR3.out.cell _ _ (by rw [List.getElem?_append_right (by rw [HGL.out]; omega), HGL.out, show 4 * i + 3 - 4 * i = 3 by omega]; rfl)
        have fD : wC.frozen? ⟨db, 4 * i + 3, none⟩ = false := HLk3.out
        go_wp2_with fail
        go_end0
        refine ⟨rfl, ?_, HBB3.out.setCell (p := ⟨db, 4 * i + 3, none⟩) (Nat.le_refl db) _⟩
        have h_ := HR3.out.store (4 * i + 3) (61)
        rw [setk_3 HGL.out] at h_
        have e_ : enc64 L = G ++ sgn j0 :: sgn j1 :: sgn j2 :: 61 :: ([] : List Nat) := by
          rw [HG2.out]; unfold enc64
          rw [HJ.out.1, HJ.out.2.1, HJ.out.2.2, HV.out]
        rw [e_]; exact h_
    | succ m =>
      subst hp hq hr
      have h3 : 3 * i + 3 ≤ n := by omega
      obtain rfl := hA (by have := HN.out.2; omega)
      obtain rfl := hB (by have := HCP.out; omega)
      clear hA hB
      have y1 : (3 : Int) ≤ ((n - 3 * i : Nat) : Int) := by omega
      obtain ⟨b0, b1, b2, t, hdr⟩ : ∃ b0 b1 b2 t, L.drop (3 * i) = b0 :: b1 :: b2 :: t := by
        have hl : (L.drop (3 * i)).length = n - 3 * i := by rw [List.length_drop, ← HN.out.1]
        match hm : L.drop (3 * i) with
        | b0 :: b1 :: b2 :: t => exact ⟨b0, b1, b2, t, rfl⟩
        | [] | [_] | [_, _] => rw [hm] at hl; simp at hl; omega
      have hg : ∀ j x, (b0 :: b1 :: b2 :: t)[j]? = some x → L[3 * i + j]? = some x := fun j x h => by rw [← hdr, List.getElem?_drop] at h; exact h
      have hb0 : b0 < 256 := HBY.out _ (List.mem_of_getElem? (hg 0 b0 rfl))
      have hb1 : b1 < 256 := HBY.out _ (List.mem_of_getElem? (hg 1 b1 rfl))
      have hb2 : b2 < 256 := HBY.out _ (List.mem_of_getElem? (hg 2 b2 rfl))
      have hsw : sb < wr.heap.size := Nat.lt_of_lt_of_le HLT.out.2 (Nat.le_of_lt HR.out.lt)
      have hsc : ∀ j x : Nat, (b0 :: b1 :: b2 :: t)[j]? = some x → wr.cell? ⟨sb, 3 * i + j, none⟩ = some (.int .u8 (x : Int)) := fun j x h => (HB.out.cell (p := ⟨sb, 3 * i + j, none⟩) HLT.out.2).trans (HS0.out _ _ (hg j x h))
      have k0 : ∀ q : Vals.Near wr.heap.size wr, q.W.cell? ⟨sb, 3 * i, none⟩ = some (.int .u8 (b0 : Int)) := fun q => q.cell hsw (hsc 0 b0 rfl)
      have k1 : ∀ q : Vals.Near wr.heap.size wr, q.W.cell? ⟨sb, 3 * i + 1, none⟩ = some (.int .u8 (b1 : Int)) := fun q => q.cell hsw (hsc 1 b1 rfl)
      have k2 : ∀ q : Vals.Near wr.heap.size wr, q.W.cell? ⟨sb, 3 * i + 2, none⟩ = some (.int .u8 (b2 : Int)) := fun q => q.cell hsw (hsc 2 b2 rfl)
      have hdl4 : 4 * i + 4 ≤ dl := by have := HN.out.2; omega
      have HZ : Hid (List.replicate (dl - 4 * i) 0 = 0 :: 0 :: 0 :: 0 :: List.replicate (dl - 4 * (i + 1)) 0) := Lib.hid (by
        rw [show dl - 4 * i = (dl - 4 * (i + 1)) + 1 + 1 + 1 + 1 by omega]; rfl)
      have HDR := Lib.hid (And.intro hdr (And.intro hi (And.intro h3 hdl4)))
      go_upto_region 3 with fail
      refine Vals.wp_region_near wr.heap.size wr (by kernel_rfl) (by kernel_rfl) (Below.refl _ _) ?_
      repeat (go_big_quiet_step (fail))
      refine wpQuiet_nil ?_
      rw [show bits BinOp.or IntKind.u64 (bits BinOp.or IntKind.u64 ((b0 : Int) * 65536) ((b1 : Int) * 256)) (b2 : Int) = ((b0 * 65536 + (b1 * 256 + b2) : Nat) : Int) from or3 b0 b1 b2 hb0 hb1 hb2]
      intro wm hw'
      obtain ⟨q_, hx_⟩ := hw'
      have hb_ : Below wr.heap.size wr wm := by rw [hx_]; exact q_.h
      have HBm : Hid (Below db w wm) := Lib.hid (HB.out.trans (hb_.mono (Nat.le_of_lt HR.out.lt)))
      have HRm := Lib.hid (HR.out.below hb_ HR.out.lt)
      have HEm : Hid (EncOf wm eb (mAt 64)) := Lib.hid (HE0.out.below HBm.out HLT.out.1)
      obtain ⟨v, hv⟩ : ∃ v, v = b0 * 65536 + (b1 * 256 + b2) := ⟨_, rfl⟩
      have hvl : v < 16777216 := by omega
      rw [← hv]
      have HV := Lib.hid hv
      have a0 : bits BinOp.and IntKind.u64 ((v : Int) / 262144) 63 = ((v / 262144 % 64 : Nat) : Int) := and63 (v / 262144) (by omega)
      have a1 : bits BinOp.and IntKind.u64 ((v : Int) / 4096) 63 = ((v / 4096 % 64 : Nat) : Int) := and63 (v / 4096) (by omega)
      have a2 : bits BinOp.and IntKind.u64 ((v : Int) / 64) 63 = ((v / 64 % 64 : Nat) : Int) := and63 (v / 64) (by omega)
      have a3 : bits BinOp.and IntKind.u64 (v : Int) 63 = ((v % 64 : Nat) : Int) := and63 v (by omega)
      clear hx_ k0 k1 k2 hb_ hv hsc hsw hg hb0 hb1 hb2 hdr hi HR HB h3 hdl4
      have c3 : wm.cell? ⟨db, 4 * i + 3, none⟩ = some (.int .u8 (0 : Nat)) := HRm.out.cell _ _ (by rw [HZ.out, List.getElem?_append_right (by rw [HGL.out]; omega), HGL.out, show 4 * i + 3 - 4 * i = 3 by omega]; rfl)
      have y3 : (3 : Int) < ((dl - 4 * i : Nat) : Int) := by have := HDR.out.2.2.2; omega
      obtain ⟨j0, hj0⟩ : ∃ j, j = v / 262144 % 64 := ⟨_, rfl⟩
      obtain ⟨j1, hj1⟩ : ∃ j, j = v / 4096 % 64 := ⟨_, rfl⟩
      obtain ⟨j2, hj2⟩ : ∃ j, j = v / 64 % 64 := ⟨_, rfl⟩
      obtain ⟨j3, hj3⟩ : ∃ j, j = v % 64 := ⟨_, rfl⟩
      rw [← hj0] at a0
      rw [← hj1] at a1
      rw [← hj2] at a2
      rw [← hj3] at a3
      have w0 : (j0 : Int) < 64 := by omega
      have w1 : (j1 : Int) < 64 := by omega
      have w2 : (j2 : Int) < 64 := by omega
      have w3 : (j3 : Int) < 64 := by omega
      have HJ := Lib.hid (And.intro hj0 (And.intro hj1 (And.intro hj2 hj3)))
      clear hj0 hj1 hj2 hj3
      go_upto_region 5 with fail
      clear c3 y3
      have y0 : (0 : Int) < ((dl - 4 * i : Nat) : Int) := by have := HDR.out.2.2.2; omega
      have y0' : (1 : Int) < ((dl - 4 * i : Nat) : Int) := by have := HDR.out.2.2.2; omega
      have y0a : (2 : Int) < ((dl - 4 * i : Nat) : Int) := by have := HDR.out.2.2.2; omega
      have y0b : (3 : Int) < ((dl - 4 * i : Nat) : Int) := by have := HDR.out.2.2.2; omega
      have HR0 : Hid (RowU wm db (G ++ 0 :: 0 :: 0 :: 0 :: List.replicate (dl - 4 * (i + 1)) 0)) := by rw [← HZ.out]; exact HRm
      have HE0' := HEm
      have HBB0 := HBm
      clear HRm HEm HBm
      have HLk0 : Hid (wm.frozen? ⟨db, 4 * i, none⟩ = false) := Lib.hid (HR0.out.free _)
      have cE : wm.cell? ⟨eb, j0, none⟩ = some (.int .u8 (sgn j0 : Int)) := HE0'.out.sign _ (by omega)
      have cD : wm.cell? ⟨db, 4 * i, none⟩ = some (.int .u8 (0 : Nat)) := HR0.out.cell _ _ (by rw [List.getElem?_append_right (by rw [HGL.out]; omega), HGL.out, show 4 * i - 4 * i = 0 by omega]; rfl)
      have fD : wm.frozen? ⟨db, 4 * i, none⟩ = false := HLk0.out
      go_upto_region 6 with fail
      obtain ⟨wA, hW_⟩ : ∃ W_, W_ = wm.setCell ⟨db, 4 * i, none⟩ (.int .u8 (sgn j0 : Int)) := ⟨_, rfl⟩
      rw [← hW_]
      have HR1 : Hid (RowU wA db (G ++ sgn j0 :: 0 :: 0 :: 0 :: List.replicate (dl - 4 * (i + 1)) 0)) := Lib.hid (by
        have h_ := HR0.out.store (4 * i) (sgn j0)
        rw [setk_0 HGL.out] at h_
        rw [hW_]; exact h_)
      have HE1 : Hid (EncOf wA eb (mAt 64)) := Lib.hid (by rw [hW_]; exact HE0'.out.other (show eb ≠ db by have := HLT.out.1; omega) (4 * i) (.int .u8 (sgn j0 : Int)))
      have HBB1 : Hid (Below db w wA) := Lib.hid (by rw [hW_]; exact HBB0.out.setCell (p := ⟨db, 4 * i, none⟩) (Nat.le_refl db) (.int .u8 (sgn j0 : Int)))
      clear hW_ cE cD fD HR0 HE0' HBB0 HLk0
      have HLk1 : Hid (wA.frozen? ⟨db, 4 * i + 1, none⟩ = false) := Lib.hid (HR1.out.free _)
      have cE : wA.cell? ⟨eb, j1, none⟩ = some (.int .u8 (sgn j1 : Int)) := HE1.out.sign _ (by omega)
      have cD : wA.cell? ⟨db, 4 * i + 1, none⟩ = some (.int .u8 (0 : Nat)) := HR1.out.cell _ _ (by rw [List.getElem?_append_right (by rw [HGL.out]; omega), HGL.out, show 4 * i + 1 - 4 * i = 1 by omega]; rfl)
      have fD : wA.frozen? ⟨db, 4 * i + 1, none⟩ = false := HLk1.out
      go_upto_region 7 with fail
      obtain ⟨wB, hW_⟩ : ∃ W_, W_ = wA.setCell ⟨db, 4 * i + 1, none⟩ (.int .u8 (sgn j1 : Int)) := ⟨_, rfl⟩
      rw [← hW_]
      have HR2 : Hid (RowU wB db (G ++ sgn j0 :: sgn j1 :: 0 :: 0 :: List.replicate (dl - 4 * (i + 1)) 0)) := Lib.hid (by
        have h_ := HR1.out.store (4 * i + 1) (sgn j1)
        rw [setk_1 HGL.out] at h_
        rw [hW_]; exact h_)
      have HE2 : Hid (EncOf wB eb (mAt 64)) := Lib.hid (by rw [hW_]; exact HE1.out.other (show eb ≠ db by have := HLT.out.1; omega) (4 * i + 1) (.int .u8 (sgn j1 : Int)))
      have HBB2 : Hid (Below db w wB) := Lib.hid (by rw [hW_]; exact HBB1.out.setCell (p := ⟨db, 4 * i + 1, none⟩) (Nat.le_refl db) (.int .u8 (sgn j1 : Int)))
      clear hW_ cE cD fD HR1 HE1 HBB1 HLk1
      have HLk2 : Hid (wB.frozen? ⟨db, 4 * i + 2, none⟩ = false) := Lib.hid (HR2.out.free _)
      have cE : wB.cell? ⟨eb, j2, none⟩ = some (.int .u8 (sgn j2 : Int)) := HE2.out.sign _ (by omega)
      have cD : wB.cell? ⟨db, 4 * i + 2, none⟩ = some (.int .u8 (0 : Nat)) := HR2.out.cell _ _ (by rw [List.getElem?_append_right (by rw [HGL.out]; omega), HGL.out, show 4 * i + 2 - 4 * i = 2 by omega]; rfl)
      have fD : wB.frozen? ⟨db, 4 * i + 2, none⟩ = false := HLk2.out
      go_upto_region 8 with fail
      obtain ⟨wC, hW_⟩ : ∃ W_, W_ = wB.setCell ⟨db, 4 * i + 2, none⟩ (.int .u8 (sgn j2 : Int)) := ⟨_, rfl⟩
      rw [← hW_]
      have HR3 : Hid (RowU wC db (G ++ sgn j0 :: sgn j1 :: sgn j2 :: 0 :: List.replicate (dl - 4 * (i + 1)) 0)) := Lib.hid (by
        have h_ := HR2.out.store (4 * i + 2) (sgn j2)
        rw [setk_2 HGL.out] at h_
        rw [hW_]; exact h_)
      have HE3 : Hid (EncOf wC eb (mAt 64)) := Lib.hid (by rw [hW_]; exact HE2.out.other (show eb ≠ db by have := HLT.out.1; omega) (4 * i + 2) (.int .u8 (sgn j2 : Int)))
      have HBB3 : Hid (Below db w wC) := Lib.hid (by rw [hW_]; exact HBB2.out.setCell (p := ⟨db, 4 * i + 2, none⟩) (Nat.le_refl db) (.int .u8 (sgn j2 : Int)))
      clear hW_ cE cD fD HR2 HE2 HBB2 HLk2
      have HLk3 : Hid (wC.frozen? ⟨db, 4 * i + 3, none⟩ = false) := Lib.hid (HR3.out.free _)
      have cE : wC.cell? ⟨eb, j3, none⟩ = some (.int .u8 (sgn j3 : Int)) := HE3.out.sign _ (by omega)
      have cD : wC.cell? ⟨db, 4 * i + 3, none⟩ = some (.int .u8 (0 : Nat)) := HR3.out.cell _ _ (by rw [List.getElem?_append_right (by rw [HGL.out]; omega), HGL.out, show 4 * i + 3 - 4 * i = 3 by omega]; rfl)
      have fD : wC.frozen? ⟨db, 4 * i + 3, none⟩ = false := HLk3.out
      go_upto_region 9 with fail
      obtain ⟨wD, hW_⟩ : ∃ W_, W_ = wC.setCell ⟨db, 4 * i + 3, none⟩ (.int .u8 (sgn j3 : Int)) := ⟨_, rfl⟩
      rw [← hW_]
      have HR4 : Hid (RowU wD db (G ++ sgn j0 :: sgn j1 :: sgn j2 :: sgn j3 :: List.replicate (dl - 4 * (i + 1)) 0)) := Lib.hid (by
        have h_ := HR3.out.store (4 * i + 3) (sgn j3)
        rw [setk_3 HGL.out] at h_
        rw [hW_]; exact h_)
      have HE4 : Hid (EncOf wD eb (mAt 64)) := Lib.hid (by rw [hW_]; exact HE3.out.other (show eb ≠ db by have := HLT.out.1; omega) (4 * i + 3) (.int .u8 (sgn j3 : Int)))
      have HBB4 : Hid (Below db w wD) := Lib.hid (by rw [hW_]; exact HBB3.out.setCell (p := ⟨db, 4 * i + 3, none⟩) (Nat.le_refl db) (.int .u8 (sgn j3 : Int)))
      clear hW_ cE cD fD HR3 HE3 HBB3 HLk3
      have s1 : (3 : Int) ≤ ((n - 3 * i : Nat) : Int) := by have := HDR.out.2.2.1; omega
      have s1' : 3 ≤ n - 3 * i := by omega
      have s2 : ((n - 3 * i : Nat) : Int) ≤ ((cp - 3 * i : Nat) : Int) := by have := HCP.out; omega
      have s2' : n - 3 * i ≤ cp - 3 * i := by omega
      have s3 : (4 : Int) ≤ ((dl - 4 * i : Nat) : Int) := by have := HDR.out.2.2.2; omega
      have s3' : 4 ≤ dl - 4 * i := by omega
      clear y0 y0' y0a y0b w0 w1 w2 w3 a0 a1 a2 a3 y1
      go_wp2_with fail
      all_goals
       go_roundg m
       case measure => exact Nat.lt_succ_self m
       case rel =>
        obtain ⟨hdr, hi, h3, hd4⟩ := HDR.out
        obtain ⟨e0, e1, e2, e3⟩ := HJ.out
        have hv := HV.out
        have egrp : grp b0 b1 b2 = [sgn j0, sgn j1, sgn j2, sgn j3] := by unfold grp; rw [e0, e1, e2, e3, hv]
        have etl : L.drop (3 * (i + 1)) = t := by rw [show 3 * (i + 1) = 3 * i + 3 by omega, ← List.drop_drop, hdr]; rfl
        refine ⟨i + 1, G ++ grp b0 b1 b2, _, _, _, _, _, _, rfl, rfl, ⟨by omega, by omega, by omega⟩, ?_, ?_, rfl, by omega, ?_, ?_, ?_, HBB4⟩
        · intro hp; first | omega | (rw [show 4 * (i + 1) = 4 * i + 4 by omega])
        · intro hp; first | omega | (rw [show 3 * (i + 1) = 3 * i + 3 by omega])
        · rw [egrp, List.append_assoc]; exact HR4
        · exact Lib.hid (by rw [etl, HG.out, hdr, enc64, List.append_assoc])
        · exact Lib.hid (by rw [List.length_append, HGL.out, egrp]; simp; omega)
end Go.Proofs.Ytoaalpkeepjhmaa.B6
