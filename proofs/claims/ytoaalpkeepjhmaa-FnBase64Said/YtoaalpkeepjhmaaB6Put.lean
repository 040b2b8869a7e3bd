/- base64: the puts of eight and of four bytes. Printed by gen_b6put.py. -/
import Derived.Test.YtoaalpkeepjhmaaB6Q
import Derived.Test.YtoaalpkeepjhmaaPFnBase64x1
namespace Go.Proofs.Ytoaalpkeepjhmaa.B6
open Go.RowKit Go.Proofs.YtoaalpkeepjhmaaW.PrintWords Go.Proofs.Ytoaalpkeepjhmaa.Txt Go.Proofs.Ytoaalpkeepjhmaa.PFnBase64
set_option linter.unusedVariables false
set_option linter.unusedSimpArgs false
set_option maxRecDepth 100000
theorem or_u8 (a b : Nat) (ha : a < 64) (hb : b < 64) : ∃ c, c < 64 ∧ bits BinOp.or IntKind.u8 (a : Int) (b : Int) = ((c : Nat) : Int) := by
  have h1 : (BitVec.ofInt 8 (a : Int)).toNat = a := by rw [BitVec.ofInt_natCast, BitVec.toNat_ofNat]; exact Nat.mod_eq_of_lt (by omega)
  have h2 : (BitVec.ofInt 8 (b : Int)).toNat = b := by rw [BitVec.ofInt_natCast, BitVec.toNat_ofNat]; exact Nat.mod_eq_of_lt (by omega)
  have e : (BitVec.ofInt 8 (a : Int) ||| BitVec.ofInt 8 (b : Int)).toNat = a ||| b := by rw [BitVec.toNat_or, h1, h2]
  have hl : a ||| b < 64 := Nat.or_lt_two_pow (n := 6) ha hb
  refine ⟨a ||| b, hl, ?_⟩
  show IntKind.u8.wrap ((BitVec.ofInt 8 (a : Int) ||| BitVec.ofInt 8 (b : Int)).toNat : Int) = _
  rw [e]
  show ((a ||| b : Nat) : Int) % (2 ^ 8 : Int) = _
  exact Int.emod_eq_of_lt (by omega) (by omega)
theorem or_u32 (a b : Nat) (ha : a < 4294967296) (hb : b < 4294967296) : bits BinOp.or IntKind.u32 (a : Int) (b : Int) = ((a ||| b : Nat) : Int) := by
  have h1 : (BitVec.ofInt 32 (a : Int)).toNat = a := by rw [BitVec.ofInt_natCast, BitVec.toNat_ofNat]; exact Nat.mod_eq_of_lt ha
  have h2 : (BitVec.ofInt 32 (b : Int)).toNat = b := by rw [BitVec.ofInt_natCast, BitVec.toNat_ofNat]; exact Nat.mod_eq_of_lt hb
  have e : (BitVec.ofInt 32 (a : Int) ||| BitVec.ofInt 32 (b : Int)).toNat = a ||| b := by rw [BitVec.toNat_or, h1, h2]
  have hl : a ||| b < 4294967296 := Nat.or_lt_two_pow (n := 32) ha hb
  show IntKind.u32.wrap ((BitVec.ofInt 32 (a : Int) ||| BitVec.ofInt 32 (b : Int)).toNat : Int) = _
  rw [e]
  show ((a ||| b : Nat) : Int) % (2 ^ 32 : Int) = _
  exact Int.emod_eq_of_lt (by omega) (by omega)
theorem or_nat (x d s : Nat) (hd : d < 64) : (x * 2 ^ (6 + s)) ||| (d * 2 ^ s) = (x * 64 + d) * 2 ^ s := by
  rw [or_add x (d * 2 ^ s) (6 + s) (by rw [Nat.pow_add]; exact Nat.mul_lt_mul_of_pos_right hd (Nat.two_pow_pos s)), Nat.pow_add, ← Nat.mul_assoc, ← Nat.add_mul]
/-- The number of the letters. -/
def num8 (d0 d1 d2 d3 d4 d5 d6 d7 : Nat) : Nat := ((((((d0 * 64 + d1) * 64 + d2) * 64 + d3) * 64 + d4) * 64 + d5) * 64 + d6) * 64 + d7
def num4 (d0 d1 d2 d3 : Nat) : Nat := ((d0 * 64 + d1) * 64 + d2) * 64 + d3
theorem asm64 (d0 d1 d2 d3 d4 d5 d6 d7 : Nat) (h0 : d0 < 64) (h1 : d1 < 64) (h2 : d2 < 64) (h3 : d3 < 64) (h4 : d4 < 64) (h5 : d5 < 64) (h6 : d6 < 64) (h7 : d7 < 64) : base64_assemble64.f (d0 : Int) (d1 : Int) (d2 : Int) (d3 : Int) (d4 : Int) (d5 : Int) (d6 : Int) (d7 : Int) = some (((num8 d0 d1 d2 d3 d4 d5 d6 d7 * 65536 : Nat) : Int), true) := by
  obtain ⟨c1, hc1, ec1⟩ := or_u8 d0 d1 h0 h1
  obtain ⟨c2, hc2, ec2⟩ := or_u8 c1 d2 hc1 h2
  obtain ⟨c3, hc3, ec3⟩ := or_u8 c2 d3 hc2 h3
  obtain ⟨c4, hc4, ec4⟩ := or_u8 c3 d4 hc3 h4
  obtain ⟨c5, hc5, ec5⟩ := or_u8 c4 d5 hc4 h5
  obtain ⟨c6, hc6, ec6⟩ := or_u8 c5 d6 hc5 h6
  obtain ⟨c7, hc7, ec7⟩ := or_u8 c6 d7 hc6 h7
  have f0 : IntKind.u64.wrap (IntKind.u64.wrap (d0 : Int) * 288230376151711744) = ((d0 * 288230376151711744 : Nat) : Int) := by
    rw [u64w d0 (by omega), show (d0 : Int) * 288230376151711744 = ((d0 * 288230376151711744 : Nat) : Int) by simp]
    exact u64w _ (by omega)
  have f1 : IntKind.u64.wrap (IntKind.u64.wrap (d1 : Int) * 4503599627370496) = ((d1 * 4503599627370496 : Nat) : Int) := by
    rw [u64w d1 (by omega), show (d1 : Int) * 4503599627370496 = ((d1 * 4503599627370496 : Nat) : Int) by simp]
    exact u64w _ (by omega)
  have f2 : IntKind.u64.wrap (IntKind.u64.wrap (d2 : Int) * 70368744177664) = ((d2 * 70368744177664 : Nat) : Int) := by
    rw [u64w d2 (by omega), show (d2 : Int) * 70368744177664 = ((d2 * 70368744177664 : Nat) : Int) by simp]
    exact u64w _ (by omega)
  have f3 : IntKind.u64.wrap (IntKind.u64.wrap (d3 : Int) * 1099511627776) = ((d3 * 1099511627776 : Nat) : Int) := by
    rw [u64w d3 (by omega), show (d3 : Int) * 1099511627776 = ((d3 * 1099511627776 : Nat) : Int) by simp]
    exact u64w _ (by omega)
  have f4 : IntKind.u64.wrap (IntKind.u64.wrap (d4 : Int) * 17179869184) = ((d4 * 17179869184 : Nat) : Int) := by
    rw [u64w d4 (by omega), show (d4 : Int) * 17179869184 = ((d4 * 17179869184 : Nat) : Int) by simp]
    exact u64w _ (by omega)
  have f5 : IntKind.u64.wrap (IntKind.u64.wrap (d5 : Int) * 268435456) = ((d5 * 268435456 : Nat) : Int) := by
    rw [u64w d5 (by omega), show (d5 : Int) * 268435456 = ((d5 * 268435456 : Nat) : Int) by simp]
    exact u64w _ (by omega)
  have f6 : IntKind.u64.wrap (IntKind.u64.wrap (d6 : Int) * 4194304) = ((d6 * 4194304 : Nat) : Int) := by
    rw [u64w d6 (by omega), show (d6 : Int) * 4194304 = ((d6 * 4194304 : Nat) : Int) by simp]
    exact u64w _ (by omega)
  have f7 : IntKind.u64.wrap (IntKind.u64.wrap (d7 : Int) * 65536) = ((d7 * 65536 : Nat) : Int) := by
    rw [u64w d7 (by omega), show (d7 : Int) * 65536 = ((d7 * 65536 : Nat) : Int) by simp]
    exact u64w _ (by omega)
  have g1 : bits BinOp.or IntKind.u64 ((d0 * 288230376151711744 : Nat) : Int) ((d1 * 4503599627370496 : Nat) : Int) = (((d0 * 64 + d1) * 4503599627370496 : Nat) : Int) := by
    rw [or_u64 _ _ (by omega) (by omega)]
    exact congrArg Int.ofNat (or_nat d0 d1 52 h1)
  have g2 : bits BinOp.or IntKind.u64 (((d0 * 64 + d1) * 4503599627370496 : Nat) : Int) ((d2 * 70368744177664 : Nat) : Int) = ((((d0 * 64 + d1) * 64 + d2) * 70368744177664 : Nat) : Int) := by
    rw [or_u64 _ _ (by omega) (by omega)]
    exact congrArg Int.ofNat (or_nat (d0 * 64 + d1) d2 46 h2)
  have g3 : bits BinOp.or IntKind.u64 ((((d0 * 64 + d1) * 64 + d2) * 70368744177664 : Nat) : Int) ((d3 * 1099511627776 : Nat) : Int) = (((((d0 * 64 + d1) * 64 + d2) * 64 + d3) * 1099511627776 : Nat) : Int) := by
    rw [or_u64 _ _ (by omega) (by omega)]
    exact congrArg Int.ofNat (or_nat ((d0 * 64 + d1) * 64 + d2) d3 40 h3)
  have g4 : bits BinOp.or IntKind.u64 (((((d0 * 64 + d1) * 64 + d2) * 64 + d3) * 1099511627776 : Nat) : Int) ((d4 * 17179869184 : Nat) : Int) = ((((((d0 * 64 + d1) * 64 + d2) * 64 + d3) * 64 + d4) * 17179869184 : Nat) : Int) := by
    rw [or_u64 _ _ (by omega) (by omega)]
    exact congrArg Int.ofNat (or_nat (((d0 * 64 + d1) * 64 + d2) * 64 + d3) d4 34 h4)
  have g5 : bits BinOp.or IntKind.u64 ((((((d0 * 64 + d1) * 64 + d2) * 64 + d3) * 64 + d4) * 17179869184 : Nat) : Int) ((d5 * 268435456 : Nat) : Int) = (((((((d0 * 64 + d1) * 64 + d2) * 64 + d3) * 64 + d4) * 64 + d5) * 268435456 : Nat) : Int) := by
    rw [or_u64 _ _ (by omega) (by omega)]
    exact congrArg Int.ofNat (or_nat ((((d0 * 64 + d1) * 64 + d2) * 64 + d3) * 64 + d4) d5 28 h5)
  have g6 : bits BinOp.or IntKind.u64 (((((((d0 * 64 + d1) * 64 + d2) * 64 + d3) * 64 + d4) * 64 + d5) * 268435456 : Nat) : Int) ((d6 * 4194304 : Nat) : Int) = ((((((((d0 * 64 + d1) * 64 + d2) * 64 + d3) * 64 + d4) * 64 + d5) * 64 + d6) * 4194304 : Nat) : Int) := by
    rw [or_u64 _ _ (by omega) (by omega)]
    exact congrArg Int.ofNat (or_nat (((((d0 * 64 + d1) * 64 + d2) * 64 + d3) * 64 + d4) * 64 + d5) d6 22 h6)
  have g7 : bits BinOp.or IntKind.u64 ((((((((d0 * 64 + d1) * 64 + d2) * 64 + d3) * 64 + d4) * 64 + d5) * 64 + d6) * 4194304 : Nat) : Int) ((d7 * 65536 : Nat) : Int) = (((((((((d0 * 64 + d1) * 64 + d2) * 64 + d3) * 64 + d4) * 64 + d5) * 64 + d6) * 64 + d7) * 65536 : Nat) : Int) := by
    rw [or_u64 _ _ (by omega) (by omega)]
    exact congrArg Int.ofNat (or_nat ((((((d0 * 64 + d1) * 64 + d2) * 64 + d3) * 64 + d4) * 64 + d5) * 64 + d6) d7 16 h7)
  unfold base64_assemble64.f num8
  rw [ec1, ec2, ec3, ec4, ec5, ec6, ec7, if_neg (by omega), f0, f1, f2, f3, f4, f5, f6, f7]
  exact congrArg some (Prod.ext (by rw [g1, g2, g3, g4, g5, g6, g7]) rfl)
theorem asm32 (d0 d1 d2 d3 : Nat) (h0 : d0 < 64) (h1 : d1 < 64) (h2 : d2 < 64) (h3 : d3 < 64) : base64_assemble32.f (d0 : Int) (d1 : Int) (d2 : Int) (d3 : Int) = some (((num4 d0 d1 d2 d3 * 256 : Nat) : Int), true) := by
  obtain ⟨c1, hc1, ec1⟩ := or_u8 d0 d1 h0 h1
  obtain ⟨c2, hc2, ec2⟩ := or_u8 c1 d2 hc1 h2
  obtain ⟨c3, hc3, ec3⟩ := or_u8 c2 d3 hc2 h3
  have f0 : (d0 : Int) % 4294967296 * 67108864 % 4294967296 = ((d0 * 67108864 : Nat) : Int) := by omega
  have f1 : (d1 : Int) % 4294967296 * 1048576 % 4294967296 = ((d1 * 1048576 : Nat) : Int) := by omega
  have f2 : (d2 : Int) % 4294967296 * 16384 % 4294967296 = ((d2 * 16384 : Nat) : Int) := by omega
  have f3 : (d3 : Int) % 4294967296 * 256 % 4294967296 = ((d3 * 256 : Nat) : Int) := by omega
  have g1 : bits BinOp.or IntKind.u32 ((d0 * 67108864 : Nat) : Int) ((d1 * 1048576 : Nat) : Int) = (((d0 * 64 + d1) * 1048576 : Nat) : Int) := by
    rw [or_u32 _ _ (by omega) (by omega)]
    exact congrArg Int.ofNat (or_nat d0 d1 20 h1)
  have g2 : bits BinOp.or IntKind.u32 (((d0 * 64 + d1) * 1048576 : Nat) : Int) ((d2 * 16384 : Nat) : Int) = ((((d0 * 64 + d1) * 64 + d2) * 16384 : Nat) : Int) := by
    rw [or_u32 _ _ (by omega) (by omega)]
    exact congrArg Int.ofNat (or_nat (d0 * 64 + d1) d2 14 h2)
  have g3 : bits BinOp.or IntKind.u32 ((((d0 * 64 + d1) * 64 + d2) * 16384 : Nat) : Int) ((d3 * 256 : Nat) : Int) = (((((d0 * 64 + d1) * 64 + d2) * 64 + d3) * 256 : Nat) : Int) := by
    rw [or_u32 _ _ (by omega) (by omega)]
    exact congrArg Int.ofNat (or_nat ((d0 * 64 + d1) * 64 + d2) d3 8 h3)
  unfold base64_assemble32.f num4
  rw [ec1, ec2, ec3, if_neg (by omega), f0, f1, f2, f3]
  exact congrArg some (Prod.ext (by rw [g1, g2, g3]) rfl)
theorem putp8_0 {P Z : List Nat} {x a  n : Nat} (h : P.length = n) : (P ++ a :: Z).set (n) x = P ++ x :: Z := by
  subst h
  simp [List.set_append]
theorem putp8_1 {P Z : List Nat} {x a b0 n : Nat} (h : P.length = n) : (P ++ b0 :: a :: Z).set (n + 1) x = P ++ b0 :: x :: Z := by
  subst h
  simp [List.set_append]
theorem putp8_2 {P Z : List Nat} {x a b0 b1 n : Nat} (h : P.length = n) : (P ++ b0 :: b1 :: a :: Z).set (n + 2) x = P ++ b0 :: b1 :: x :: Z := by
  subst h
  simp [List.set_append]
theorem putp8_3 {P Z : List Nat} {x a b0 b1 b2 n : Nat} (h : P.length = n) : (P ++ b0 :: b1 :: b2 :: a :: Z).set (n + 3) x = P ++ b0 :: b1 :: b2 :: x :: Z := by
  subst h
  simp [List.set_append]
theorem putp8_4 {P Z : List Nat} {x a b0 b1 b2 b3 n : Nat} (h : P.length = n) : (P ++ b0 :: b1 :: b2 :: b3 :: a :: Z).set (n + 4) x = P ++ b0 :: b1 :: b2 :: b3 :: x :: Z := by
  subst h
  simp [List.set_append]
theorem putp8_5 {P Z : List Nat} {x a b0 b1 b2 b3 b4 n : Nat} (h : P.length = n) : (P ++ b0 :: b1 :: b2 :: b3 :: b4 :: a :: Z).set (n + 5) x = P ++ b0 :: b1 :: b2 :: b3 :: b4 :: x :: Z := by
  subst h
  simp [List.set_append]
theorem putp8_6 {P Z : List Nat} {x a b0 b1 b2 b3 b4 b5 n : Nat} (h : P.length = n) : (P ++ b0 :: b1 :: b2 :: b3 :: b4 :: b5 :: a :: Z).set (n + 6) x = P ++ b0 :: b1 :: b2 :: b3 :: b4 :: b5 :: x :: Z := by
  subst h
  simp [List.set_append]
theorem putp8_7 {P Z : List Nat} {x a b0 b1 b2 b3 b4 b5 b6 n : Nat} (h : P.length = n) : (P ++ b0 :: b1 :: b2 :: b3 :: b4 :: b5 :: b6 :: a :: Z).set (n + 7) x = P ++ b0 :: b1 :: b2 :: b3 :: b4 :: b5 :: b6 :: x :: Z := by
  subst h
  simp [List.set_append]
set_option maxHeartbeats 8000000 in
theorem put64_walk (db n ln cp v : Nat) (P Z : List Nat) (a0 a1 a2 a3 a4 a5 a6 a7 : Nat) (hv : v < 18446744073709551616) (hP : P.length = n) (hn : n ≤ 100000) (hl : 8 ≤ ln) (hlc : ln ≤ cp) (w : World) (hD : RowU w db (P ++ a0 :: a1 :: a2 :: a3 :: a4 :: a5 :: a6 :: a7 :: Z)) :
    Calls Try.prog 40 #[.slice (some ⟨db, n, none⟩) ln cp, .int .u64 (v : Int)] w fun e w' => e = .returned (.tuple #[]) ∧ RowU w' db (P ++ (v / 72057594037927936 % 256) :: (v / 281474976710656 % 256) :: (v / 1099511627776 % 256) :: (v / 4294967296 % 256) :: (v / 16777216 % 256) :: (v / 65536 % 256) :: (v / 256 % 256) :: (v % 256) :: Z) ∧ (∀ b, b ≠ db → w'.heap[b]? = w.heap[b]?) ∧ Below db w w' := by
  obtain ⟨c0, hc0⟩ : ∃ c, c = v / 72057594037927936 % 256 := ⟨_, rfl⟩
  have e0 : IntKind.u8.wrap ((v : Int) / 72057594037927936) = (c0 : Int) := by show (((v : Int) / 72057594037927936)) % (2 ^ 8 : Int) = c0; omega
  have e0' : (v : Int) / 72057594037927936 % 256 = (c0 : Int) := by omega
  obtain ⟨c1, hc1⟩ : ∃ c, c = v / 281474976710656 % 256 := ⟨_, rfl⟩
  have e1 : IntKind.u8.wrap ((v : Int) / 281474976710656) = (c1 : Int) := by show (((v : Int) / 281474976710656)) % (2 ^ 8 : Int) = c1; omega
  have e1' : (v : Int) / 281474976710656 % 256 = (c1 : Int) := by omega
  obtain ⟨c2, hc2⟩ : ∃ c, c = v / 1099511627776 % 256 := ⟨_, rfl⟩
  have e2 : IntKind.u8.wrap ((v : Int) / 1099511627776) = (c2 : Int) := by show (((v : Int) / 1099511627776)) % (2 ^ 8 : Int) = c2; omega
  have e2' : (v : Int) / 1099511627776 % 256 = (c2 : Int) := by omega
  obtain ⟨c3, hc3⟩ : ∃ c, c = v / 4294967296 % 256 := ⟨_, rfl⟩
  have e3 : IntKind.u8.wrap ((v : Int) / 4294967296) = (c3 : Int) := by show (((v : Int) / 4294967296)) % (2 ^ 8 : Int) = c3; omega
  have e3' : (v : Int) / 4294967296 % 256 = (c3 : Int) := by omega
  obtain ⟨c4, hc4⟩ : ∃ c, c = v / 16777216 % 256 := ⟨_, rfl⟩
  have e4 : IntKind.u8.wrap ((v : Int) / 16777216) = (c4 : Int) := by show (((v : Int) / 16777216)) % (2 ^ 8 : Int) = c4; omega
  have e4' : (v : Int) / 16777216 % 256 = (c4 : Int) := by omega
  obtain ⟨c5, hc5⟩ : ∃ c, c = v / 65536 % 256 := ⟨_, rfl⟩
  have e5 : IntKind.u8.wrap ((v : Int) / 65536) = (c5 : Int) := by show (((v : Int) / 65536)) % (2 ^ 8 : Int) = c5; omega
  have e5' : (v : Int) / 65536 % 256 = (c5 : Int) := by omega
  obtain ⟨c6, hc6⟩ : ∃ c, c = v / 256 % 256 := ⟨_, rfl⟩
  have e6 : IntKind.u8.wrap ((v : Int) / 256) = (c6 : Int) := by show (((v : Int) / 256)) % (2 ^ 8 : Int) = c6; omega
  have e6' : (v : Int) / 256 % 256 = (c6 : Int) := by omega
  obtain ⟨c7, hc7⟩ : ∃ c, c = v % 256 := ⟨_, rfl⟩
  have e7 : IntKind.u8.wrap (v : Int) = (c7 : Int) := by show ((v : Int)) % (2 ^ 8 : Int) = c7; omega
  have e7' : (v : Int) % 256 = (c7 : Int) := by omega
  rw [← hc0, ← hc1, ← hc2, ← hc3, ← hc4, ← hc5, ← hc6, ← hc7]
  have y : ∀ j : Nat, j < 8 → j < ln := fun j h => by omega
  have y0 : (0 : Int) < (ln : Int) := by omega
  have y1 : (1 : Int) < (ln : Int) := by omega
  have y2 : (2 : Int) < (ln : Int) := by omega
  have y3 : (3 : Int) < (ln : Int) := by omega
  have y4 : (4 : Int) < (ln : Int) := by omega
  have y5 : (5 : Int) < (ln : Int) := by omega
  have y6 : (6 : Int) < (ln : Int) := by omega
  have y7 : (7 : Int) < (ln : Int) := by omega
  have HP := Lib.hid hP
  have HL := Lib.hid (And.intro hl hlc)
  have HR0 := Lib.hid hD
  have HO0 : Hid (∀ b, b ≠ db → w.heap[b]? = w.heap[b]?) := Lib.hid (fun _ _ => rfl)
  have HB0 : Hid (Below db w w) := Lib.hid (Below.refl _ _)
  have q0 : w.cell? ⟨db, n + 7, none⟩ = some (.int .u8 (a7 : Int)) := hD.cell _ _ (by rw [List.getElem?_append_right (by rw [HP.out]; omega), HP.out, show n + 7 - n = 7 by omega]; rfl)
  clear hc0 hc1 hc2 hc3 hc4 hc5 hc6 hc7 hP hl hlc hD y
  go_enter Try.func40, Try.ntmps40
  go_upto_region 1 with fail
  clear q0
  have cD : w.cell? ⟨db, n, none⟩ = some (.int .u8 (a0 : Int)) := HR0.out.cell _ _ (by rw [List.getElem?_append_right (by rw [HP.out]; omega), HP.out, show n - n = 0 by omega]; rfl)
  have fD : w.frozen? ⟨db, n, none⟩ = false := HR0.out.free _
  go_upto_region 2 with fail
  obtain ⟨w1, hW_⟩ : ∃ W_, W_ = w.setCell ⟨db, n, none⟩ (.int .u8 (c0 : Int)) := ⟨_, rfl⟩
  rw [← hW_]
  have HR1 : Hid (RowU w1 db (P ++ c0 :: a1 :: a2 :: a3 :: a4 :: a5 :: a6 :: a7 :: Z)) := Lib.hid (by
    have h_ := HR0.out.store (n) c0
    rw [putp8_0 HP.out] at h_
    rw [hW_]; exact h_)
  have HO1 : Hid (∀ b, b ≠ db → w1.heap[b]? = w.heap[b]?) := Lib.hid (fun b hb => by rw [hW_]; exact (Below.heap_setCell w ⟨db, n, none⟩ (.int .u8 (c0 : Int)) b (by simpa using hb)).trans (HO0.out b hb))
  have HB1 : Hid (Below db w w1) := Lib.hid (by rw [hW_]; exact HB0.out.setCell (p := ⟨db, n, none⟩) (Nat.le_refl db) _)
  clear hW_ cD fD HR0 HO0 HB0
  have cD : w1.cell? ⟨db, n + 1, none⟩ = some (.int .u8 (a1 : Int)) := HR1.out.cell _ _ (by rw [List.getElem?_append_right (by rw [HP.out]; omega), HP.out, show n + 1 - n = 1 by omega]; rfl)
  have fD : w1.frozen? ⟨db, n + 1, none⟩ = false := HR1.out.free _
  go_upto_region 3 with fail
  obtain ⟨w2, hW_⟩ : ∃ W_, W_ = w1.setCell ⟨db, n + 1, none⟩ (.int .u8 (c1 : Int)) := ⟨_, rfl⟩
  rw [← hW_]
  have HR2 : Hid (RowU w2 db (P ++ c0 :: c1 :: a2 :: a3 :: a4 :: a5 :: a6 :: a7 :: Z)) := Lib.hid (by
    have h_ := HR1.out.store (n + 1) c1
    rw [putp8_1 HP.out] at h_
    rw [hW_]; exact h_)
  have HO2 : Hid (∀ b, b ≠ db → w2.heap[b]? = w.heap[b]?) := Lib.hid (fun b hb => by rw [hW_]; exact (Below.heap_setCell w1 ⟨db, n + 1, none⟩ (.int .u8 (c1 : Int)) b (by simpa using hb)).trans (HO1.out b hb))
  have HB2 : Hid (Below db w w2) := Lib.hid (by rw [hW_]; exact HB1.out.setCell (p := ⟨db, n + 1, none⟩) (Nat.le_refl db) _)
  clear hW_ cD fD HR1 HO1 HB1
  have cD : w2.cell? ⟨db, n + 2, none⟩ = some (.int .u8 (a2 : Int)) := HR2.out.cell _ _ (by rw [List.getElem?_append_right (by rw [HP.out]; omega), HP.out, show n + 2 - n = 2 by omega]; rfl)
  have fD : w2.frozen? ⟨db, n + 2, none⟩ = false := HR2.out.free _
  go_upto_region 4 with fail
  obtain ⟨w3, hW_⟩ : ∃ W_, W_ = w2.setCell ⟨db, n + 2, none⟩ (.int .u8 (c2 : Int)) := ⟨_, rfl⟩
  rw [← hW_]
  have HR3 : Hid (RowU w3 db (P ++ c0 :: c1 :: c2 :: a3 :: a4 :: a5 :: a6 :: a7 :: Z)) := Lib.hid (by
    have h_ := HR2.out.store (n + 2) c2
    rw [putp8_2 HP.out] at h_
    rw [hW_]; exact h_)
  have HO3 : Hid (∀ b, b ≠ db → w3.heap[b]? = w.heap[b]?) := Lib.hid (fun b hb => by rw [hW_]; exact (Below.heap_setCell w2 ⟨db, n + 2, none⟩ (.int .u8 (c2 : Int)) b (by simpa using hb)).trans (HO2.out b hb))
  have HB3 : Hid (Below db w w3) := Lib.hid (by rw [hW_]; exact HB2.out.setCell (p := ⟨db, n + 2, none⟩) (Nat.le_refl db) _)
  clear hW_ cD fD HR2 HO2 HB2
  have cD : w3.cell? ⟨db, n + 3, none⟩ = some (.int .u8 (a3 : Int)) := HR3.out.cell _ _ (by rw [List.getElem?_append_right (by rw [HP.out]; omega), HP.out, show n + 3 - n = 3 by omega]; rfl)
  have fD : w3.frozen? ⟨db, n + 3, none⟩ = false := HR3.out.free _
  go_upto_region 5 with fail
  obtain ⟨w4, hW_⟩ : ∃ W_, W_ = w3.setCell ⟨db, n + 3, none⟩ (.int .u8 (c3 : Int)) := ⟨_, rfl⟩
  rw [← hW_]
  have HR4 : Hid (RowU w4 db (P ++ c0 :: c1 :: c2 :: c3 :: a4 :: a5 :: a6 :: a7 :: Z)) := Lib.hid (by
    have h_ := HR3.out.store (n + 3) c3
    rw [putp8_3 HP.out] at h_
    rw [hW_]; exact h_)
  have HO4 : Hid (∀ b, b ≠ db → w4.heap[b]? = w.heap[b]?) := Lib.hid (fun b hb => by rw [hW_]; exact (Below.heap_setCell w3 ⟨db, n + 3, none⟩ (.int .u8 (c3 : Int)) b (by simpa using hb)).trans (HO3.out b hb))
  have HB4 : Hid (Below db w w4) := Lib.hid (by rw [hW_]; exact HB3.out.setCell (p := ⟨db, n + 3, none⟩) (Nat.le_refl db) _)
  clear hW_ cD fD HR3 HO3 HB3
  have cD : w4.cell? ⟨db, n + 4, none⟩ = some (.int .u8 (a4 : Int)) := HR4.out.cell _ _ (by rw [List.getElem?_append_right (by rw [HP.out]; omega), HP.out, show n + 4 - n = 4 by omega]; rfl)
  have fD : w4.frozen? ⟨db, n + 4, none⟩ = false := HR4.out.free _
  go_upto_region 6 with fail
  obtain ⟨w5, hW_⟩ : ∃ W_, W_ = w4.setCell ⟨db, n + 4, none⟩ (.int .u8 (c4 : Int)) := ⟨_, rfl⟩
  rw [← hW_]
  have HR5 : Hid (RowU w5 db (P ++ c0 :: c1 :: c2 :: c3 :: c4 :: a5 :: a6 :: a7 :: Z)) := Lib.hid (by
    have h_ := HR4.out.store (n + 4) c4
    rw [putp8_4 HP.out] at h_
    rw [hW_]; exact h_)
  have HO5 : Hid (∀ b, b ≠ db → w5.heap[b]? = w.heap[b]?) := Lib.hid (fun b hb => by rw [hW_]; exact (Below.heap_setCell w4 ⟨db, n + 4, none⟩ (.int .u8 (c4 : Int)) b (by simpa using hb)).trans (HO4.out b hb))
  have HB5 : Hid (Below db w w5) := Lib.hid (by rw [hW_]; exact HB4.out.setCell (p := ⟨db, n + 4, none⟩) (Nat.le_refl db) _)
  clear hW_ cD fD HR4 HO4 HB4
  have cD : w5.cell? ⟨db, n + 5, none⟩ = some (.int .u8 (a5 : Int)) := HR5.out.cell _ _ (by rw [List.getElem?_append_right (by rw [HP.out]; omega), HP.out, show n + 5 - n = 5 by omega]; rfl)
  have fD : w5.frozen? ⟨db, n + 5, none⟩ = false := HR5.out.free _
  go_upto_region 7 with fail
  obtain ⟨w6, hW_⟩ : ∃ W_, W_ = w5.setCell ⟨db, n + 5, none⟩ (.int .u8 (c5 : Int)) := ⟨_, rfl⟩
  rw [← hW_]
  have HR6 : Hid (RowU w6 db (P ++ c0 :: c1 :: c2 :: c3 :: c4 :: c5 :: a6 :: a7 :: Z)) := Lib.hid (by
    have h_ := HR5.out.store (n + 5) c5
    rw [putp8_5 HP.out] at h_
    rw [hW_]; exact h_)
  have HO6 : Hid (∀ b, b ≠ db → w6.heap[b]? = w.heap[b]?) := Lib.hid (fun b hb => by rw [hW_]; exact (Below.heap_setCell w5 ⟨db, n + 5, none⟩ (.int .u8 (c5 : Int)) b (by simpa using hb)).trans (HO5.out b hb))
  have HB6 : Hid (Below db w w6) := Lib.hid (by rw [hW_]; exact HB5.out.setCell (p := ⟨db, n + 5, none⟩) (Nat.le_refl db) _)
  clear hW_ cD fD HR5 HO5 HB5
  have cD : w6.cell? ⟨db, n + 6, none⟩ = some (.int .u8 (a6 : Int)) := HR6.out.cell _ _ (by rw [List.getElem?_append_right (by rw [HP.out]; omega), HP.out, show n + 6 - n = 6 by omega]; rfl)
  have fD : w6.frozen? ⟨db, n + 6, none⟩ = false := HR6.out.free _
  go_upto_region 8 with fail
  obtain ⟨w7, hW_⟩ : ∃ W_, W_ = w6.setCell ⟨db, n + 6, none⟩ (.int .u8 (c6 : Int)) := ⟨_, rfl⟩
  rw [← hW_]
  have HR7 : Hid (RowU w7 db (P ++ c0 :: c1 :: c2 :: c3 :: c4 :: c5 :: c6 :: a7 :: Z)) := Lib.hid (by
    have h_ := HR6.out.store (n + 6) c6
    rw [putp8_6 HP.out] at h_
    rw [hW_]; exact h_)
  have HO7 : Hid (∀ b, b ≠ db → w7.heap[b]? = w.heap[b]?) := Lib.hid (fun b hb => by rw [hW_]; exact (Below.heap_setCell w6 ⟨db, n + 6, none⟩ (.int .u8 (c6 : Int)) b (by simpa using hb)).trans (HO6.out b hb))
  have HB7 : Hid (Below db w w7) := Lib.hid (by rw [hW_]; exact HB6.out.setCell (p := ⟨db, n + 6, none⟩) (Nat.le_refl db) _)
  clear hW_ cD fD HR6 HO6 HB6
  have cD : w7.cell? ⟨db, n + 7, none⟩ = some (.int .u8 (a7 : Int)) := HR7.out.cell _ _ (by rw [List.getElem?_append_right (by rw [HP.out]; omega), HP.out, show n + 7 - n = 7 by omega]; rfl)
  have fD : w7.frozen? ⟨db, n + 7, none⟩ = false := HR7.out.free _
  go_wp2_with fail
  obtain ⟨w8, hW_⟩ : ∃ W_, W_ = w7.setCell ⟨db, n + 7, none⟩ (.int .u8 (c7 : Int)) := ⟨_, rfl⟩
  rw [← hW_]
  have HR8 : Hid (RowU w8 db (P ++ c0 :: c1 :: c2 :: c3 :: c4 :: c5 :: c6 :: c7 :: Z)) := Lib.hid (by
    have h_ := HR7.out.store (n + 7) c7
    rw [putp8_7 HP.out] at h_
    rw [hW_]; exact h_)
  have HO8 : Hid (∀ b, b ≠ db → w8.heap[b]? = w.heap[b]?) := Lib.hid (fun b hb => by rw [hW_]; exact (Below.heap_setCell w7 ⟨db, n + 7, none⟩ (.int .u8 (c7 : Int)) b (by simpa using hb)).trans (HO7.out b hb))
  have HB8 : Hid (Below db w w8) := Lib.hid (by rw [hW_]; exact HB7.out.setCell (p := ⟨db, n + 7, none⟩) (Nat.le_refl db) _)
  clear hW_ cD fD HR7 HO7 HB7
  go_end0
  exact ⟨rfl, HR8.out, HO8.out, HB8.out⟩
theorem putp4_0 {P Z : List Nat} {x a  n : Nat} (h : P.length = n) : (P ++ a :: Z).set (n) x = P ++ x :: Z := by
  subst h
  simp [List.set_append]
theorem putp4_1 {P Z : List Nat} {x a b0 n : Nat} (h : P.length = n) : (P ++ b0 :: a :: Z).set (n + 1) x = P ++ b0 :: x :: Z := by
  subst h
  simp [List.set_append]
theorem putp4_2 {P Z : List Nat} {x a b0 b1 n : Nat} (h : P.length = n) : (P ++ b0 :: b1 :: a :: Z).set (n + 2) x = P ++ b0 :: b1 :: x :: Z := by
  subst h
  simp [List.set_append]
theorem putp4_3 {P Z : List Nat} {x a b0 b1 b2 n : Nat} (h : P.length = n) : (P ++ b0 :: b1 :: b2 :: a :: Z).set (n + 3) x = P ++ b0 :: b1 :: b2 :: x :: Z := by
  subst h
  simp [List.set_append]
set_option maxHeartbeats 8000000 in
theorem put32_walk (db n ln cp v : Nat) (P Z : List Nat) (a0 a1 a2 a3 : Nat) (hv : v < 4294967296) (hP : P.length = n) (hn : n ≤ 100000) (hl : 4 ≤ ln) (hlc : ln ≤ cp) (w : World) (hD : RowU w db (P ++ a0 :: a1 :: a2 :: a3 :: Z)) :
    Calls Try.prog 43 #[.slice (some ⟨db, n, none⟩) ln cp, .int .u32 (v : Int)] w fun e w' => e = .returned (.tuple #[]) ∧ RowU w' db (P ++ (v / 16777216 % 256) :: (v / 65536 % 256) :: (v / 256 % 256) :: (v % 256) :: Z) ∧ (∀ b, b ≠ db → w'.heap[b]? = w.heap[b]?) ∧ Below db w w' := by
  obtain ⟨c0, hc0⟩ : ∃ c, c = v / 16777216 % 256 := ⟨_, rfl⟩
  have e0 : IntKind.u8.wrap ((v : Int) / 16777216) = (c0 : Int) := by show (((v : Int) / 16777216)) % (2 ^ 8 : Int) = c0; omega
  have e0' : (v : Int) / 16777216 % 256 = (c0 : Int) := by omega
  obtain ⟨c1, hc1⟩ : ∃ c, c = v / 65536 % 256 := ⟨_, rfl⟩
  have e1 : IntKind.u8.wrap ((v : Int) / 65536) = (c1 : Int) := by show (((v : Int) / 65536)) % (2 ^ 8 : Int) = c1; omega
  have e1' : (v : Int) / 65536 % 256 = (c1 : Int) := by omega
  obtain ⟨c2, hc2⟩ : ∃ c, c = v / 256 % 256 := ⟨_, rfl⟩
  have e2 : IntKind.u8.wrap ((v : Int) / 256) = (c2 : Int) := by show (((v : Int) / 256)) % (2 ^ 8 : Int) = c2; omega
  have e2' : (v : Int) / 256 % 256 = (c2 : Int) := by omega
  obtain ⟨c3, hc3⟩ : ∃ c, c = v % 256 := ⟨_, rfl⟩
  have e3 : IntKind.u8.wrap (v : Int) = (c3 : Int) := by show ((v : Int)) % (2 ^ 8 : Int) = c3; omega
  have e3' : (v : Int) % 256 = (c3 : Int) := by omega
  rw [← hc0, ← hc1, ← hc2, ← hc3]
  have y : ∀ j : Nat, j < 4 → j < ln := fun j h => by omega
  have y0 : (0 : Int) < (ln : Int) := by omega
  have y1 : (1 : Int) < (ln : Int) := by omega
  have y2 : (2 : Int) < (ln : Int) := by omega
  have y3 : (3 : Int) < (ln : Int) := by omega
  have HP := Lib.hid hP
  have HL := Lib.hid (And.intro hl hlc)
  have HR0 := Lib.hid hD
  have HO0 : Hid (∀ b, b ≠ db → w.heap[b]? = w.heap[b]?) := Lib.hid (fun _ _ => rfl)
  have HB0 : Hid (Below db w w) := Lib.hid (Below.refl _ _)
  have q0 : w.cell? ⟨db, n + 3, none⟩ = some (.int .u8 (a3 : Int)) := hD.cell _ _ (by rw [List.getElem?_append_right (by rw [HP.out]; omega), HP.out, show n + 3 - n = 3 by omega]; rfl)
  clear hc0 hc1 hc2 hc3 hP hl hlc hD y
  go_enter Try.func43, Try.ntmps43
  go_upto_region 1 with fail
  clear q0
  have cD : w.cell? ⟨db, n, none⟩ = some (.int .u8 (a0 : Int)) := HR0.out.cell _ _ (by rw [List.getElem?_append_right (by rw [HP.out]; omega), HP.out, show n - n = 0 by omega]; rfl)
  have fD : w.frozen? ⟨db, n, none⟩ = false := HR0.out.free _
  go_upto_region 2 with fail
  obtain ⟨w1, hW_⟩ : ∃ W_, W_ = w.setCell ⟨db, n, none⟩ (.int .u8 (c0 : Int)) := ⟨_, rfl⟩
  rw [← hW_]
  have HR1 : Hid (RowU w1 db (P ++ c0 :: a1 :: a2 :: a3 :: Z)) := Lib.hid (by
    have h_ := HR0.out.store (n) c0
    rw [putp4_0 HP.out] at h_
    rw [hW_]; exact h_)
  have HO1 : Hid (∀ b, b ≠ db → w1.heap[b]? = w.heap[b]?) := Lib.hid (fun b hb => by rw [hW_]; exact (Below.heap_setCell w ⟨db, n, none⟩ (.int .u8 (c0 : Int)) b (by simpa using hb)).trans (HO0.out b hb))
  have HB1 : Hid (Below db w w1) := Lib.hid (by rw [hW_]; exact HB0.out.setCell (p := ⟨db, n, none⟩) (Nat.le_refl db) _)
  clear hW_ cD fD HR0 HO0 HB0
  have cD : w1.cell? ⟨db, n + 1, none⟩ = some (.int .u8 (a1 : Int)) := HR1.out.cell _ _ (by rw [List.getElem?_append_right (by rw [HP.out]; omega), HP.out, show n + 1 - n = 1 by omega]; rfl)
  have fD : w1.frozen? ⟨db, n + 1, none⟩ = false := HR1.out.free _
  go_upto_region 3 with fail
  obtain ⟨w2, hW_⟩ : ∃ W_, W_ = w1.setCell ⟨db, n + 1, none⟩ (.int .u8 (c1 : Int)) := ⟨_, rfl⟩
  rw [← hW_]
  have HR2 : Hid (RowU w2 db (P ++ c0 :: c1 :: a2 :: a3 :: Z)) := Lib.hid (by
    have h_ := HR1.out.store (n + 1) c1
    rw [putp4_1 HP.out] at h_
    rw [hW_]; exact h_)
  have HO2 : Hid (∀ b, b ≠ db → w2.heap[b]? = w.heap[b]?) := Lib.hid (fun b hb => by rw [hW_]; exact (Below.heap_setCell w1 ⟨db, n + 1, none⟩ (.int .u8 (c1 : Int)) b (by simpa using hb)).trans (HO1.out b hb))
  have HB2 : Hid (Below db w w2) := Lib.hid (by rw [hW_]; exact HB1.out.setCell (p := ⟨db, n + 1, none⟩) (Nat.le_refl db) _)
  clear hW_ cD fD HR1 HO1 HB1
  have cD : w2.cell? ⟨db, n + 2, none⟩ = some (.int .u8 (a2 : Int)) := HR2.out.cell _ _ (by rw [List.getElem?_append_right (by rw [HP.out]; omega), HP.out, show n + 2 - n = 2 by omega]; rfl)
  have fD : w2.frozen? ⟨db, n + 2, none⟩ = false := HR2.out.free _
  go_upto_region 4 with fail
  obtain ⟨w3, hW_⟩ : ∃ W_, W_ = w2.setCell ⟨db, n + 2, none⟩ (.int .u8 (c2 : Int)) := ⟨_, rfl⟩
  rw [← hW_]
  have HR3 : Hid (RowU w3 db (P ++ c0 :: c1 :: c2 :: a3 :: Z)) := Lib.hid (by
    have h_ := HR2.out.store (n + 2) c2
    rw [putp4_2 HP.out] at h_
    rw [hW_]; exact h_)
  have HO3 : Hid (∀ b, b ≠ db → w3.heap[b]? = w.heap[b]?) := Lib.hid (fun b hb => by rw [hW_]; exact (Below.heap_setCell w2 ⟨db, n + 2, none⟩ (.int .u8 (c2 : Int)) b (by simpa using hb)).trans (HO2.out b hb))
  have HB3 : Hid (Below db w w3) := Lib.hid (by rw [hW_]; exact HB2.out.setCell (p := ⟨db, n + 2, none⟩) (Nat.le_refl db) _)
  clear hW_ cD fD HR2 HO2 HB2
  have cD : w3.cell? ⟨db, n + 3, none⟩ = some (.int .u8 (a3 : Int)) := HR3.out.cell _ _ (by rw [List.getElem?_append_right (by rw [HP.out]; omega), HP.out, show n + 3 - n = 3 by omega]; rfl)
  have fD : w3.frozen? ⟨db, n + 3, none⟩ = false := HR3.out.free _
  go_wp2_with fail
  obtain ⟨w4, hW_⟩ : ∃ W_, W_ = w3.setCell ⟨db, n + 3, none⟩ (.int .u8 (c3 : Int)) := ⟨_, rfl⟩
  rw [← hW_]
  have HR4 : Hid (RowU w4 db (P ++ c0 :: c1 :: c2 :: c3 :: Z)) := Lib.hid (by
    have h_ := HR3.out.store (n + 3) c3
    rw [putp4_3 HP.out] at h_
    rw [hW_]; exact h_)
  have HO4 : Hid (∀ b, b ≠ db → w4.heap[b]? = w.heap[b]?) := Lib.hid (fun b hb => by rw [hW_]; exact (Below.heap_setCell w3 ⟨db, n + 3, none⟩ (.int .u8 (c3 : Int)) b (by simpa using hb)).trans (HO3.out b hb))
  have HB4 : Hid (Below db w w4) := Lib.hid (by rw [hW_]; exact HB3.out.setCell (p := ⟨db, n + 3, none⟩) (Nat.le_refl db) _)
  clear hW_ cD fD HR3 HO3 HB3
  go_end0
  exact ⟨rfl, HR4.out, HO4.out, HB4.out⟩
end Go.Proofs.Ytoaalpkeepjhmaa.B6
