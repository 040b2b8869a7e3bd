/- base64: the reference, plain: it is the text of bytes. -/
import Derived.Test.YtoaalpkeepjhmaaB6EncS
import Derived.Test.YtoaalpkeepjhmaaPFnBase64x1
namespace Go.Proofs.Ytoaalpkeepjhmaa.B6
open Go.RowKit Go.Proofs.YtoaalpkeepjhmaaW.PrintWords Go.Proofs.Ytoaalpkeepjhmaa.Txt Go.Proofs.Ytoaalpkeepjhmaa.PFnBase64
set_option linter.unusedVariables false
set_option linter.unusedSimpArgs false
set_option maxRecDepth 100000
theorem alpha_cut (q : Nat) (h : q < 64) : alpha.extract q (q + 1) = tx [sgn q] := by
  have : ∀ q : Fin 64, alpha.extract q.val (q.val + 1) = tx [sgn q.val] := by decide +kernel
  exact this ⟨q, h⟩
theorem tx_app (a b : List Nat) : tx a ++ tx b = tx (a ++ b) := by
  apply ext_eq
  rw [tl_append]
  unfold tx
  rw [Lib.toList_data, Lib.toList_data, Lib.toList_data]
  simp
theorem tx_size (a : List Nat) : (tx a).size = a.length := by
  unfold tx; show (a.map UInt8.ofNat).toArray.size = _; simp
theorem i64w (x : Nat) (h : x < 9223372036854775808) : IntKind.i64.wrap (x : Int) = (x : Int) := by
  show (if true && decide ((x : Int) % (2 ^ 64 : Int) ≥ (2 ^ 63 : Int)) then (x : Int) % (2 ^ 64 : Int) - (2 ^ 64 : Int) else (x : Int) % (2 ^ 64 : Int)) = x
  rw [decide_eq_false (by omega)]; simp only [Bool.and_false, Bool.false_eq_true, if_false]; omega
theorem bv (a : Nat) (h : a < 9223372036854775808) : (BitVec.ofInt 64 (a : Int)).toNat = a := by
  rw [BitVec.ofInt_natCast, BitVec.toNat_ofNat]; exact Nat.mod_eq_of_lt (by omega)
theorem or_i64 (a b k : Nat) (ha : a * 2 ^ k < 4294967296) (hb : b < 2 ^ k) (hb2 : b < 4294967296) : bits BinOp.or IntKind.i64 ((a * 2 ^ k : Nat) : Int) (b : Int) = ((a * 2 ^ k + b : Nat) : Int) := by
  have e : (BitVec.ofInt 64 ((a * 2 ^ k : Nat) : Int) ||| BitVec.ofInt 64 (b : Int)).toNat = a * 2 ^ k + b := by
    rw [BitVec.toNat_or, bv _ (by omega), bv _ (by omega)]; exact or_add a b k hb
  show IntKind.i64.wrap ((BitVec.ofInt 64 ((a * 2 ^ k : Nat) : Int) ||| BitVec.ofInt 64 (b : Int)).toNat : Int) = _
  rw [e]; exact i64w _ (by omega)
theorem and_i64 (a d : Nat) (ha : a < 4294967296) (hd : 2 ^ d < 4294967296) : bits BinOp.and IntKind.i64 (a : Int) ((2 ^ d - 1 : Nat) : Int) = ((a % 2 ^ d : Nat) : Int) := by
  have e : (BitVec.ofInt 64 (a : Int) &&& BitVec.ofInt 64 ((2 ^ d - 1 : Nat) : Int)).toNat = a % 2 ^ d := by
    rw [BitVec.toNat_and, bv _ (by omega), bv _ (by omega), Nat.and_two_pow_sub_one_eq_mod]
  show IntKind.i64.wrap ((BitVec.ofInt 64 (a : Int) &&& BitVec.ofInt 64 ((2 ^ d - 1 : Nat) : Int)).toNat : Int) = _
  rw [e]
  have := Nat.mod_le a (2 ^ d)
  exact i64w _ (by omega)
theorem l1_emit (s out out' : ByteArray) (h d i k q h' : Nat) (hd : d ≤ 6) (hh : h < 4096) (hqe : q = h / 2 ^ d) (hq : q < 64) (hhe : h' = h % 2 ^ d) (ho : out.size ≤ 10000) (hoe : out' = out ++ tx [sgn q]) :
    spec_encoded.l1 (k + 1) s alpha 6 4 out (h : Int) ((d + 6 : Nat) : Int) (i : Int) = spec_encoded.l1 k s alpha 6 4 out' (h' : Int) (d : Int) (i : Int) := by
  have e1 : wrap64 (((d + 6 : Nat) : Int) - 6) = (d : Int) := by rw [w64 (by omega) (by omega)]; omega
  have e2 : shr .i64 (h : Int) (d : Int) = (q : Int) := by
    unfold shr
    rw [Int.toNat_natCast, Nat.min_eq_left (by show d ≤ 64; omega), hqe, Int.natCast_ediv]; simp
  have e3 : wrap64 ((q : Int) + 1) = ((q + 1 : Nat) : Int) := wsucc _ (by omega)
  have h2 : 2 ^ d ≤ 2 ^ 6 := Nat.pow_le_pow_right (by decide) hd
  have hp : 0 < 2 ^ d := Nat.two_pow_pos d
  have e4 : shl .i64 1 (d : Int) = ((2 ^ d : Nat) : Int) := by
    unfold shl
    rw [Int.toNat_natCast, Nat.min_eq_left (by show d ≤ 64; omega)]
    have : (1 : Int) * 2 ^ d = ((2 ^ d : Nat) : Int) := by simp
    rw [this]
    exact i64w _ (by omega)
  have e5 : wrap64 (((2 ^ d : Nat) : Int) - 1) = ((2 ^ d - 1 : Nat) : Int) := by rw [w64 (by omega) (by omega)]; omega
  have e6 := and_i64 h d (by omega) (by omega)
  rw [← hhe] at e6
  have e7 : alpha.extract ((q : Int)).toNat (((q + 1 : Nat) : Int)).toNat = tx [sgn q] := by rw [Int.toNat_natCast, Int.toNat_natCast]; exact alpha_cut _ hq
  have e8 : (tx [sgn q]).size = 1 := tx_size _
  have e9 : alpha.size = 64 := alpha_size
  clear hqe hhe h2 hp
  simp only [spec_encoded.l1]
  rw [e1, e2, e3, e4, e5, e6, e7, e8, e9, ← hoe]
  clear e1 e2 e3 e4 e5 e6 e7
  rw [if_pos (by omega), if_pos (by omega), if_pos (by omega), if_pos (by omega), if_pos (by omega), if_pos (by omega)]
theorem l1_end (s out : ByteArray) (h m i k : Nat) (hm : m < 6) (hi : i ≤ 10000) :
    spec_encoded.l1 (k + 1) s alpha 6 4 out (h : Int) (m : Int) (i : Int) = spec_encoded.l0 k s alpha 6 4 out (h : Int) (m : Int) ((i + 1 : Nat) : Int) := by
  simp only [spec_encoded.l1]
  rw [if_neg (by omega), wsucc _ (by omega)]
theorem bt_nat (s : ByteArray) (i : Nat) (h : i < s.toList.length) : bt s (i : Int) = ((s.toList[i]'h).toNat : Int) := by
  have := bt_get s (i : Int) (by simpa using h)
  simpa using this
theorem l0_read (s out : ByteArray) (h m i k b : Nat) (hb : (nums s)[i]? = some b) (hh : h < 64) (hm : m ≤ 6) (hi : i ≤ 10000) :
    spec_encoded.l0 (k + 1) s alpha 6 4 out (h : Int) (m : Int) (i : Int) = spec_encoded.l1 k s alpha 6 4 out ((h * 256 + b : Nat) : Int) ((m + 8 : Nat) : Int) (i : Int) := by
  have hil : i < (nums s).length := (List.getElem?_eq_some_iff.1 hb).1
  have hil2 : i < s.toList.length := by rw [nums_len] at hil; rw [← len_eq]; exact hil
  have hbt := bt_nat s i hil2
  have hbb : (s.toList[i]).toNat = b := by
    have := (List.getElem?_eq_some_iff.1 hb).2
    rw [← this]
    unfold nums
    simp only [List.getElem_map, Lib.toList_data]
  have hb256 : b < 256 := by rw [← hbb]; exact UInt8.toNat_lt _
  rw [hbb] at hbt
  have e1 : wrap64 ((h : Int) * 256) = ((h * 2 ^ 8 : Nat) : Int) := by rw [w64 (by omega) (by omega)]; omega
  have e2 : wrap64 (b : Int) = (b : Int) := w64 (by omega) (by omega)
  have e3 := or_i64 h b 8 (by omega) (by omega) (by omega)
  have e4 : wrap64 ((m : Int) + 8) = ((m + 8 : Nat) : Int) := wadd m 8 (by omega)
  simp only [spec_encoded.l0]
  rw [hbt, e1, e2, e3, e4, if_pos (by rw [nums_len] at hil; omega), if_pos (by omega)]
theorem l2_done (out : ByteArray) (k : Nat) (h : out.size % 4 = 0) : spec_encoded.l2 (k + 1) 4 out = some out := by
  simp only [spec_encoded.l2]
  rw [if_neg (by omega), if_pos (by omega)]
theorem l2_pad (out : ByteArray) (k : Nat) (h : out.size % 4 ≠ 0) (ho : out.size ≤ 10000) : spec_encoded.l2 (k + 1) 4 out = spec_encoded.l2 k 4 (out ++ tx [61]) := by
  have e : (⟨#[61]⟩ : ByteArray) = tx [61] := rfl
  simp only [spec_encoded.l2]
  rw [if_neg (by omega), if_neg (by omega), if_pos (by omega), e]
theorem l0_rest (s out : ByteArray) (h m i k : Nat) (hi : s.size ≤ i) (hm : 0 < m) (hm6 : m ≤ 6) (hq : h * 2 ^ (6 - m) < 64) (ho : out.size ≤ 10000) :
    spec_encoded.l0 (k + 1) s alpha 6 4 out (h : Int) (m : Int) (i : Int) = spec_encoded.j2 k 4 (out ++ tx [sgn (h * 2 ^ (6 - m))]) := by
  have e1 : wrap64 (6 - (m : Int)) = ((6 - m : Nat) : Int) := by rw [w64 (by omega) (by omega)]; omega
  have e2 : shl .i64 (h : Int) ((6 - m : Nat) : Int) = ((h * 2 ^ (6 - m) : Nat) : Int) := by
    unfold shl
    rw [Int.toNat_natCast, Nat.min_eq_left (by show 6 - m ≤ 64; omega)]
    have : (h : Int) * 2 ^ (6 - m) = ((h * 2 ^ (6 - m) : Nat) : Int) := by simp
    rw [this]
    exact i64w _ (by omega)
  have e3 : wrap64 (((h * 2 ^ (6 - m) : Nat) : Int) + 1) = ((h * 2 ^ (6 - m) + 1 : Nat) : Int) := wsucc _ (by omega)
  have e7 : alpha.extract (((h * 2 ^ (6 - m) : Nat) : Int)).toNat (((h * 2 ^ (6 - m) + 1 : Nat) : Int)).toNat = tx [sgn (h * 2 ^ (6 - m))] := by rw [Int.toNat_natCast, Int.toNat_natCast]; exact alpha_cut _ hq
  have e8 : (tx [sgn (h * 2 ^ (6 - m))]).size = 1 := tx_size _
  have e9 : alpha.size = 64 := alpha_size
  simp only [spec_encoded.l0]
  rw [if_neg (by omega), if_pos (by omega), e1, e2, e3, e7, e8, e9, if_pos (by omega), if_pos (by omega), if_pos (by omega), if_pos (by omega), if_pos (by omega)]
theorem l0_none (s out : ByteArray) (h i k : Nat) (hi : s.size ≤ i) :
    spec_encoded.l0 (k + 1) s alpha 6 4 out (h : Int) ((0 : Nat) : Int) (i : Int) = spec_encoded.j2 k 4 out := by
  simp only [spec_encoded.l0]
  rw [if_neg (by omega), if_neg (by omega)]
/-- A byte that leaves less than six bits behind. -/
theorem byte1 (s : ByteArray) (h m i b c h' : Nat) (hb : (nums s)[i]? = some b) (hh : h * 256 + b < 4096) (hm : m < 4) (hh2 : h < 64) (hce : c = (h * 256 + b) / 2 ^ (m + 2)) (hc : c < 64) (hhe : h' = (h * 256 + b) % 2 ^ (m + 2)) (hi : i ≤ 9000) (out out' : ByteArray) (ho : out.size ≤ 9000) (hoe : out' = out ++ tx [sgn c]) {r : ByteArray}
    (H : Ev (fun k => spec_encoded.l0 k s alpha 6 4 out' (h' : Int) ((m + 2 : Nat) : Int) ((i + 1 : Nat) : Int)) r) :
    Ev (fun k => spec_encoded.l0 k s alpha 6 4 out (h : Int) (m : Int) (i : Int)) r :=
  Ev.step (fun k => l0_read s out h m i k b hb hh2 (by omega) (by omega)) <|
  Ev.step (fun k => l1_emit s out out' (h * 256 + b) (m + 2) i k c h' (by omega) hh hce hc hhe (by omega) hoe) <|
  Ev.step (fun k => l1_end s out' h' (m + 2) i k (by omega) (by omega)) H
theorem size1 {out out' : ByteArray} {c : Nat} (h : out' = out ++ tx [c]) : out'.size = out.size + 1 := by rw [h, size_append, tx_size]; rfl
theorem group3 (s : ByteArray) (i b0 b1 b2 : Nat) (out : ByteArray) (g0 : (nums s)[i]? = some b0) (g1 : (nums s)[i + 1]? = some b1) (g2 : (nums s)[i + 2]? = some b2) (l0 : b0 < 256) (l1 : b1 < 256) (l2 : b2 < 256) (hi : i ≤ 1000) (ho : out.size ≤ 5000) {r : ByteArray}
    (H : Ev (fun k => spec_encoded.l0 k s alpha 6 4 (out ++ tx (grp b0 b1 b2)) 0 0 ((i + 3 : Nat) : Int)) r) :
    Ev (fun k => spec_encoded.l0 k s alpha 6 4 out 0 0 (i : Int)) r := by
  obtain ⟨c0, hc0⟩ : ∃ c, c = b0 / 4 := ⟨_, rfl⟩
  obtain ⟨h1, hh1⟩ : ∃ c, c = b0 % 4 := ⟨_, rfl⟩
  obtain ⟨c1, hc1⟩ : ∃ c, c = (h1 * 256 + b1) / 16 := ⟨_, rfl⟩
  obtain ⟨h2, hh2⟩ : ∃ c, c = (h1 * 256 + b1) % 16 := ⟨_, rfl⟩
  obtain ⟨c2, hc2⟩ : ∃ c, c = (h2 * 256 + b2) / 64 := ⟨_, rfl⟩
  obtain ⟨c3, hc3⟩ : ∃ c, c = (h2 * 256 + b2) % 64 := ⟨_, rfl⟩
  obtain ⟨o1, ho1⟩ : ∃ o, o = out ++ tx [sgn c0] := ⟨_, rfl⟩
  obtain ⟨o2, ho2⟩ : ∃ o, o = o1 ++ tx [sgn c1] := ⟨_, rfl⟩
  obtain ⟨o3, ho3⟩ : ∃ o, o = o2 ++ tx [sgn c2] := ⟨_, rfl⟩
  obtain ⟨o4, ho4⟩ : ∃ o, o = o3 ++ tx [sgn c3] := ⟨_, rfl⟩
  have z1 := size1 ho1
  have z2 := size1 ho2
  have z3 := size1 ho3
  have z4 := size1 ho4
  refine byte1 s 0 0 i b0 c0 h1 g0 (by omega) (by omega) (by omega) (by omega) (by omega) (by omega) (by omega) out o1 (by omega) ho1 ?_
  refine byte1 s h1 2 (i + 1) b1 c1 h2 g1 (by omega) (by omega) (by omega) (by omega) (by omega) (by omega) (by omega) o1 o2 (by omega) ho2 ?_
  refine Ev.step (fun k => l0_read s o2 h2 4 (i + 2) k b2 g2 (by omega) (by omega) (by omega)) ?_
  refine Ev.step (fun k => l1_emit s o2 o3 (h2 * 256 + b2) 6 (i + 2) k c2 c3 (by omega) (by omega) (by omega) (by omega) (by omega) (by omega) ho3) ?_
  refine Ev.step (fun k => l1_emit s o3 o4 c3 0 (i + 2) k c3 0 (by omega) (by omega) (by omega) (by omega) (by omega) (by omega) ho4) ?_
  refine Ev.step (fun k => l1_end s o4 0 0 (i + 2) k (by omega) (by omega)) ?_
  have e : o4 = out ++ tx (grp b0 b1 b2) := by
    have a0 : c0 = (b0 * 65536 + (b1 * 256 + b2)) / 262144 % 64 := by omega
    have a1 : c1 = (b0 * 65536 + (b1 * 256 + b2)) / 4096 % 64 := by omega
    have a2 : c2 = (b0 * 65536 + (b1 * 256 + b2)) / 64 % 64 := by omega
    have a3 : c3 = (b0 * 65536 + (b1 * 256 + b2)) % 64 := by omega
    have eg : grp b0 b1 b2 = [sgn c0] ++ ([sgn c1] ++ ([sgn c2] ++ [sgn c3])) := by unfold grp; rw [← a0, ← a1, ← a2, ← a3]; rfl
    rw [eg, ← tx_app, ← tx_app, ← tx_app, ho4, ho3, ho2, ho1]
    apply ext_eq
    simp only [tl_append, List.append_assoc]
  rw [e]
  exact H
theorem group2 (s : ByteArray) (i b0 b1 : Nat) (out : ByteArray) (g0 : (nums s)[i]? = some b0) (g1 : (nums s)[i + 1]? = some b1) (l0 : b0 < 256) (l1 : b1 < 256) (hi : i ≤ 1000) (hs : s.size = i + 2) (ho : out.size ≤ 5000) (h4 : out.size % 4 = 0) :
    Ev (fun k => spec_encoded.l0 k s alpha 6 4 out 0 0 (i : Int)) (out ++ tx (enc64 [b0, b1])) := by
  obtain ⟨c0, hc0⟩ : ∃ c, c = b0 / 4 := ⟨_, rfl⟩
  obtain ⟨h1, hh1⟩ : ∃ c, c = b0 % 4 := ⟨_, rfl⟩
  obtain ⟨c1, hc1⟩ : ∃ c, c = (h1 * 256 + b1) / 16 := ⟨_, rfl⟩
  obtain ⟨h2, hh2⟩ : ∃ c, c = (h1 * 256 + b1) % 16 := ⟨_, rfl⟩
  obtain ⟨c2, hc2⟩ : ∃ c, c = h2 * 2 ^ (6 - 4) := ⟨_, rfl⟩
  obtain ⟨o1, ho1⟩ : ∃ o, o = out ++ tx [sgn c0] := ⟨_, rfl⟩
  obtain ⟨o2, ho2⟩ : ∃ o, o = o1 ++ tx [sgn c1] := ⟨_, rfl⟩
  obtain ⟨o3, ho3⟩ : ∃ o, o = o2 ++ tx [sgn c2] := ⟨_, rfl⟩
  obtain ⟨o4, ho4⟩ : ∃ o, o = o3 ++ tx [61] := ⟨_, rfl⟩
  have z1 := size1 ho1
  have z2 := size1 ho2
  have z3 := size1 ho3
  have z4 := size1 ho4
  refine byte1 s 0 0 i b0 c0 h1 g0 (by omega) (by omega) (by omega) (by omega) (by omega) (by omega) (by omega) out o1 (by omega) ho1 ?_
  refine byte1 s h1 2 (i + 1) b1 c1 h2 g1 (by omega) (by omega) (by omega) (by omega) (by omega) (by omega) (by omega) o1 o2 (by omega) ho2 ?_
  refine Ev.step (fun k => l0_rest s o2 h2 4 (i + 2) k (by omega) (by omega) (by omega) (by omega) (by omega)) ?_
  rw [← hc2, ← ho3]
  refine Ev.step (f := fun k => spec_encoded.l2 k 4 o3) (fun k => rfl) ?_
  refine Ev.step (fun k => l2_pad o3 k (by omega) (by omega)) ?_
  rw [← ho4]
  refine Ev.step (f := fun _ => some o4) (fun k => l2_done o4 k (by omega)) ?_
  have e : o4 = out ++ tx (enc64 [b0, b1]) := by
    have a0 : c0 = (b0 * 65536 + b1 * 256) / 262144 % 64 := by omega
    have a1 : c1 = (b0 * 65536 + b1 * 256) / 4096 % 64 := by omega
    have a2 : c2 = (b0 * 65536 + b1 * 256) / 64 % 64 := by omega
    have eg : enc64 [b0, b1] = [sgn c0] ++ ([sgn c1] ++ ([sgn c2] ++ [61])) := by unfold enc64; rw [← a0, ← a1, ← a2]; rfl
    rw [eg, ← tx_app, ← tx_app, ← tx_app, ho4, ho3, ho2, ho1]
    apply ext_eq
    simp only [tl_append, List.append_assoc]
  rw [← e]
  exact Ev.now _
theorem group1 (s : ByteArray) (i b0 : Nat) (out : ByteArray) (g0 : (nums s)[i]? = some b0) (l0 : b0 < 256) (hi : i ≤ 1000) (hs : s.size = i + 1) (ho : out.size ≤ 5000) (h4 : out.size % 4 = 0) :
    Ev (fun k => spec_encoded.l0 k s alpha 6 4 out 0 0 (i : Int)) (out ++ tx (enc64 [b0])) := by
  obtain ⟨c0, hc0⟩ : ∃ c, c = b0 / 4 := ⟨_, rfl⟩
  obtain ⟨h1, hh1⟩ : ∃ c, c = b0 % 4 := ⟨_, rfl⟩
  obtain ⟨c1, hc1⟩ : ∃ c, c = h1 * 2 ^ (6 - 2) := ⟨_, rfl⟩
  obtain ⟨o1, ho1⟩ : ∃ o, o = out ++ tx [sgn c0] := ⟨_, rfl⟩
  obtain ⟨o2, ho2⟩ : ∃ o, o = o1 ++ tx [sgn c1] := ⟨_, rfl⟩
  obtain ⟨o3, ho3⟩ : ∃ o, o = o2 ++ tx [61] := ⟨_, rfl⟩
  obtain ⟨o4, ho4⟩ : ∃ o, o = o3 ++ tx [61] := ⟨_, rfl⟩
  have z1 := size1 ho1
  have z2 := size1 ho2
  have z3 := size1 ho3
  have z4 := size1 ho4
  refine byte1 s 0 0 i b0 c0 h1 g0 (by omega) (by omega) (by omega) (by omega) (by omega) (by omega) (by omega) out o1 (by omega) ho1 ?_
  refine Ev.step (fun k => l0_rest s o1 h1 2 (i + 1) k (by omega) (by omega) (by omega) (by omega) (by omega)) ?_
  rw [← hc1, ← ho2]
  refine Ev.step (f := fun k => spec_encoded.l2 k 4 o2) (fun k => rfl) ?_
  refine Ev.step (fun k => l2_pad o2 k (by omega) (by omega)) ?_
  rw [← ho3]
  refine Ev.step (fun k => l2_pad o3 k (by omega) (by omega)) ?_
  rw [← ho4]
  refine Ev.step (f := fun _ => some o4) (fun k => l2_done o4 k (by omega)) ?_
  have e : o4 = out ++ tx (enc64 [b0]) := by
    have a0 : c0 = b0 * 65536 / 262144 % 64 := by omega
    have a1 : c1 = b0 * 65536 / 4096 % 64 := by omega
    have eg : enc64 [b0] = [sgn c0] ++ ([sgn c1] ++ ([61] ++ [61])) := by unfold enc64; rw [← a0, ← a1]; rfl
    rw [eg, ← tx_app, ← tx_app, ← tx_app, ho4, ho3, ho2, ho1]
    apply ext_eq
    simp only [tl_append, List.append_assoc]
  rw [← e]
  exact Ev.now _
theorem encoded_ev (s : ByteArray) (hs : s.size ≤ 1000) : ∀ (R : List Nat) (i : Nat) (out : ByteArray), R = (nums s).drop i → i ≤ s.size → out.size % 4 = 0 → out.size ≤ 2 * i → Ev (fun k => spec_encoded.l0 k s alpha 6 4 out 0 0 (i : Int)) (out ++ tx (enc64 R)) := by
  intro R
  have hnl := nums_len s
  have hsm := nums_small s
  induction R using enc64.induct with
  | case1 b0 b1 b2 t ih =>
    intro i out hR hi h4 ho
    have hlen := congrArg List.length hR
    rw [List.length_drop, hnl] at hlen
    simp only [List.length_cons] at hlen
    have hg : ∀ j x, (b0 :: b1 :: b2 :: t)[j]? = some x → (nums s)[i + j]? = some x := fun j x h => by rw [hR, List.getElem?_drop] at h; exact h
    have g0 := hg 0 b0 rfl
    have g1 := hg 1 b1 rfl
    have g2 := hg 2 b2 rfl
    refine group3 s i b0 b1 b2 out g0 g1 g2 (hsm _ (List.mem_of_getElem? g0)) (hsm _ (List.mem_of_getElem? g1)) (hsm _ (List.mem_of_getElem? g2)) (by omega) (by omega) ?_
    have key := ih (i + 3) (out ++ tx (grp b0 b1 b2)) (by rw [← List.drop_drop, ← hR]; rfl) (by omega) (by rw [size_append, tx_size]; simp [grp]; omega) (by rw [size_append, tx_size]; simp [grp]; omega)
    have e3 : out ++ tx (enc64 (b0 :: b1 :: b2 :: t)) = out ++ tx (grp b0 b1 b2) ++ tx (enc64 t) := by
      rw [enc64, ← tx_app]
      apply ext_eq
      simp only [tl_append, List.append_assoc]
    rw [e3]
    exact key
  | case2 b0 b1 =>
    intro i out hR hi h4 ho
    have hlen := congrArg List.length hR
    rw [List.length_drop, hnl] at hlen
    simp only [List.length_cons, List.length_nil] at hlen
    have hg : ∀ j x, [b0, b1][j]? = some x → (nums s)[i + j]? = some x := fun j x h => by rw [hR, List.getElem?_drop] at h; exact h
    have g0 := hg 0 b0 rfl
    have g1 := hg 1 b1 rfl
    exact group2 s i b0 b1 out g0 g1 (hsm _ (List.mem_of_getElem? g0)) (hsm _ (List.mem_of_getElem? g1)) (by omega) (by omega) (by omega) h4
  | case3 b0 =>
    intro i out hR hi h4 ho
    have hlen := congrArg List.length hR
    rw [List.length_drop, hnl] at hlen
    simp only [List.length_cons, List.length_nil] at hlen
    have hg : ∀ j x, [b0][j]? = some x → (nums s)[i + j]? = some x := fun j x h => by rw [hR, List.getElem?_drop] at h; exact h
    have g0 := hg 0 b0 rfl
    exact group1 s i b0 out g0 (hsm _ (List.mem_of_getElem? g0)) (by omega) (by omega) (by omega) h4
  | case4 =>
    intro i out hR hi h4 ho
    have hlen := congrArg List.length hR
    rw [List.length_drop, hnl] at hlen
    simp only [List.length_nil] at hlen
    refine Ev.step (fun k => l0_none s out 0 i k (by omega)) ?_
    refine Ev.step (f := fun k => spec_encoded.l2 k 4 out) (fun k => rfl) ?_
    refine Ev.step (f := fun _ => some out) (fun k => l2_done out k h4) ?_
    have e : out ++ tx (enc64 []) = out := ext_eq (by rw [tl_append]; unfold tx enc64; rw [Lib.toList_data]; simp)
    rw [e]
    exact Ev.now _
theorem base64_call (s : ByteArray) (hs : s.size ≤ 1000) (w : World) :
    Calls Try.prog 6 #[.string s] w fun e w' => e = .returned (.string (tx (enc64 (nums s)))) ∧ Below w.heap.size w w' := by
  obtain ⟨k, hk⟩ := encoded_ev s hs (nums s) 0 (tx []) rfl (Nat.zero_le _) (by decide) (by decide)
  have h := hk k (Nat.le_refl k)
  have e : tx [] ++ tx (enc64 (nums s)) = tx (enc64 (nums s)) := by rw [tx_app]; rfl
  rw [e] at h
  have h' : spec_encoded.l0 k s alpha 6 4 (tx []) 0 0 ((0 : Nat) : Int) = some (tx (enc64 (nums s))) := h
  refine (spec_Base64.calls k s (tx (enc64 (nums s))) w ?_).mono fun e w' h => ⟨h.1, h.2.below⟩
  unfold spec_Base64.f spec_encoded.f
  show (spec_encoded.l0 k s alpha 6 4 (tx []) 0 0 ((0 : Nat) : Int)).bind _ = _
  rw [h']; rfl
end Go.Proofs.Ytoaalpkeepjhmaa.B6
