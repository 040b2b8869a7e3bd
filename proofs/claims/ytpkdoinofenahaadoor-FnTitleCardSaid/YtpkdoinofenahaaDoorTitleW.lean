/- Walks of strings.isSeparator, unicode.ToTitle, strings.Title and the strings.Map that it calls, over ASCII: what they answer. -/
import Derived.Test.YtpkdoinofenahaaDoorFirst
import Derived.Test.YtpkdoinofenahaaDoorBldK
import Derived.Lib.OthersKept
namespace Go.Proofs.YtpkdoinofenahaaDoor.Giv
open Go.RowKit Go.Proofs.YtpkdoinofenahaaDoorW.PrintWords Go.Proofs.YtpkdoinofenahaaDoor.Txt
set_option linter.unusedVariables false
set_option maxRecDepth 20000

/-- Neither letter, digit nor underscore. -/
def sepN (x : Nat) : Bool := !((decide (48 ≤ x) && decide (x ≤ 57)) || (decide (97 ≤ x) && decide (x ≤ 122)) || (decide (65 ≤ x) && decide (x ≤ 90)) || x == 95)
def highN (x : Nat) : Nat := if 97 ≤ x ∧ x ≤ 122 then x - 32 else x
theorem highN_le (x : Nat) (h : x < 128) : highN x < 128 := by unfold highN; split <;> omega
theorem highN_B (c : UInt8) : highN c.toNat = (highB c).toNat := by
  unfold highN highB
  split
  · rename_i h; rw [UInt8.toNat_ofNat_of_lt' (by show _ < 256; omega)]
  · rfl
set_option maxHeartbeats 2000000 in
theorem sep_walk (x : Nat) (hx : x ≤ 127) (w : World) :
    Calls Tryd.prog 121 #[.int .i32 (x : Int)] w fun e w' => e = .returned (.bool (sepN x)) ∧ w' = w := by
  obtain ⟨r, hr⟩ : ∃ r, r = sepN x := ⟨_, rfl⟩
  rw [← hr]
  unfold sepN at hr
  by_cases d0 : 48 ≤ x
  · by_cases d1 : x ≤ 57
    · obtain rfl : r = false := by rw [hr, decide_eq_true d0, decide_eq_true d1]; rfl
      clear hr
      go_enter Tryd.func121, Tryd.ntmps121
      go_wp2_with fail
      go_ret
      exact ⟨rfl, rfl⟩
    · have hn : ¬ x ≤ 57 := d1
      by_cases a0 : 97 ≤ x
      · by_cases a1 : x ≤ 122
        · obtain rfl : r = false := by rw [hr, decide_eq_false hn, decide_eq_true a0, decide_eq_true a1, Bool.and_false]; rfl
          clear hr
          go_enter Tryd.func121, Tryd.ntmps121
          go_wp2_with fail
          go_ret
          exact ⟨rfl, rfl⟩
        · obtain rfl : r = true := by rw [hr, decide_eq_false hn, decide_eq_false a1, decide_eq_false (show ¬ x ≤ 90 by omega), Bool.and_false, Bool.and_false, Bool.and_false, beq_eq_false_iff_ne.2 (show x ≠ 95 by omega)]; rfl
          have z0 : ¬ x ≤ 90 := by omega
          have z1 : ¬ x = 95 := by omega
          clear hr
          go_enter Tryd.func121, Tryd.ntmps121
          go_wp2_with fail
          go_ret
          exact ⟨rfl, rfl⟩
      · by_cases b0 : 65 ≤ x
        · by_cases b1 : x ≤ 90
          · obtain rfl : r = false := by rw [hr, decide_eq_false hn, decide_eq_false a0, decide_eq_true b0, decide_eq_true b1, Bool.and_false]; rfl
            clear hr
            go_enter Tryd.func121, Tryd.ntmps121
            go_wp2_with fail
            go_ret
            exact ⟨rfl, rfl⟩
          · by_cases e0 : x = 95
            · subst e0
              obtain rfl : r = false := by rw [hr]; rfl
              clear hr
              go_enter Tryd.func121, Tryd.ntmps121
              go_wp2_with fail
              go_ret
              exact ⟨rfl, rfl⟩
            · obtain rfl : r = true := by rw [hr, decide_eq_false hn, decide_eq_false a0, decide_eq_false b1, Bool.and_false, Bool.and_false, beq_eq_false_iff_ne.2 e0]; rfl
              clear hr
              go_enter Tryd.func121, Tryd.ntmps121
              go_wp2_with fail
              go_ret
              exact ⟨rfl, rfl⟩
        · obtain rfl : r = true := by rw [hr, decide_eq_false hn, decide_eq_false a0, decide_eq_false b0, Bool.and_false, beq_eq_false_iff_ne.2 (show x ≠ 95 by omega)]; rfl
          have z1 : ¬ x = 95 := by omega
          clear hr
          go_enter Tryd.func121, Tryd.ntmps121
          go_wp2_with fail
          go_ret
          exact ⟨rfl, rfl⟩
  · obtain rfl : r = true := by rw [hr, decide_eq_false d0, decide_eq_false (show ¬ 97 ≤ x by omega), decide_eq_false (show ¬ 65 ≤ x by omega), beq_eq_false_iff_ne.2 (show x ≠ 95 by omega)]; rfl
    have z0 : ¬ 97 ≤ x := by omega
    have z1 : ¬ 65 ≤ x := by omega
    have z2 : ¬ x = 95 := by omega
    clear hr
    go_enter Tryd.func121, Tryd.ntmps121
    go_wp2_with fail
    go_ret
    exact ⟨rfl, rfl⟩
set_option maxHeartbeats 2000000 in
theorem totitle_walk (x : Nat) (hx : x ≤ 127) (w : World) :
    Calls Tryd.prog 112 #[.int .i32 (x : Int)] w fun e w' => e = .returned (.int .i32 ((highN x : Nat) : Int)) ∧ w' = w := by
  obtain ⟨r, hr⟩ : ∃ r, r = highN x := ⟨_, rfl⟩
  rw [← hr]
  unfold highN at hr
  by_cases a0 : 97 ≤ x
  · by_cases a1 : x ≤ 122
    · rw [if_pos ⟨a0, a1⟩] at hr
      have hr2 : (x : Int) - 32 = (r : Int) := by omega
      clear hr
      go_enter Tryd.func112, Tryd.ntmps112
      go_wp2_with fail
      go_ret
      exact ⟨by first | rfl | (rw [← hr2]; rfl) | (simp [hr2]), rfl⟩
    · rw [if_neg (by omega)] at hr
      subst hr
      go_enter Tryd.func112, Tryd.ntmps112
      go_wp2_with fail
      go_ret
      exact ⟨rfl, rfl⟩
  · rw [if_neg (by omega)] at hr
    subst hr
    go_enter Tryd.func112, Tryd.ntmps112
    go_wp2_with fail
    go_ret
    exact ⟨rfl, rfl⟩

/-- What a character becomes behind another one. -/
def turnN (p x : Nat) : Nat := if sepN p then highN x else x
theorem turnN_le (p x : Nat) (h : x < 128) : turnN p x < 128 := by unfold turnN; split; exact highN_le x h; exact h
set_option maxHeartbeats 2000000 in
theorem lit_walk (b p x : Nat) (hp : p ≤ 127) (hx : x ≤ 127) (w : World) (hc : w.cell? ⟨b, 0, none⟩ = some (.int .i32 (p : Int))) (hf : w.frozen? ⟨b, 0, none⟩ = false) :
    Calls Tryd.prog 120 #[.int .i32 (x : Int), .pointer (some ⟨b, 0, none⟩)] w fun e w' => e = .returned (.int .i32 ((turnN p x : Nat) : Int)) ∧ w' = w.setCell ⟨b, 0, none⟩ (.int .i32 (x : Int)) := by
  have hs := Lib.hid (fun w => sep_walk p hp w)
  have ht := Lib.hid (fun w => totitle_walk x hx w)
  obtain ⟨r, hr⟩ : ∃ r, r = turnN p x := ⟨_, rfl⟩
  rw [← hr]
  unfold turnN at hr
  cases h : sepN p with
  | true =>
    rw [h, if_pos rfl] at hr
    rw [h] at hs
    rw [← hr] at ht
    clear h hr
    go_enter Tryd.func120, Tryd.ntmps120
    go_wp2_with fail
    refine (hs.out _).mono ?_
    rintro e w1 ⟨rfl, rfl⟩
    go_wp2_with fail
    refine (ht.out _).mono ?_
    rintro e w1 ⟨rfl, rfl⟩
    go_wp2_with fail
    go_ret
    exact ⟨rfl, rfl⟩
  | false =>
    rw [h, if_neg (by decide)] at hr
    rw [h] at hs
    subst hr
    clear h
    go_enter Tryd.func120, Tryd.ntmps120
    go_wp2_with fail
    refine (hs.out _).mono ?_
    rintro e w1 ⟨rfl, rfl⟩
    go_wp2_with fail
    go_ret
    exact ⟨rfl, rfl⟩
theorem runelen_walk (x : Nat) (hx : x ≤ 127) (w : World) :
    Calls Tryd.prog 125 #[.int .i32 (x : Int)] w fun e w' => e = .returned (.int .i64 1) ∧ w' = w := by
  have h0 : ¬ (x : Int) < 0 := by omega
  go_enter Tryd.func125, Tryd.ntmps125
  go_wp2_with fail
  go_ret
  exact ⟨rfl, rfl⟩
set_option maxHeartbeats 2000000 in
theorem WriteByte (B b : Nat) (bs : List Value) (c : Int) (w : World) (h : Lib.BuilderAt 56 5 B b (.pointer (some ⟨b, 0, none⟩)) bs w) (hlen : bs.length + 1 ≤ 140737488355328) (hBw : B ≤ w.heap.size) :
    Calls Tryd.prog 127 #[.pointer (some ⟨b, 0, none⟩), .int .u8 c] w fun e w' => e = .returned .nilIface ∧ (Lib.BuilderAt 56 5 B b (.pointer (some ⟨b, 0, none⟩)) (bs ++ [.int .u8 c]) w' ∧ Below B w w' ∧ ∀ (k : Nat) (s : ByteArray) (pos : Nat), w.heap[k]? = some (.stringIter s pos) → w'.heap[k]? = some (.stringIter s pos)) := by
  obtain ⟨i0, hi, hz0, hz1, hz2⟩ := info_parts byteInfo
  have hcell : w.cell? ⟨b, 0, none⟩ = some (.pointer (some ⟨b, 0, none⟩)) := h.cell0
  have Hc := Lib.hid (copyCheck_used b w hcell)
  have hb1 : Below B w w := Below.refl B w
  go_enter Tryd.func127, Tryd.ntmps127
  go_wp2_with fail
  refine Hc.out.mono ?_
  rintro e w1 ⟨rfl, rfl⟩
  obtain ⟨hB, v, hbk, hown, hne⟩ := h
  have c0 : w1.cell? ⟨b, 0, none⟩ = some (.pointer (some ⟨b, 0, none⟩)) := by rw [Lib.cell_of_heap hbk]; rfl
  have c1 : w1.cell? ⟨b, 1, none⟩ = some v := by rw [Lib.cell_of_heap hbk]; rfl
  go_wp2_with (at_builtin; refine wpList_append_own _ rfl _ _ 44 rfl B 5 i0 (.int .u8 0) 1 1 Tryd.underlying44 hi hz0 hz1 hz2 rfl (by decide) _ _ _ rfl (hown.alloc _) ⟨w1.heap.size, 0, none⟩ 1 1 [.int .u8 c] rfl rfl ?c1 ?c2 ?c3 ?c4 ?c5 ?_)
  case c1 =>
    intro j u hj
    match j, hj with
    | 0, hj => simp at hj; subst hj; simp [Addr.add]
    | (j + 1), hj => simp at hj
  case c2 => intro u hu; simp at hu; subst hu; rfl
  case c3 => unfold maxLen; omega
  case c4 => omega
  case c5 => have := hb1.size; simp; omega
  intro v' w2 hown' hgrow _
  have hlt : b < w1.heap.size := by
    rcases Nat.lt_or_ge b w1.heap.size with h' | h'
    · exact h'
    · simp [Array.getElem?_eq_none h'] at hbk
  have hb2 : w2.heap[b]? = some (.cells #[.pointer (some ⟨b, 0, none⟩), v] 56 (0, 0)) := by
    rw [hgrow.block b (by simp; omega) (fun e => hne e.symm), Lib.alloc_old w1 _ b hlt]
    exact hbk
  have d0 : w2.cell? ⟨b, 0, none⟩ = some (.pointer (some ⟨b, 0, none⟩)) := by rw [Lib.cell_of_heap hb2]; rfl
  have d1 : w2.cell? ⟨b, 1, none⟩ = some v := by rw [Lib.cell_of_heap hb2]; rfl
  have f1 : w2.frozen? ⟨b, 1, none⟩ = false := Lib.frozen_of_heap hb2 1
  obtain ⟨g, cap, rfl⟩ : ∃ g cap, v' = .slice (some ⟨g, 0, none⟩) (bs.length + 1) cap := by
    rcases hown'.2 with ⟨_, h0⟩ | ⟨g, cap, cur, hv, _⟩
    · omega
    · exact ⟨g, cap, hv⟩
  go_wp2_with fail
  go_ret
  refine ⟨rfl, ?_, ?_, ?_⟩
  · exact Lib.BuilderAt.put (T := 56) (e := 5) hB hb2 (bs' := bs ++ [.int .u8 c]) (by simpa using hown') bNe
  · exact ((hb1.alloc (by have := hb1.size; omega) _).grown hgrow (by have := hb1.size; simp; omega) (fun k hk => (hown.lt k hk).1)).setCell (p := ⟨b, 1, none⟩) hB _
  · intro k s pos hk
    have hkl : k < w1.heap.size := by
      rcases Nat.lt_or_ge k w1.heap.size with h' | h'
      · exact h'
      · simp [Array.getElem?_eq_none h'] at hk
    have hkb : k ≠ b := by rintro rfl; rw [hk] at hbk; cases hbk
    have hkv : some k ≠ v.ownBlock := by
      intro e
      rcases hown.2 with ⟨hv, _⟩ | ⟨g, cap, cur, hv, _, hg, _⟩
      · rw [hv] at e; cases e
      · rw [hv] at e
        simp only [Value.ownBlock, Option.some.injEq] at e
        subst e
        rw [hk] at hg; cases hg
    rw [Below.heap_setCell _ _ _ _ hkb, hgrow.block k (by simp; omega) hkv, Lib.alloc_old w1 _ k hkl]
    exact hk
/-- The capacity of a builder that holds something. -/
theorem cap_used (B b : Nat) (p : Value) (bs : List Value) (w : World) (h : Lib.BuilderAt 56 5 B b p bs w) (h1 : 1 ≤ bs.length) :
    Calls Tryd.prog 126 #[.pointer (some ⟨b, 0, none⟩)] w fun e w' => ∃ cap : Nat, 1 ≤ cap ∧ e = .returned (.int .i64 (cap : Int)) ∧ w' = w := by
  obtain ⟨hB, v, hbk, hown, hne⟩ := h
  obtain ⟨g, cap, hcap, rfl⟩ : ∃ g cap, 1 ≤ cap ∧ v = .slice (some ⟨g, 0, none⟩) bs.length cap := by
    rcases hown.2 with ⟨_, h0⟩ | ⟨g, cap, cur, hv, _, _, hle, _⟩
    · omega
    · exact ⟨g, cap, by omega, hv⟩
  have c1 : w.cell? ⟨b, 1, none⟩ = some (.slice (some ⟨g, 0, none⟩) bs.length cap) := by rw [Lib.cell_of_heap hbk]; rfl
  clear hown hbk
  go_enter Tryd.func126, Tryd.ntmps126
  go_wp2_with fail
  go_ret
  exact ⟨cap, hcap, rfl, rfl⟩
theorem cap_fresh (b : Nat) (w : World) (hbk : w.heap[b]? = some (.cells #[.pointer none, .slice none 0 0] 56 (0, 0))) :
    Calls Tryd.prog 126 #[.pointer (some ⟨b, 0, none⟩)] w fun e w' => e = .returned (.int .i64 0) ∧ w' = w := by
  have c1 : w.cell? ⟨b, 1, none⟩ = some (.slice none 0 0) := by rw [Lib.cell_of_heap hbk]; rfl
  clear hbk
  go_enter Tryd.func126, Tryd.ntmps126
  go_wp2_with fail
  go_ret
  exact ⟨rfl, rfl⟩

/-- A builder that later steps leave alone. -/
theorem builderMove {w w' : World} {B b : Nat} {T e : TypeId} {p : Value} {bs : List Value} (h : Lib.BuilderAt T e B b p bs w) (hk : ∀ k, B ≤ k → (∃ c t z, w.heap[k]? = some (.cells c t z)) → w'.heap[k]? = w.heap[k]?) : Lib.BuilderAt T e B b p bs w' := by
  obtain ⟨hB, v, hbk, hown, hne⟩ := h
  refine ⟨hB, v, (hk b hB ⟨_, _, _, hbk⟩).trans hbk, ⟨hown.1, hown.2.imp id ?_⟩, hne⟩
  rintro ⟨g, cap, cur, hv, hg, hh, r⟩
  exact ⟨g, cap, cur, hv, hg, (hk g hg ⟨_, _, _, hh⟩).trans hh, r⟩
theorem snoc_byte (acc : List UInt8) (y : UInt8) : Lib.byteCells acc ++ [Value.int .u8 (y.toNat : Int)] = Lib.byteCells (acc ++ [y]) := by
  unfold Lib.byteCells; rw [List.map_append]; rfl

/-- All characters behind one another. -/
def titleL : Nat → List UInt8 → List UInt8
  | _, [] => []
  | p, c :: t => (turnN p c.toNat).toUInt8 :: titleL c.toNat t
theorem turn_same (p : Nat) (c : UInt8) (h : turnN p c.toNat = c.toNat) : (turnN p c.toNat).toUInt8 = c := by rw [h]; simp
theorem turn_nat (p x : Nat) (h : x < 128) : ((turnN p x).toUInt8.toNat : Int) = (turnN p x : Int) := by
  have := turnN_le p x h
  rw [UInt8.toNat_ofNat_of_lt' (by show _ < 256; omega)]

theorem index_byte' (s : ByteArray) (i : Nat) (h : i < s.toList.length) (hs : i < s.size) : (s[i]'hs) = s.toList[i] := by
  have : s.toList = s.data.toList := Lib.toList_data s
  simp only [this, Array.getElem_toList]
  rfl
set_option maxHeartbeats 8000000 in
theorem map_walk (s : ByteArray) (b0 : Nat) (w0 w : World) (hs : s.size ≤ 1000) (ha : asciiB s) (hw0 : Below w0.heap.size w0 w) (hb0 : w0.heap.size ≤ b0) (hb1 : b0 < w.heap.size) (hc : w.cell? ⟨b0, 0, none⟩ = some (.int .i32 32)) (hf : w.frozen? ⟨b0, 0, none⟩ = false) :
    Calls Tryd.prog 119 #[.func (.func 120) #[] #[.pointer (some ⟨b0, 0, none⟩)], .string s] w fun e w' => ∃ r : ByteArray, e = .returned (.string r) ∧ r.toList = titleL 32 s.toList ∧ Below w0.heap.size w0 w' := by
  have HA := Lib.hid ha
  have HL := Lib.hid (len_eq s)
  obtain ⟨R, hR⟩ : ∃ R, R = titleL 32 s.toList := ⟨_, rfl⟩
  rw [← hR]
  have HR := Lib.hid hR
  have HW0 := Lib.hid hw0
  have HC0 := Lib.hid hc
  have HF0 := Lib.hid hf
  clear hR ha hw0 hc hf
  go_enter Tryd.func119, Tryd.ntmps119
  go_wp2_with fail
  have hL0 := HW0.out.size
  have HW0S := Lib.hid hL0
  have hbk1 : (w.alloc (.cells #[.pointer none, .slice none 0 0] 56)).heap[w.heap.size]? = some (.cells #[.pointer none, .slice none 0 0] 56 (0, 0)) := by show (w.heap.push _)[w.heap.size]? = _; simp
  obtain ⟨W1, hW1⟩ : ∃ W1, W1 = w.alloc (.cells #[.pointer none, .slice none 0 0] 56) := ⟨_, rfl⟩
  have hs1 : W1.heap.size = w.heap.size + 1 := by rw [hW1]; simp
  have hB1 : Below w0.heap.size w0 W1 := by rw [hW1]; exact HW0.out.alloc hL0 _
  have hc1 : W1.cell? ⟨b0, 0, none⟩ = some (.int .i32 32) := by rw [hW1, World.cell?_of_block (w := w) (Below.heap_alloc w _ b0 hb1)]; exact HC0.out
  have hf1 : W1.frozen? ⟨b0, 0, none⟩ = false := by rw [hW1, World.frozen?_of_block (w := w) (Below.heap_alloc w _ b0 hb1)]; exact HF0.out
  rw [← hW1] at hbk1 ⊢
  have HBK1 := Lib.hid hbk1
  have HS1 := Lib.hid hs1
  have HB1 := Lib.hid hB1
  have HC1 := Lib.hid hc1
  have HF1 := Lib.hid hf1
  clear hbk1 hs1 hB1 hc1 hf1 hW1 hL0
  go_loopw [1, 6, 7, 8] (fun v1 v6 v7 v8 wr => ∃ (pos p : Nat) (x6 x7 x8 : Value), v1 = .string s ∧ v6 = x6 ∧ v7 = x7 ∧ v8 = x8 ∧ wr.heap[(w.heap.size + 1)]? = some (.stringIter s pos) ∧ Hid (wr.heap[w.heap.size]? = some (.cells #[.pointer none, .slice none 0 0] 56 (0, 0))) ∧ Hid (Below w0.heap.size w0 wr) ∧ Hid ((w.heap.size + 1) ≤ wr.heap.size) ∧ Hid (wr.cell? ⟨b0, 0, none⟩ = some (.int .i32 (p : Int))) ∧ Hid (wr.frozen? ⟨b0, 0, none⟩ = false) ∧ Hid (p ≤ 127) ∧ Hid (s.toList.take pos ++ titleL p (s.toList.drop pos) = R) ∧ Hid (pos ≤ s.size)) (fun _ _ _ _ wr => s.size - wr.iterPos (w.heap.size + 1))
  case atStart => exact ⟨0, 32, _, _, _, rfl, rfl, rfl, rfl, (by have h := World.iter_heap W1 s 0; rw [HS1.out] at h; exact h), Lib.hid (by rw [← HBK1.out]; exact Lib.alloc_old W1 _ _ (by have := HS1.out; omega)), Lib.hid (HB1.out.alloc HB1.out.size _), Lib.hid (by show _ ≤ (W1.heap.push _).size; rw [Array.size_push]; have := HS1.out; omega), Lib.hid (by rw [World.cell?_of_block (w := W1) (Below.heap_alloc W1 _ b0 (by have := HS1.out; omega))]; exact HC1.out), Lib.hid (by rw [World.frozen?_of_block (w := W1) (Below.heap_alloc W1 _ b0 (by have := HS1.out; omega))]; exact HF1.out), Lib.hid (by omega), Lib.hid (by rw [HR.out]; rfl), Lib.hid (Nat.zero_le _)⟩
  case round =>
    obtain ⟨pos, p, x6, x7, x8, rfl, rfl, rfl, rfl, hit, HBK, HB, HS, HC, HF, HQ, HT, HP⟩ := hrel
    by_cases hp : pos < s.size
    · have hlt : pos < s.toList.length := by have := HL.out; omega
      obtain ⟨c, hc⟩ : ∃ c, c = s.toList[pos] := ⟨_, rfl⟩
      have hdr : s.toList.drop pos = c :: s.toList.drop (pos + 1) := by rw [hc]; exact List.drop_eq_getElem_cons hlt
      have htk : s.toList.take (pos + 1) = s.toList.take pos ++ [c] := by rw [hc]; exact List.take_succ_eq_append_getElem hlt
      have hd7 : c.toNat < 128 := HA.out c (by rw [hc]; exact List.getElem_mem hlt)
      have hix : (s[pos]'hp) = c := by rw [hc]; exact index_byte' s pos hlt hp
      have hnx : ∀ ty, (Instr.next (.pointer (some ⟨(w.heap.size + 1), 0, none⟩)) true ty).run Tryd.prog wr = _ := fun ty => Lib.run_next_ascii_at wr (w.heap.size + 1) s pos ty hit hp (by rw [hix]; exact hd7)
      rw [hix] at hnx
      have hit2 := Lib.iterAt_heap wr (w.heap.size + 1) s pos (pos + 1) hit
      have h5b : (w.heap.size + 1) ≠ b0 := by omega
      have h5c : (w.heap.size + 1) ≠ w.heap.size := by omega
      have hcW : (wr.iterAt (w.heap.size + 1) s (pos + 1)).cell? ⟨b0, 0, none⟩ = some (.int .i32 (p : Int)) := by rw [World.cell?_of_block (w := wr) (Lib.iterAt_other wr (w.heap.size + 1) b0 s (pos + 1) h5b.symm)]; exact HC.out
      have hfW : (wr.iterAt (w.heap.size + 1) s (pos + 1)).frozen? ⟨b0, 0, none⟩ = false := by rw [World.frozen?_of_block (w := wr) (Lib.iterAt_other wr (w.heap.size + 1) b0 s (pos + 1) h5b.symm)]; exact HF.out
      have HCALL := Lib.hid (lit_walk b0 p c.toNat HQ.out (by omega) _ hcW hfW)
      have htn := turnN_le p c.toNat hd7
      have HTN := Lib.hid (turn_nat p c.toNat hd7)
      have hw7 : ∀ w7, w7 = (wr.iterAt (w.heap.size + 1) s (pos + 1)).setCell ⟨b0, 0, none⟩ (.int .i32 (c.toNat : Int)) → w7.heap[(w.heap.size + 1)]? = some (.stringIter s (pos + 1)) ∧ w7.heap[w.heap.size]? = some (.cells #[.pointer none, .slice none 0 0] 56 (0, 0)) ∧ Below w0.heap.size w0 w7 ∧ w7.cell? ⟨b0, 0, none⟩ = some (.int .i32 (c.toNat : Int)) ∧ w7.frozen? ⟨b0, 0, none⟩ = false ∧ (w.heap.size + 1) ≤ w7.heap.size := by
        rintro w7 rfl
        refine ⟨?_, ?_, ?_, ?_, ?_, ?_⟩
        · rw [Below.heap_setCell _ _ _ _ h5b]; exact hit2
        · rw [Below.heap_setCell _ _ _ _ (show w.heap.size ≠ b0 by omega), Lib.iterAt_other _ _ _ _ _ h5c.symm]; exact HBK.out
        · exact (Lib.below_iterAt HB.out (Nat.le_trans HW0S.out (Nat.le_succ _)) s (pos + 1)).setCell hb0 _
        · exact World.cell?_setCell_same _ _ _ hcW
        · rw [World.frozen?_setCell]; exact hfW
        · exact Nat.le_trans (by rw [Lib.iterAt_size]; exact HS.out) ((Below.refl 0 (wr.iterAt (w.heap.size + 1) s (pos + 1))).setCell (p := ⟨b0, 0, none⟩) (Nat.zero_le _) _).size
      have HW7 := Lib.hid hw7
      have HDR := Lib.hid hdr
      have HTK := Lib.hid htk
      clear hdr htk hix hit2 hcW hfW hw7 hlt hc
      by_cases hsame : turnN p c.toNat = c.toNat
      · have HSM := Lib.hid (turn_same p c hsame)
        rw [hsame] at HCALL
        obtain ⟨x, hx⟩ : ∃ x, x = c.toNat := ⟨_, rfl⟩
        rw [← hx] at hnx HCALL hd7 HW7
        have HX := Lib.hid hx
        clear hx hsame htn HTN
        have hx9 : ¬ (x : Int) = 65533 := by omega
        go_wp2_with fail
        refine (HCALL.out).mono ?_
        rintro e w6 ⟨rfl, hw6⟩
        obtain ⟨k1, k2, k3, k4, k5, k6⟩ := HW7.out w6 hw6
        have K1 := Lib.hid k1
        clear hw6 k1
        have K2 := Lib.hid k2
        have K3 := Lib.hid k3
        have K4 := Lib.hid k4
        have K5 := Lib.hid k5
        have K6 := Lib.hid k6
        clear k2 k3 k4 k5 k6
        go_wp2_with fail
        refine ⟨⟨pos + 1, x, _, _, _, rfl, rfl, rfl, rfl, K1.out, K2, K3, K6, K4, K5, Lib.hid (by omega), Lib.hid ?_, Lib.hid hp⟩, ?_⟩
        · rw [HTK.out, ← HT.out, HDR.out, HX.out, titleL, HSM.out, List.append_assoc]; rfl
        · simp only [World.iterPos, K1.out, hit]; omega
      · obtain ⟨y, hy⟩ : ∃ y, y = turnN p c.toNat := ⟨_, rfl⟩
        rw [← hy] at HCALL hsame htn HTN
        have HY := Lib.hid hy
        obtain ⟨x, hx⟩ : ∃ x, x = c.toNat := ⟨_, rfl⟩
        rw [← hx] at hnx HCALL hd7 HW7 hsame
        have HX := Lib.hid hx
        clear hx hy
        have hx9 : ¬ (x : Int) = 65533 := by omega
        have hxy : ¬ (y : Int) = (x : Int) := by omega
        have hy0 : 0 ≤ (y : Int) := by omega
        have hrl := Lib.hid (fun w => runelen_walk x (by omega) w)
        go_wp2_with fail
        refine (HCALL.out).mono ?_
        rintro e w6 ⟨rfl, hw6⟩
        obtain ⟨k1, k2, k3, k4, k5, k6⟩ := HW7.out w6 hw6
        have K2 := Lib.hid k2
        have K3 := Lib.hid k3
        have K4 := Lib.hid k4
        have K5 := Lib.hid k5
        have K6 := Lib.hid k6
        clear hw6 k1 k2 k3 k4 k5 k6
        go_wp2_with fail
        refine (hrl.out _).mono ?_
        rintro e w1 ⟨rfl, rfl⟩
        go_wp2_with fail
        rw [show ((s.size : Int) + 4) = ((s.size + 4 : Nat) : Int) by omega]
        have hBw1 : w.heap.size ≤ w1.heap.size := Nat.le_trans (Nat.le_succ _) K6.out
        refine (Tryd.Builder_Grow_fresh w.heap.size w.heap.size (s.size + 4) w1 (Nat.le_refl _) K2.out hBw1 (by omega)).mono ?_
        rintro e w3 ⟨rfl, hb3, hB3⟩
        have HB3 := Lib.hid (K3.out.trans (hB3.mono HW0S.out))
        have hcell3 : w3.heap[b0]? = w1.heap[b0]? := hB3.block b0 hb1
        have HC3 : Hid (w3.cell? ⟨b0, 0, none⟩ = some (.int .i32 (x : Int))) := Lib.hid (by rw [World.cell?_of_block (w := w1) hcell3]; exact K4.out)
        have HF3 : Hid (w3.frozen? ⟨b0, 0, none⟩ = false) := Lib.hid (by rw [World.frozen?_of_block (w := w1) hcell3]; exact K5.out)
        have HS3 := Lib.hid (Nat.le_trans hBw1 hB3.size)
        have HI3 := Lib.hid hb3
        clear hb3 hB3 hcell3
        go_wp2_with fail
        have hsz4 : (s.extract 0 pos).size = pos := by rw [size_extract _ _ _ (Nat.zero_le _) (by omega)]; omega
        refine (WriteString w.heap.size w.heap.size [] (s.extract 0 pos) w3 (.inr HI3.out) (by rw [hsz4]; simp; omega) HS3.out).mono ?_
        rintro e w4 ⟨rfl, hb4, hB4⟩
        rw [List.nil_append, strCells_tl, extract_upto] at hb4
        have HB4 := Lib.hid (HB3.out.trans (hB4.mono HW0S.out))
        have hcell4 : w4.heap[b0]? = w3.heap[b0]? := hB4.block b0 hb1
        have HC4 : Hid (w4.cell? ⟨b0, 0, none⟩ = some (.int .i32 (x : Int))) := Lib.hid (by rw [World.cell?_of_block (w := w3) hcell4]; exact HC3.out)
        have HF4 : Hid (w4.frozen? ⟨b0, 0, none⟩ = false) := Lib.hid (by rw [World.frozen?_of_block (w := w3) hcell4]; exact HF3.out)
        have HS4 := Lib.hid (Nat.le_trans HS3.out hB4.size)
        have HI4 := Lib.hid hb4
        clear hb4 hB4 hcell4
        go_wp2_with fail
        refine (WriteRune w.heap.size w.heap.size (Lib.byteCells (s.toList.take pos)) (y : Int) hy0 (by omega) w4 (.inr HI4.out) (by rw [bytes_len, List.length_take]; omega) HS4.out).mono ?_
        rintro e w5 ⟨rfl, hb5, hB5⟩
        rw [← HTN.out, snoc_byte, HY.out] at hb5
        have HB5 := Lib.hid (HB4.out.trans (hB5.mono HW0S.out))
        have hcell5 : w5.heap[b0]? = w4.heap[b0]? := hB5.block b0 hb1
        have HC5 : Hid (w5.cell? ⟨b0, 0, none⟩ = some (.int .i32 (c.toNat : Int))) := Lib.hid (by rw [World.cell?_of_block (w := w4) hcell5, ← HX.out]; exact HC4.out)
        have HF5 : Hid (w5.frozen? ⟨b0, 0, none⟩ = false) := Lib.hid (by rw [World.frozen?_of_block (w := w4) hcell5]; exact HF4.out)
        have HS5 := Lib.hid (Nat.le_trans HS4.out hB5.size)
        have HI5 := Lib.hid hb5
        have HFIN : Hid (s.toList.take pos ++ [(turnN p c.toNat).toUInt8] ++ titleL c.toNat (s.toList.drop (pos + 1)) = R) := Lib.hid (by rw [← HT.out, HDR.out, titleL, List.append_assoc]; rfl)
        have HCAP := Lib.hid (cap_used w.heap.size w.heap.size _ _ w5 HI5.out (by rw [bytes_len, List.length_append]; simp))
        clear hb5 hB5 hcell5
        have hd77 : c.toNat ≤ 127 := by have := HX.out; omega
        go_wp2_with fail
        refine (HCAP.out).mono ?_
        rintro e w2 ⟨cap, hcap, rfl, rfl⟩
        have hcap0 : ¬ (cap : Int) = 0 := by omega
        have hcapb : ((cap : Int) == 0) = false := beq_eq_false_iff_ne.2 hcap0
        go_wp2_with fail
        -- the second loop
        go_loopw [11, 12] (fun v11 v12 wr => ∃ (j p : Nat) (acc : List UInt8) (x11 x12 : Value), v11 = x11 ∧ v12 = x12 ∧ wr.heap[w2.heap.size]? = some (.stringIter (s.extract (pos + 1) s.size) j) ∧ Hid (Lib.BuilderAt 56 5 w.heap.size w.heap.size (.pointer (some ⟨w.heap.size, 0, none⟩)) (Lib.byteCells acc) wr) ∧ Hid (Below w0.heap.size w0 wr) ∧ Hid (w.heap.size ≤ wr.heap.size) ∧ Hid (wr.cell? ⟨b0, 0, none⟩ = some (.int .i32 (p : Int))) ∧ Hid (wr.frozen? ⟨b0, 0, none⟩ = false) ∧ Hid (p ≤ 127) ∧ Hid (acc ++ titleL p ((s.extract (pos + 1) s.size).toList.drop j) = R) ∧ Hid (acc.length ≤ 2000 + j) ∧ Hid (j ≤ 1000)) (fun _ _ wr => (s.extract (pos + 1) s.size).size - wr.iterPos w2.heap.size)
        case atStart => exact ⟨0, c.toNat, s.toList.take pos ++ [(turnN p c.toNat).toUInt8], _, _, rfl, rfl, World.iter_heap w2 _ 0, Lib.hid (builderBelow HI5.out ((Below.refl _ _).alloc (Nat.le_refl _) _)), Lib.hid (HB5.out.alloc (Nat.le_trans HW0S.out HS5.out) _), Lib.hid (by show _ ≤ (w2.heap.push _).size; rw [Array.size_push]; have := HS5.out; omega), Lib.hid (by rw [World.cell?_of_block (w := w2) (Below.heap_alloc w2 _ b0 (Nat.lt_of_lt_of_le hb1 HS5.out))]; exact HC5.out), Lib.hid (by rw [World.frozen?_of_block (w := w2) (Below.heap_alloc w2 _ b0 (Nat.lt_of_lt_of_le hb1 HS5.out))]; exact HF5.out), Lib.hid (by omega), Lib.hid (by rw [extract_self, List.drop_zero]; exact HFIN.out), Lib.hid (by rw [List.length_append, List.length_take]; simp; omega), Lib.hid (by omega)⟩
        case round =>
          obtain ⟨j, q, acc, x11, x12, rfl, rfl, hit, HI, HB, HS, HC, HF, HQ, HT, HLA, HJ⟩ := hrel
          have hz2 : (s.extract (pos + 1) s.size).size = s.size - (pos + 1) := size_extract _ _ _ (by omega) (Nat.le_refl _)
          obtain ⟨s2, hs2⟩ : ∃ s2, s2 = s.extract (pos + 1) s.size := ⟨_, rfl⟩
          rw [← hs2] at hit hz2 HT ⊢
          have HS2 := Lib.hid hs2
          clear hs2
          have HL2 := Lib.hid (len_eq s2)
          by_cases hp2 : j < s2.size
          · have hlt2 : j < s2.toList.length := by have := HL2.out; omega
            obtain ⟨d, hd⟩ : ∃ d, d = s2.toList[j] := ⟨_, rfl⟩
            have hdr2 : s2.toList.drop j = d :: s2.toList.drop (j + 1) := by rw [hd]; exact List.drop_eq_getElem_cons hlt2
            have hd7 : d.toNat < 128 := by
              refine HA.out d (List.mem_of_mem_drop (i := pos + 1) ?_)
              rw [← extract_self, ← HS2.out, hd]; exact List.getElem_mem hlt2
            have hix2 : (s2[j]'hp2) = d := by rw [hd]; exact index_byte' s2 j hlt2 hp2
            have hnx : ∀ ty, (Instr.next (.pointer (some ⟨w2.heap.size, 0, none⟩)) true ty).run Tryd.prog wr = _ := fun ty => Lib.run_next_ascii_at wr w2.heap.size s2 j ty hit hp2 (by rw [hix2]; exact hd7)
            rw [hix2] at hnx
            have hit2 := Lib.iterAt_heap wr w2.heap.size s2 j (j + 1) hit
            have h5b : w2.heap.size ≠ b0 := by have := HS5.out; omega
            have hcW : (wr.iterAt w2.heap.size s2 (j + 1)).cell? ⟨b0, 0, none⟩ = some (.int .i32 (q : Int)) := by rw [World.cell?_of_block (w := wr) (Lib.iterAt_other wr w2.heap.size b0 s2 (j + 1) h5b.symm)]; exact HC.out
            have hfW : (wr.iterAt w2.heap.size s2 (j + 1)).frozen? ⟨b0, 0, none⟩ = false := by rw [World.frozen?_of_block (w := wr) (Lib.iterAt_other wr w2.heap.size b0 s2 (j + 1) h5b.symm)]; exact HF.out
            have HCALL := Lib.hid (lit_walk b0 q d.toNat HQ.out (by omega) _ hcW hfW)
            have htn := turnN_le q d.toNat hd7
            have HTN := Lib.hid (turn_nat q d.toNat hd7)
            obtain ⟨y, hy⟩ : ∃ y, y = turnN q d.toNat := ⟨_, rfl⟩
            rw [← hy] at htn HTN HCALL
            have HY := Lib.hid hy
            have HDR2 := Lib.hid hdr2
            have Hit2 := Lib.hid hit2
            have HcW := Lib.hid hcW
            have HfW := Lib.hid hfW
            obtain ⟨x, hx⟩ : ∃ x, x = d.toNat := ⟨_, rfl⟩
            rw [← hx] at hnx HCALL hd7
            have HX := Lib.hid hx
            clear hy hd hdr2 hlt2 hix2 hit2 hcW hfW hx
            have hy0 : 0 ≤ (y : Int) := by omega
            have hy1 : (y : Int) < 128 := by omega
            go_wp2_with fail
            refine (HCALL.out).mono ?_
            rintro e w6 ⟨rfl, rfl⟩
            obtain ⟨w7, hw7⟩ : ∃ w7, w7 = (wr.iterAt w2.heap.size s2 (j + 1)).setCell ⟨b0, 0, none⟩ (.int .i32 (x : Int)) := ⟨_, rfl⟩
            have hi7 : w7.heap[w2.heap.size]? = some (.stringIter s2 (j + 1)) := by rw [hw7, Below.heap_setCell _ _ _ _ h5b]; exact Hit2.out
            have hB7 : Lib.BuilderAt 56 5 w.heap.size w.heap.size (.pointer (some ⟨w.heap.size, 0, none⟩)) (Lib.byteCells acc) w7 := by
              refine builderMove HI.out ?_
              rintro k hk ⟨c, t, z, hcz⟩
              have k1 : k ≠ w2.heap.size := by rintro rfl; rw [hit] at hcz; cases hcz
              rw [hw7, Below.heap_setCell _ _ _ _ (show k ≠ b0 by omega), Lib.iterAt_other _ _ _ _ _ k1]
            have hb7 : Below w0.heap.size w0 w7 := by rw [hw7]; exact (Lib.below_iterAt HB.out (Nat.le_trans HW0S.out HS5.out) s2 (j + 1)).setCell hb0 _
            have hc7 : w7.cell? ⟨b0, 0, none⟩ = some (.int .i32 (x : Int)) := by rw [hw7]; exact World.cell?_setCell_same _ _ _ HcW.out
            have hf7 : w7.frozen? ⟨b0, 0, none⟩ = false := by rw [hw7, World.frozen?_setCell]; exact HfW.out
            have hs7 : w.heap.size ≤ w7.heap.size := by rw [hw7]; exact Nat.le_trans (by rw [Lib.iterAt_size]; exact HS.out) ((Below.refl 0 (wr.iterAt w2.heap.size s2 (j + 1))).setCell (p := ⟨b0, 0, none⟩) (Nat.zero_le _) _).size
            rw [← hw7]
            have WBy := Lib.hid (WriteByte w.heap.size w.heap.size (Lib.byteCells acc) (y : Int) w7 hB7 (by rw [bytes_len]; have := HLA.out; have := HJ.out; omega) hs7)
            have Hi7 := Lib.hid hi7
            have Hb7 := Lib.hid hb7
            have Hc7 := Lib.hid hc7
            have Hf7 := Lib.hid hf7
            have Hs7 := Lib.hid hs7
            clear hw7 hi7 hB7 hb7 hc7 hf7 hs7
            go_wp2_with fail
            refine (WBy.out).mono ?_
            rintro e w8 ⟨rfl, hI8, hB8, hk8⟩
            have hb8 : Below w0.heap.size w0 w8 := Hb7.out.trans (hB8.mono HW0S.out)
            have hcell8 : w8.heap[b0]? = w7.heap[b0]? := hB8.block b0 hb1
            rw [show Value.int .u8 (y : Int) = Value.int .u8 ((y.toUInt8.toNat : Nat) : Int) by rw [HTN.out], snoc_byte] at hI8
            have Hi8 := Lib.hid (hk8 _ _ _ Hi7.out)
            have HI8 := Lib.hid hI8
            have Hb8 := Lib.hid hb8
            have Hc8 : Hid (w8.cell? ⟨b0, 0, none⟩ = some (.int .i32 (x : Int))) := Lib.hid (by rw [World.cell?_of_block (w := w7) hcell8]; exact Hc7.out)
            have Hf8 : Hid (w8.frozen? ⟨b0, 0, none⟩ = false) := Lib.hid (by rw [World.frozen?_of_block (w := w7) hcell8]; exact Hf7.out)
            have Hs8 := Lib.hid (Nat.le_trans Hs7.out hB8.size)
            clear hI8 hB8 hk8 hb8 hcell8
            go_wp2_with fail
            go_roundw
            case rel =>
              refine ⟨j + 1, x, acc ++ [y.toUInt8], _, _, rfl, rfl, Hi8.out, HI8, Hb8, Hs8, Hc8, Hf8, Lib.hid (by omega), Lib.hid ?_, Lib.hid (by rw [List.length_append]; have := HLA.out; simp; omega), Lib.hid (by omega)⟩
              rw [← HT.out, HDR2.out, titleL, ← HY.out, ← HX.out, List.append_assoc]; rfl
            case measure =>
              simp only [World.iterPos, Hi8.out, hit]; omega
          · have hnx : ∀ ty, (Instr.next (.pointer (some ⟨w2.heap.size, 0, none⟩)) true ty).run Tryd.prog wr = _ := fun ty => Lib.run_next_end_at wr w2.heap.size s2 j ty hit hp2
            have hnil : s2.toList.drop j = [] := List.drop_eq_nil_of_le (by have := HL2.out; omega)
            have hfin : acc = R := by rw [← HT.out, hnil]; simp [titleL]
            have hI := HI.out
            rw [hfin] at hI
            have HI9 := Lib.hid hI
            clear hnil hfin hI
            go_wp2_with fail
            refine (Tryd.Builder_String_any w.heap.size w.heap.size R wr (.inr HI9.out) HS.out).mono ?_
            rintro e w9 ⟨rfl, hB9⟩
            have Hb9 := Lib.hid (HB.out.trans (hB9.mono HW0S.out))
            clear hB9
            go_wp2_with fail
            go_ret
            exact ⟨_, rfl, tl_mk _, Hb9.out⟩
    · have hnx : ∀ ty, (Instr.next (.pointer (some ⟨(w.heap.size + 1), 0, none⟩)) true ty).run Tryd.prog wr = _ := fun ty => Lib.run_next_end_at wr (w.heap.size + 1) s pos ty hit hp
      have hpe : pos = s.size := by have := HP.out; omega
      have hnil : s.toList.drop pos = [] := List.drop_eq_nil_of_le (by have := HL.out; omega)
      have hfin : s.toList = R := by
        rw [← HT.out, hnil, hpe, HL.out, List.take_length]; simp [titleL]
      have HFIN := Lib.hid hfin
      have HCF := Lib.hid (cap_fresh w.heap.size wr HBK.out)
      clear hnil hfin hpe
      go_wp2_with fail
      refine (HCF.out).mono ?_
      rintro e w9 ⟨rfl, rfl⟩
      go_wp2_with fail
      go_ret
      exact ⟨_, rfl, HFIN.out, HB.out⟩

set_option maxHeartbeats 2000000 in
theorem title_walk (s : ByteArray) (w : World) (hs : s.size ≤ 1000) (ha : asciiB s) :
    Calls Tryd.prog 106 #[.string s] w fun e w' => ∃ r : ByteArray, e = .returned (.string r) ∧ r.toList = titleL 32 s.toList ∧ Below w.heap.size w w' := by
  have hW : ∀ W, W = w.alloc (.cells #[.int .i32 32] 21) → Below w.heap.size w W ∧ w.heap.size < W.heap.size ∧ W.cell? ⟨w.heap.size, 0, none⟩ = some (.int .i32 32) ∧ W.frozen? ⟨w.heap.size, 0, none⟩ = false := by
    rintro W rfl
    refine ⟨(Below.refl _ _).alloc (Nat.le_refl _) _, by simp, by rw [Lib.cell_of_heap (heap_alloc_new _ _)]; rfl, by simp [go_sem]⟩
  have HW := Lib.hid hW
  have HA := Lib.hid ha
  obtain ⟨R, hR⟩ : ∃ R, R = titleL 32 s.toList := ⟨_, rfl⟩
  rw [← hR]
  have HR := Lib.hid hR
  clear hW ha hR
  go_enter Tryd.func106, Tryd.ntmps106
  go_wp2_with fail
  obtain ⟨W, hWe⟩ : ∃ W, W = w.alloc (.cells #[.int .i32 32] 21) := ⟨_, rfl⟩
  rw [← hWe]
  obtain ⟨ga, gb, gc, gd⟩ := HW.out W hWe
  have HM := Lib.hid (map_walk s w.heap.size w W hs HA.out ga (Nat.le_refl _) gb gc gd)
  clear hWe ga gb gc gd
  refine (HM.out).mono ?_
  rintro e w2 ⟨r, rfl, hr, hB⟩
  have Hr := Lib.hid hr
  have HB := Lib.hid hB
  clear hr hB
  go_wp2_with fail
  go_ret
  exact ⟨r, rfl, by rw [Hr.out, HR.out], HB.out⟩

def strings_Title.f (a0 : ByteArray) : Option (ByteArray) := if a0.size ≤ 1000 ∧ asciiB a0 then some ⟨(titleL 32 a0.toList).toArray⟩ else none
theorem strings_Title.calls (a0 : ByteArray) (r : ByteArray) (w : World) (h : strings_Title.f a0 = some r) :
    Calls Tryd.prog 106 #[.string a0] w fun e w' => e = .returned (.string r) ∧ Below w.heap.size w w' := by
  unfold strings_Title.f at h
  split at h
  case isFalse => exact absurd h (by simp)
  rename_i hb
  obtain rfl := Option.some.inj h
  refine (title_walk a0 w hb.1 hb.2).mono ?_
  rintro e w' ⟨r, rfl, hr, hB⟩
  have e : r = ⟨(titleL 32 a0.toList).toArray⟩ := ext_eq (hr.trans (tl_mk _).symm)
  rw [e]
  exact ⟨rfl, hB⟩

end Go.Proofs.YtpkdoinofenahaaDoor.Giv
