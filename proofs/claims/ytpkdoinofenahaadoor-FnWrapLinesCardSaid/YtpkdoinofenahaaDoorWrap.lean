/- Walks of goutils.zzIndexRune (a blank) and WrapCustom, over ASCII: what they answer. -/
import Derived.Test.YtpkdoinofenahaaDoorShelfC
import Derived.Test.YtpkdoinofenahaaDoorFirst
import Derived.Test.YtpkdoinofenahaaDoorBldK
import Derived.Lib.OthersKept
namespace Go.Proofs.YtpkdoinofenahaaDoor.Giv
open Go.RowKit Go.Proofs.YtpkdoinofenahaaDoorW.PrintWords Go.Proofs.YtpkdoinofenahaaDoor.Txt
set_option linter.unusedVariables false
set_option maxRecDepth 20000

theorem index_byte (s : ByteArray) (i : Nat) (h : i < s.toList.length) (hs : i < s.size) : (s[i]'hs) = s.toList[i] := by
  have : s.toList = s.data.toList := Lib.toList_data s
  simp only [this, Array.getElem_toList]
  rfl
theorem bufferBelow {w w' : World} {B b : Nat} {T e : TypeId} {bs : List Value} (h : Lib.IsBuffer T e B b bs w) (hb : Below w.heap.size w w') : Lib.IsBuffer T e B b bs w' := by
  have hlt := h.lt
  obtain ⟨hB, v, lr, hbk, hown, hne⟩ := h
  exact ⟨hB, v, lr, (hb.block b hlt).trans hbk, ownsBelow hown hb, hne⟩
/-- The last blank among the first k. -/
def lastK (l : List UInt8) : Nat → Option Nat
  | 0 => none
  | k + 1 => if (l.getD k 0).toNat = 32 then some k else lastK l k
/-- The first blank. -/
def blankB : List UInt8 → Option Nat
  | [] => none
  | c :: t => if c.toNat = 32 then some 0 else (blankB t).map (· + 1)
def resAt (p : Nat) : Option Nat → Int
  | some j => ((p + j : Nat) : Int)
  | none => -1
theorem resAt_map (p : Nat) (o : Option Nat) : resAt p (o.map (· + 1)) = resAt (p + 1) o := by
  cases o with
  | none => rfl
  | some j => show ((p + (j + 1) : Nat) : Int) = ((p + 1 + j : Nat) : Int); congr 1; omega
theorem last_eq (s : ByteArray) : ∀ k, Lib.lastIdx s 32 k = resAt 0 (lastK s.toList k) := by
  intro k
  induction k with
  | zero => rfl
  | succ k ih =>
    have e : (s.data[k]!).toNat = (s.toList.getD k 0).toNat := by
      rw [Lib.toList_data]
      by_cases h : k < s.data.size
      · rw [getElem!_pos s.data k h]; simp [List.getD, Array.getElem?_eq_getElem h]
      · rw [getElem!_neg s.data k h]; simp [List.getD, Array.getElem?_eq_none (Nat.le_of_not_lt h)]; rfl
    rw [Lib.lastIdx, lastK, e]
    by_cases h : (s.toList.getD k 0).toNat = 32
    · rw [if_pos (by omega), if_pos h]; simp [resAt]
    · rw [if_neg (by omega), if_neg h]; exact ih
theorem lastK_lt (l : List UInt8) : ∀ k j, lastK l k = some j → j < k := by
  intro k
  induction k with
  | zero => intro j h; cases h
  | succ k ih =>
    intro j h
    rw [lastK] at h
    split at h
    · cases h; omega
    · have := ih j h; omega
theorem blankB_lt (l : List UInt8) : ∀ j, blankB l = some j → j < l.length := by
  induction l with
  | nil => intro j h; cases h
  | cons c t ih =>
    intro j h
    rw [blankB] at h
    split at h
    · cases h; simp
    · cases hf : blankB t with
      | none => rw [hf] at h; cases h
      | some i =>
        rw [hf] at h
        have := ih i hf
        have h2 : i + 1 = j := Option.some.inj h
        rw [List.length_cons]; omega

set_option maxHeartbeats 4000000 in
theorem zzindex_walk (s : ByteArray) (w : World) (hs : s.size ≤ 1000) (ha : asciiB s) :
    Calls Tryd.prog 80 #[.string s, .int .i32 32] w fun e w' => e = .returned (.int .i64 (resAt 0 (blankB s.toList))) ∧ Below w.heap.size w w' := by
  have HA := Lib.hid ha
  have HL := Lib.hid (len_eq s)
  obtain ⟨R, hR⟩ : ∃ R, R = resAt 0 (blankB s.toList) := ⟨_, rfl⟩
  rw [← hR]
  have HR := Lib.hid hR
  clear hR ha
  go_enter Tryd.func80, Tryd.ntmps80
  go_wp2_with fail
  go_loopw [5, 6] (fun v5 v6 wr => ∃ (pos : Nat) (x5 x6 : Value), v5 = x5 ∧ v6 = x6 ∧ wr.heap[w.heap.size]? = some (.stringIter s pos) ∧ Hid (Below w.heap.size w wr) ∧ Hid (resAt pos (blankB (s.toList.drop pos)) = R)) (fun _ _ wr => s.size - wr.iterPos w.heap.size)
  case atStart => exact ⟨0, _, _, rfl, rfl, World.iter_heap w s 0, Lib.hid ((Below.refl _ w).alloc (Nat.le_refl _) _), Lib.hid (by rw [HR.out]; rfl)⟩
  case round =>
    obtain ⟨pos, x5, x6, rfl, rfl, hit, HB, HT⟩ := hrel
    by_cases hp : pos < s.size
    · have hlt : pos < s.toList.length := by have := HL.out; omega
      obtain ⟨c, hc⟩ : ∃ c, c = s.toList[pos] := ⟨_, rfl⟩
      have hdr : s.toList.drop pos = c :: s.toList.drop (pos + 1) := by rw [hc]; exact List.drop_eq_getElem_cons hlt
      have hd7 : c.toNat < 128 := HA.out c (by rw [hc]; exact List.getElem_mem hlt)
      have hix : (s[pos]'hp) = c := by rw [hc]; exact index_byte s pos hlt hp
      have hnx : ∀ ty, (Instr.next (.pointer (some ⟨w.heap.size, 0, none⟩)) true ty).run Tryd.prog wr = _ := fun ty => Lib.run_next_ascii_at wr w.heap.size s pos ty hit hp (by rw [hix]; exact hd7)
      rw [hix] at hnx
      have hit2 := Lib.iterAt_heap wr w.heap.size s pos (pos + 1) hit
      have hbw2 := Lib.hid (Lib.below_iterAt HB.out (k := w.heap.size) (Nat.le_refl _) s (pos + 1))
      have HDR := Lib.hid hdr
      have Hit2 := Lib.hid hit2
      obtain ⟨x, hx⟩ : ∃ x, x = c.toNat := ⟨_, rfl⟩
      rw [← hx] at hnx hd7
      have HX := Lib.hid hx
      clear hdr hit2 hx hc hix hlt
      by_cases h32 : x = 32
      · have hfin : R = (pos : Int) := by rw [← HT.out, HDR.out, blankB, if_pos (by rw [← HX.out]; exact h32)]; simp [resAt]
        have HF := Lib.hid hfin
        subst h32
        clear hfin
        go_wp2_with fail
        go_ret
        exact ⟨by rw [HF.out]; rfl, hbw2.out⟩
      · have h32i : ¬ (x : Int) = 32 := by omega
        have hstep : resAt (pos + 1) (blankB (s.toList.drop (pos + 1))) = R := by rw [← HT.out, HDR.out, blankB, if_neg (by rw [← HX.out]; exact h32), resAt_map]
        have HS := Lib.hid hstep
        clear hstep h32
        go_wp2_with fail
        refine ⟨⟨pos + 1, _, _, rfl, rfl, Hit2.out, hbw2, HS⟩, ?_⟩
        simp only [World.iterPos, Hit2.out, hit]; omega
    · have hnx : ∀ ty, (Instr.next (.pointer (some ⟨w.heap.size, 0, none⟩)) true ty).run Tryd.prog wr = _ := fun ty => Lib.run_next_end_at wr w.heap.size s pos ty hit hp
      have hfin : R = -1 := by rw [← HT.out, List.drop_eq_nil_of_le (by have := HL.out; omega)]; rfl
      have HF := Lib.hid hfin
      clear hfin
      go_wp2_with fail
      go_ret
      exact ⟨by rw [HF.out]; rfl, HB.out⟩

/-- A text in lines. -/
def wrapL (n : Nat) (e : List UInt8) (cut : Bool) : Nat → List UInt8 → List UInt8
  | 0, l => l
  | f + 1, l => if n < l.length then (if (l.getD 0 0).toNat = 32 then wrapL n e cut f (l.drop 1) else match lastK l (n + 1) with
    | some k => l.take k ++ e ++ wrapL n e cut f (l.drop (k + 1))
    | none => if cut then l.take n ++ e ++ wrapL n e cut f (l.drop n) else match blankB (l.drop n) with
      | none => l
      | some j => l.take (n + j) ++ e ++ wrapL n e cut f (l.drop (n + j + 1))) else l

theorem wrapL_end (n : Nat) (e : List UInt8) (cut : Bool) (f : Nat) (l : List UInt8) (h : ¬ n < l.length) : wrapL n e cut f l = l := by
  cases f with
  | zero => rfl
  | succ f => rw [wrapL, if_neg h]
theorem lastK_take (l : List UInt8) (m : Nat) : ∀ k, k ≤ m → lastK (l.take m) k = lastK l k := by
  intro k
  induction k with
  | zero => intro _; rfl
  | succ k ih =>
    intro h
    rw [lastK, lastK, ih (by omega)]
    have e : (l.take m).getD k 0 = l.getD k 0 := by simp [List.getD, show k < m by omega]
    rw [e]
set_option maxHeartbeats 8000000 in
theorem wrap_a (s E : ByteArray) (n : Nat) (cut : Bool) (w : World) (hs : s.size ≤ 1000) (he : E.size ≤ 1000) (h1 : 1 ≤ s.size) (he1 : 1 ≤ E.size) (hn1 : 1 ≤ n) (hn2 : n ≤ 1000000) (ha : asciiB s) :
    Calls Tryd.prog 55 #[.string s, .int .i64 (n : Int), .string E, .bool cut] w fun e w' => e = .returned (.string ⟨(wrapL n E.toList cut s.size s.toList).toArray⟩) ∧ Below w.heap.size w w' := by
  have hs0 : (s.toList == ([] : List UInt8)) = false := by
    cases h : s.toList with
    | nil => have := len_eq s; rw [h, List.length_nil] at this; omega
    | cons a t => rfl
  have he0 : (E.toList == ([] : List UInt8)) = false := by
    cases h : E.toList with
    | nil => have := len_eq E; rw [h, List.length_nil] at this; omega
    | cons a t => rfl
  have HA := Lib.hid ha
  have hl := Lib.hid (len_eq s)
  have WS : Hid (∀ (acc : List UInt8) (t : ByteArray) (W : World), Lib.IsBuffer 69 5 w.heap.size w.heap.size (Lib.byteCells acc) W → w.heap.size ≤ W.heap.size → acc.length ≤ 100000000 → t.size ≤ 2000 → Calls Tryd.prog 79 #[.pointer (some ⟨w.heap.size, 0, none⟩), .string t] W fun e w' => e = .returned (.tuple #[.int .i64 t.size, .nilIface]) ∧ Lib.IsBuffer 69 5 w.heap.size w.heap.size (Lib.byteCells (acc ++ t.toList)) w' ∧ Below w.heap.size W w') := Lib.hid (by
    intro acc t W h1 h2 h3 h4
    have h := Tryd.Buffer_WriteString w.heap.size w.heap.size (Lib.byteCells acc) t W h1 h2 (by intro v hv; obtain ⟨z, _, rfl⟩ := List.mem_map.1 hv; rfl) (by rw [bytes_len]; omega)
    refine h.mono ?_
    rintro e w' ⟨rfl, hI, hB⟩
    rw [← Lib.toList_data, bytes_app] at hI
    exact ⟨rfl, hI, hB⟩)
  obtain ⟨R, hR⟩ : ∃ R, R = wrapL n E.toList cut s.size s.toList := ⟨_, rfl⟩
  rw [← hR]
  have HR := Lib.hid hR
  have hnn : ¬ (n : Int) < 1 := by omega
  clear hR ha
  go_enter Tryd.func55, Tryd.ntmps55
  go_wp2_with fail
  have HB0 := Lib.hid (Lib.fresh_isBuffer 69 5 w)
  go_loopg [10, 12, 13, 14, 15, 16] s.size (fun kq v10 v12 v13 v14 v15 v16 wr => ∃ (p : Nat) (acc : List UInt8) (x12 x13 x14 x15 x16 : Value), v10 = .int .i64 (p : Int) ∧ v12 = x12 ∧ v13 = x13 ∧ v14 = x14 ∧ v15 = x15 ∧ v16 = x16 ∧ Hid (p ≤ s.size) ∧ Hid (s.size ≤ p + kq) ∧ Hid (Lib.IsBuffer 69 5 w.heap.size w.heap.size (Lib.byteCells acc) wr) ∧ Hid (Below w.heap.size w wr) ∧ Hid (acc ++ wrapL n E.toList cut kq (s.toList.drop p) = R) ∧ Hid (acc.length ≤ 3000 * p))
  case atStart => exact ⟨0, [], _, _, _, _, _, rfl, rfl, rfl, rfl, rfl, rfl, Lib.hid (Nat.zero_le _), Lib.hid (by omega), HB0, Lib.hid ((Below.refl _ _).alloc (Nat.le_refl _) _), Lib.hid (by rw [HR.out]; rfl), Lib.hid (Nat.zero_le _)⟩
  case round =>
    obtain ⟨p, acc, x12, x13, x14, x15, x16, rfl, rfl, rfl, rfl, rfl, rfl, HP, HF, HI, HB, HT, HLA⟩ := hrel
    by_cases hpn : n + p < s.size
    · cases gk with
      | zero => exact absurd HF.out (by omega)
      | succ m =>
        have hp : p < s.size := by omega
        have hlt : p < s.toList.length := by have := hl.out; omega
        obtain ⟨c, hc⟩ : ∃ c, c = s.toList[p] := ⟨_, rfl⟩
        have hdr : s.toList.drop p = c :: s.toList.drop (p + 1) := by rw [hc]; exact List.drop_eq_getElem_cons hlt
        have hix : s[p]'hp = c := by rw [hc]; exact index_byte s p hlt hp
        have HC7 : Hid (c.toNat < 128) := Lib.hid (HA.out c (by rw [hc]; exact List.getElem_mem hlt))
        have hll : n < (s.toList.drop p).length := by rw [List.length_drop, ← hl.out]; omega
        have hg0 : (s.toList.drop p).getD 0 0 = c := by rw [hdr]; rfl
        have hwr := HT.out
        rw [wrapL, if_pos hll, hg0] at hwr
        have HWR := Lib.hid hwr
        clear hc hdr hll hg0 hwr hlt
        obtain ⟨x, hx⟩ : ∃ x, x = c.toNat := ⟨_, rfl⟩
        have HX := Lib.hid hx
        by_cases h32 : x = 32
        · have hwr := HWR.out
          rw [if_pos (by rw [← hx]; exact h32), List.drop_drop] at hwr
          have HW2 := Lib.hid hwr
          have hce : c.toNat = 32 := by rw [← hx]; exact h32
          clear hwr hx
          go_wp2_with fail
          go_roundg m
          case measure => exact Nat.lt_succ_self m
          case rel => exact ⟨p + 1, acc, _, _, _, _, _, by simp, rfl, rfl, rfl, rfl, rfl, Lib.hid (by omega), Lib.hid (by have := HF.out; omega), HI, HB, HW2, Lib.hid (by have := HLA.out; omega)⟩
        · have hwr := HWR.out
          rw [if_neg (by rw [← hx]; exact h32)] at hwr
          have HW2 := Lib.hid hwr
          have hcn : ¬ c.toNat = 32 := by rw [← hx]; exact h32
          have hc7 : c.toNat < 128 := HC7.out
          have hcw : (wrap32 (c.toNat : Int) == 32) = false := by rw [show wrap32 (c.toNat : Int) = (c.toNat : Int) by unfold wrap32; omega]; exact beq_eq_false_iff_ne.2 (by omega)
          clear hwr hx
          have hLI : ∀ W, Calls Tryd.prog 78 #[.string (s.extract p (n + p + 1)), .string ⟨#[32]⟩] W fun e w' => e = .returned (.int .i64 (resAt 0 (lastK (s.toList.drop p) (n + 1)))) ∧ w' = W := by
            intro W
            have hz : (s.extract p (n + p + 1)).size = n + 1 := by rw [size_extract _ _ _ (by omega) (by omega)]; omega
            have h := Tryd.strings_LastIndex_one (s.extract p (n + p + 1)) ⟨#[32]⟩ rfl (by rw [hz]; omega) W
            have e : Lib.lastIndexByte (s.extract p (n + p + 1)) (((⟨#[32]⟩ : ByteArray)[0]'(by decide)).toNat : Int) = resAt 0 (lastK (s.toList.drop p) (n + 1)) := by
              show Lib.lastIdx (s.extract p (n + p + 1)) 32 (s.extract p (n + p + 1)).size = _
              rw [last_eq, hz, tl_extract, show n + p + 1 - p = n + 1 by omega, lastK_take _ _ _ (Nat.le_refl _)]
            rw [e] at h
            exact h
          have HLI := Lib.hid hLI
          clear hLI
          cases hk : lastK (s.toList.drop p) (n + 1) with
          | some k =>
            have hkn := lastK_lt _ _ _ hk
            have hw3 := HW2.out
            rw [hk] at hw3 HLI
            have HW3 := Lib.hid hw3
            have HLI2 : Hid (∀ W, Calls Tryd.prog 78 #[.string (s.extract p (n + p + 1)), .string ⟨#[32]⟩] W fun e w' => e = .returned (.int .i64 (k : Int)) ∧ w' = W) := Lib.hid (fun W => by have h := HLI.out W; simpa [resAt] using h)
            have hpz : (s.extract p (k + p)).toList = (s.toList.drop p).take k := by rw [tl_extract, show k + p - p = k by omega]
            have HPZ := Lib.hid hpz
            have HSZ : Hid ((s.extract p (k + p)).size ≤ 2000) := Lib.hid (by rw [size_extract _ _ _ (by omega) (by omega)]; omega)
            clear hk hw3 HLI hpz
            go_wp2_with fail
            refine (HLI2.out _).mono ?_
            rintro e w2 ⟨rfl, rfl⟩
            go_wp2_with fail
            refine (WS.out (acc) (s.extract p (k + p)) _ HI.out HB.out.size (by have := HLA.out; omega) (by exact HSZ.out)).mono ?_
            rintro e w3 ⟨rfl, hI3, hB3⟩
            have HI3 := Lib.hid hI3
            have HB3 := Lib.hid (HB.out.trans hB3)
            clear hI3 hB3
            go_wp2_with fail
            refine (WS.out (acc ++ (s.extract p (k + p)).toList) E _ HI3.out HB3.out.size (by rw [List.length_append, ← len_eq]; have := HLA.out; have := HSZ.out; omega) (by omega)).mono ?_
            rintro e w4 ⟨rfl, hI4, hB4⟩
            have HI4 := Lib.hid hI4
            have HB4 := Lib.hid (HB3.out.trans hB4)
            clear hI4 hB4
            go_wp2_with fail
            go_roundg m
            case measure => exact Nat.lt_succ_self m
            case rel =>
              refine ⟨k + p + 1, acc ++ (s.extract p (k + p)).toList ++ E.toList, _, _, _, _, _, by congr 1 <;> omega, rfl, rfl, rfl, rfl, rfl, Lib.hid (by omega), Lib.hid (by have := HF.out; omega), HI4, HB4, Lib.hid ?_, Lib.hid (by rw [List.length_append, List.length_append, ← len_eq, ← len_eq]; have := HLA.out; have := HSZ.out; omega)⟩
              rw [HPZ.out, ← HW3.out, List.drop_drop, show p + (k + 1) = k + p + 1 by omega]; simp only [List.append_assoc]
          | none =>
            have hw3 := HW2.out
            rw [hk] at hw3 HLI
            have HW3 := Lib.hid hw3
            have HLI2 : Hid (∀ W, Calls Tryd.prog 78 #[.string (s.extract p (n + p + 1)), .string ⟨#[32]⟩] W fun e w' => e = .returned (.int .i64 (-1)) ∧ w' = W) := Lib.hid (fun W => by have h := HLI.out W; simpa [resAt] using h)
            clear hk hw3 HLI
            cases cut with
            | true =>
              have hpz : (s.extract p (n + p)).toList = (s.toList.drop p).take n := by rw [tl_extract, show n + p - p = n by omega]
              have HPZ := Lib.hid hpz
              have HSZ : Hid ((s.extract p (n + p)).size ≤ 2000) := Lib.hid (by rw [size_extract _ _ _ (by omega) (by omega)]; omega)
              clear hpz
              go_wp2_with fail
              refine (HLI2.out _).mono ?_
              rintro e w2 ⟨rfl, rfl⟩
              go_wp2_with fail
              refine (WS.out (acc) (s.extract p (n + p)) _ HI.out HB.out.size (by have := HLA.out; omega) (by exact HSZ.out)).mono ?_
              rintro e w3 ⟨rfl, hI3, hB3⟩
              have HI3 := Lib.hid hI3
              have HB3 := Lib.hid (HB.out.trans hB3)
              clear hI3 hB3
              go_wp2_with fail
              refine (WS.out (acc ++ (s.extract p (n + p)).toList) E _ HI3.out HB3.out.size (by rw [List.length_append, ← len_eq]; have := HLA.out; have := HSZ.out; omega) (by omega)).mono ?_
              rintro e w4 ⟨rfl, hI4, hB4⟩
              have HI4 := Lib.hid hI4
              have HB4 := Lib.hid (HB3.out.trans hB4)
              clear hI4 hB4
              go_wp2_with fail
              go_roundg m
              case measure => exact Nat.lt_succ_self m
              case rel =>
                refine ⟨n + p, acc ++ (s.extract p (n + p)).toList ++ E.toList, _, _, _, _, _, by congr 1 <;> omega, rfl, rfl, rfl, rfl, rfl, Lib.hid (by omega), Lib.hid (by have := HF.out; omega), HI4, HB4, Lib.hid ?_, Lib.hid (by rw [List.length_append, List.length_append, ← len_eq, ← len_eq]; have := HLA.out; have := HSZ.out; omega)⟩
                have h := HW3.out
                rw [if_pos trivial, List.drop_drop] at h
                rw [HPZ.out, ← h, show p + n = n + p by omega]; simp only [List.append_assoc]
            | false =>
              have hzi := Lib.hid (fun W => zzindex_walk (s.extract (n + p) s.size) W (by rw [size_extract _ _ _ (by omega) (Nat.le_refl _)]; omega) (by intro c hc; rw [extract_self] at hc; exact HA.out c (List.mem_of_mem_drop hc)))
              have hez : (s.extract (n + p) s.size).toList = (s.toList.drop p).drop n := by rw [extract_self, List.drop_drop, show p + n = n + p by omega]
              rw [hez] at hzi
              have hlen : ((s.toList.drop p).drop n).length = s.size - (n + p) := by rw [List.length_drop, List.length_drop, ← hl.out]; omega
              cases hj : blankB ((s.toList.drop p).drop n) with
              | none =>
                rw [hj] at hzi
                have hzi2 : Hid (∀ W, Calls Tryd.prog 80 #[.string (s.extract (n + p) s.size), .int .i32 32] W fun e w' => e = .returned (.int .i64 (-1)) ∧ Below W.heap.size W w') := Lib.hid (fun W => by have h := hzi.out W; simpa [resAt] using h)
                have hw4 := HW3.out
                rw [hj] at hw4
                have HW4 := Lib.hid hw4
                have HSZ : Hid ((s.extract p s.size).size ≤ 2000) := Lib.hid (by rw [size_extract _ _ _ (by omega) (Nat.le_refl _)]; omega)
                clear hj hzi hez hlen hw4
                go_wp2_with fail
                refine (HLI2.out _).mono ?_
                rintro e w2 ⟨rfl, rfl⟩
                go_wp2_with fail
                refine (hzi2.out _).mono ?_
                rintro e w2 ⟨rfl, hb2⟩
                have HI2 := Lib.hid (bufferBelow HI.out hb2)
                have HB2 := Lib.hid (HB.out.trans (hb2.mono HB.out.size))
                clear hb2
                go_wp2_with fail
                refine (WS.out (acc) (s.extract p s.size) _ HI2.out HB2.out.size (by have := HLA.out; omega) (by exact HSZ.out)).mono ?_
                rintro e w3 ⟨rfl, hI3, hB3⟩
                have HI3 := Lib.hid hI3
                have HB3 := Lib.hid (HB2.out.trans hB3)
                clear hI3 hB3
                go_wp2_with fail
                go_roundg m
                case measure => exact Nat.lt_succ_self m
                case rel =>
                  refine ⟨s.size, acc ++ (s.extract p s.size).toList, _, _, _, _, _, rfl, rfl, rfl, rfl, rfl, rfl, Lib.hid (Nat.le_refl _), Lib.hid (by omega), HI3, HB3, Lib.hid ?_, Lib.hid (by rw [List.length_append, ← len_eq]; have := HLA.out; have := HSZ.out; omega)⟩
                  rw [wrapL_end _ _ _ _ _ (by rw [List.length_drop, ← hl.out]; omega), List.drop_eq_nil_of_le (by rw [← hl.out]; exact Nat.le_refl _), List.append_nil, extract_self]
                  exact HW4.out
              | some j =>
                rw [hj] at hzi
                have hjl := blankB_lt _ _ hj
                rw [hlen] at hjl
                have hzi2 : Hid (∀ W, Calls Tryd.prog 80 #[.string (s.extract (n + p) s.size), .int .i32 32] W fun e w' => e = .returned (.int .i64 (j : Int)) ∧ Below W.heap.size W w') := Lib.hid (fun W => by have h := hzi.out W; simpa [resAt] using h)
                have hw4 := HW3.out
                rw [hj] at hw4
                have HW4 := Lib.hid hw4
                have hpz : (s.extract p (j + (n + p))).toList = (s.toList.drop p).take (n + j) := by rw [tl_extract, show j + (n + p) - p = n + j by omega]
                have HPZ := Lib.hid hpz
                have HSZ : Hid ((s.extract p (j + (n + p))).size ≤ 2000) := Lib.hid (by rw [size_extract _ _ _ (by omega) (by omega)]; omega)
                clear hj hzi hez hlen hw4 hpz
                go_wp2_with fail
                refine (HLI2.out _).mono ?_
                rintro e w2 ⟨rfl, rfl⟩
                go_wp2_with fail
                refine (hzi2.out _).mono ?_
                rintro e w2 ⟨rfl, hb2⟩
                have HI2 := Lib.hid (bufferBelow HI.out hb2)
                have HB2 := Lib.hid (HB.out.trans (hb2.mono HB.out.size))
                clear hb2
                go_wp2_with fail
                refine (WS.out (acc) (s.extract p (j + (n + p))) _ HI2.out HB2.out.size (by have := HLA.out; omega) (by exact HSZ.out)).mono ?_
                rintro e w3 ⟨rfl, hI3, hB3⟩
                have HI3 := Lib.hid hI3
                have HB3 := Lib.hid (HB2.out.trans hB3)
                clear hI3 hB3
                go_wp2_with fail
                refine (WS.out (acc ++ (s.extract p (j + (n + p))).toList) E _ HI3.out HB3.out.size (by rw [List.length_append, ← len_eq]; have := HLA.out; have := HSZ.out; omega) (by omega)).mono ?_
                rintro e w4 ⟨rfl, hI4, hB4⟩
                have HI4 := Lib.hid hI4
                have HB4 := Lib.hid (HB3.out.trans hB4)
                clear hI4 hB4
                go_wp2_with fail
                go_roundg m
                case measure => exact Nat.lt_succ_self m
                case rel =>
                  refine ⟨j + (n + p) + 1, acc ++ (s.extract p (j + (n + p))).toList ++ E.toList, _, _, _, _, _, by congr 1 <;> omega, rfl, rfl, rfl, rfl, rfl, Lib.hid (by omega), Lib.hid (by have := HF.out; omega), HI4, HB4, Lib.hid ?_, Lib.hid (by rw [List.length_append, List.length_append, ← len_eq, ← len_eq]; have := HLA.out; have := HSZ.out; omega)⟩
                  have h := HW4.out
                  simp only [Bool.false_eq_true, if_false] at h
                  rw [List.drop_drop, show p + (n + j + 1) = j + (n + p) + 1 by omega] at h
                  rw [HPZ.out, ← h]; simp only [List.append_assoc]
    · have HSZ : Hid ((s.extract p s.size).size ≤ 2000) := Lib.hid (by rw [size_extract _ _ _ HP.out (Nat.le_refl _)]; omega)
      have hfin : acc ++ (s.extract p s.size).toList = R := by
        rw [← HT.out, extract_self, wrapL_end _ _ _ _ _ (by rw [List.length_drop, ← hl.out]; omega)]
      have HFIN := Lib.hid hfin
      have hpp : p ≤ s.size := HP.out
      clear hfin
      go_wp2_with fail
      refine (WS.out (acc) (s.extract p s.size) _ HI.out HB.out.size (by have := HLA.out; have := HP.out; omega) (by exact HSZ.out)).mono ?_
      rintro e w3 ⟨rfl, hI3, hB3⟩
      have HI3 := Lib.hid hI3
      have HB3 := Lib.hid (HB.out.trans hB3)
      clear hI3 hB3
      go_wp2_with fail
      have hbuf := HI3.out
      rw [HFIN.out] at hbuf
      have HI4 := Lib.hid hbuf
      clear hbuf
      refine (Tryd.Buffer_String w.heap.size w.heap.size R w3 HI4.out).mono ?_
      rintro e w5 ⟨rfl, nn, rfl⟩
      have HB5 := Lib.hid (pw_below_drewN HB3.out nn)
      go_wp2_with fail
      go_ret
      exact ⟨rfl, HB5.out⟩

set_option maxHeartbeats 8000000 in
theorem wrap_b (s E : ByteArray) (n : Nat) (wide : Int) (cut : Bool) (w : World) (hs : s.size ≤ 1000) (he : E.size ≤ 1000) (h1 : 1 ≤ s.size) (he1 : 1 ≤ E.size) (hn1 : 1 ≤ n) (hn2 : n ≤ 1000000) (ha : asciiB s) (hw : wide < 1) (hn : n = 1) :
    Calls Tryd.prog 55 #[.string s, .int .i64 wide, .string E, .bool cut] w fun e w' => e = .returned (.string ⟨(wrapL n E.toList cut s.size s.toList).toArray⟩) ∧ Below w.heap.size w w' := by
  have hs0 : (s.toList == ([] : List UInt8)) = false := by
    cases h : s.toList with
    | nil => have := len_eq s; rw [h, List.length_nil] at this; omega
    | cons a t => rfl
  have he0 : (E.toList == ([] : List UInt8)) = false := by
    cases h : E.toList with
    | nil => have := len_eq E; rw [h, List.length_nil] at this; omega
    | cons a t => rfl
  have HA := Lib.hid ha
  have hl := Lib.hid (len_eq s)
  have WS : Hid (∀ (acc : List UInt8) (t : ByteArray) (W : World), Lib.IsBuffer 69 5 w.heap.size w.heap.size (Lib.byteCells acc) W → w.heap.size ≤ W.heap.size → acc.length ≤ 100000000 → t.size ≤ 2000 → Calls Tryd.prog 79 #[.pointer (some ⟨w.heap.size, 0, none⟩), .string t] W fun e w' => e = .returned (.tuple #[.int .i64 t.size, .nilIface]) ∧ Lib.IsBuffer 69 5 w.heap.size w.heap.size (Lib.byteCells (acc ++ t.toList)) w' ∧ Below w.heap.size W w') := Lib.hid (by
    intro acc t W h1 h2 h3 h4
    have h := Tryd.Buffer_WriteString w.heap.size w.heap.size (Lib.byteCells acc) t W h1 h2 (by intro v hv; obtain ⟨z, _, rfl⟩ := List.mem_map.1 hv; rfl) (by rw [bytes_len]; omega)
    refine h.mono ?_
    rintro e w' ⟨rfl, hI, hB⟩
    rw [← Lib.toList_data, bytes_app] at hI
    exact ⟨rfl, hI, hB⟩)
  obtain ⟨R, hR⟩ : ∃ R, R = wrapL n E.toList cut s.size s.toList := ⟨_, rfl⟩
  rw [← hR]
  have HR := Lib.hid hR
  have HN := Lib.hid hn
  clear hn
  clear hR ha
  go_enter Tryd.func55, Tryd.ntmps55
  go_wp2_with fail
  have hsw : ∀ l : List Value, (Value.int .i64 1 :: Value.string E :: l) = (Value.int .i64 (n : Int) :: Value.string E :: l) := fun l => by rw [HN.out]; rfl
  rw [hsw]
  clear hsw
  have HB0 := Lib.hid (Lib.fresh_isBuffer 69 5 w)
  go_loopg [10, 12, 13, 14, 15, 16] s.size (fun kq v10 v12 v13 v14 v15 v16 wr => ∃ (p : Nat) (acc : List UInt8) (x12 x13 x14 x15 x16 : Value), v10 = .int .i64 (p : Int) ∧ v12 = x12 ∧ v13 = x13 ∧ v14 = x14 ∧ v15 = x15 ∧ v16 = x16 ∧ Hid (p ≤ s.size) ∧ Hid (s.size ≤ p + kq) ∧ Hid (Lib.IsBuffer 69 5 w.heap.size w.heap.size (Lib.byteCells acc) wr) ∧ Hid (Below w.heap.size w wr) ∧ Hid (acc ++ wrapL n E.toList cut kq (s.toList.drop p) = R) ∧ Hid (acc.length ≤ 3000 * p))
  case atStart => exact ⟨0, [], _, _, _, _, _, rfl, rfl, rfl, rfl, rfl, rfl, Lib.hid (Nat.zero_le _), Lib.hid (by omega), HB0, Lib.hid ((Below.refl _ _).alloc (Nat.le_refl _) _), Lib.hid (by rw [HR.out]; rfl), Lib.hid (Nat.zero_le _)⟩
  case round =>
    obtain ⟨p, acc, x12, x13, x14, x15, x16, rfl, rfl, rfl, rfl, rfl, rfl, HP, HF, HI, HB, HT, HLA⟩ := hrel
    by_cases hpn : n + p < s.size
    · cases gk with
      | zero => exact absurd HF.out (by omega)
      | succ m =>
        have hp : p < s.size := by omega
        have hlt : p < s.toList.length := by have := hl.out; omega
        obtain ⟨c, hc⟩ : ∃ c, c = s.toList[p] := ⟨_, rfl⟩
        have hdr : s.toList.drop p = c :: s.toList.drop (p + 1) := by rw [hc]; exact List.drop_eq_getElem_cons hlt
        have hix : s[p]'hp = c := by rw [hc]; exact index_byte s p hlt hp
        have HC7 : Hid (c.toNat < 128) := Lib.hid (HA.out c (by rw [hc]; exact List.getElem_mem hlt))
        have hll : n < (s.toList.drop p).length := by rw [List.length_drop, ← hl.out]; omega
        have hg0 : (s.toList.drop p).getD 0 0 = c := by rw [hdr]; rfl
        have hwr := HT.out
        rw [wrapL, if_pos hll, hg0] at hwr
        have HWR := Lib.hid hwr
        clear hc hdr hll hg0 hwr hlt
        obtain ⟨x, hx⟩ : ∃ x, x = c.toNat := ⟨_, rfl⟩
        have HX := Lib.hid hx
        by_cases h32 : x = 32
        · have hwr := HWR.out
          rw [if_pos (by rw [← hx]; exact h32), List.drop_drop] at hwr
          have HW2 := Lib.hid hwr
          have hce : c.toNat = 32 := by rw [← hx]; exact h32
          clear hwr hx
          go_wp2_with fail
          go_roundg m
          case measure => exact Nat.lt_succ_self m
          case rel => exact ⟨p + 1, acc, _, _, _, _, _, by simp, rfl, rfl, rfl, rfl, rfl, Lib.hid (by omega), Lib.hid (by have := HF.out; omega), HI, HB, HW2, Lib.hid (by have := HLA.out; omega)⟩
        · have hwr := HWR.out
          rw [if_neg (by rw [← hx]; exact h32)] at hwr
          have HW2 := Lib.hid hwr
          have hcn : ¬ c.toNat = 32 := by rw [← hx]; exact h32
          have hc7 : c.toNat < 128 := HC7.out
          have hcw : (wrap32 (c.toNat : Int) == 32) = false := by rw [show wrap32 (c.toNat : Int) = (c.toNat : Int) by unfold wrap32; omega]; exact beq_eq_false_iff_ne.2 (by omega)
          clear hwr hx
          have hLI : ∀ W, Calls Tryd.prog 78 #[.string (s.extract p (n + p + 1)), .string ⟨#[32]⟩] W fun e w' => e = .returned (.int .i64 (resAt 0 (lastK (s.toList.drop p) (n + 1)))) ∧ w' = W := by
            intro W
            have hz : (s.extract p (n + p + 1)).size = n + 1 := by rw [size_extract _ _ _ (by omega) (by omega)]; omega
            have h := Tryd.strings_LastIndex_one (s.extract p (n + p + 1)) ⟨#[32]⟩ rfl (by rw [hz]; omega) W
            have e : Lib.lastIndexByte (s.extract p (n + p + 1)) (((⟨#[32]⟩ : ByteArray)[0]'(by decide)).toNat : Int) = resAt 0 (lastK (s.toList.drop p) (n + 1)) := by
              show Lib.lastIdx (s.extract p (n + p + 1)) 32 (s.extract p (n + p + 1)).size = _
              rw [last_eq, hz, tl_extract, show n + p + 1 - p = n + 1 by omega, lastK_take _ _ _ (Nat.le_refl _)]
            rw [e] at h
            exact h
          have HLI := Lib.hid hLI
          clear hLI
          cases hk : lastK (s.toList.drop p) (n + 1) with
          | some k =>
            have hkn := lastK_lt _ _ _ hk
            have hw3 := HW2.out
            rw [hk] at hw3 HLI
            have HW3 := Lib.hid hw3
            have HLI2 : Hid (∀ W, Calls Tryd.prog 78 #[.string (s.extract p (n + p + 1)), .string ⟨#[32]⟩] W fun e w' => e = .returned (.int .i64 (k : Int)) ∧ w' = W) := Lib.hid (fun W => by have h := HLI.out W; simpa [resAt] using h)
            have hpz : (s.extract p (k + p)).toList = (s.toList.drop p).take k := by rw [tl_extract, show k + p - p = k by omega]
            have HPZ := Lib.hid hpz
            have HSZ : Hid ((s.extract p (k + p)).size ≤ 2000) := Lib.hid (by rw [size_extract _ _ _ (by omega) (by omega)]; omega)
            clear hk hw3 HLI hpz
            go_wp2_with fail
            refine (HLI2.out _).mono ?_
            rintro e w2 ⟨rfl, rfl⟩
            go_wp2_with fail
            refine (WS.out (acc) (s.extract p (k + p)) _ HI.out HB.out.size (by have := HLA.out; omega) (by exact HSZ.out)).mono ?_
            rintro e w3 ⟨rfl, hI3, hB3⟩
            have HI3 := Lib.hid hI3
            have HB3 := Lib.hid (HB.out.trans hB3)
            clear hI3 hB3
            go_wp2_with fail
            refine (WS.out (acc ++ (s.extract p (k + p)).toList) E _ HI3.out HB3.out.size (by rw [List.length_append, ← len_eq]; have := HLA.out; have := HSZ.out; omega) (by omega)).mono ?_
            rintro e w4 ⟨rfl, hI4, hB4⟩
            have HI4 := Lib.hid hI4
            have HB4 := Lib.hid (HB3.out.trans hB4)
            clear hI4 hB4
            go_wp2_with fail
            go_roundg m
            case measure => exact Nat.lt_succ_self m
            case rel =>
              refine ⟨k + p + 1, acc ++ (s.extract p (k + p)).toList ++ E.toList, _, _, _, _, _, by congr 1 <;> omega, rfl, rfl, rfl, rfl, rfl, Lib.hid (by omega), Lib.hid (by have := HF.out; omega), HI4, HB4, Lib.hid ?_, Lib.hid (by rw [List.length_append, List.length_append, ← len_eq, ← len_eq]; have := HLA.out; have := HSZ.out; omega)⟩
              rw [HPZ.out, ← HW3.out, List.drop_drop, show p + (k + 1) = k + p + 1 by omega]; simp only [List.append_assoc]
          | none =>
            have hw3 := HW2.out
            rw [hk] at hw3 HLI
            have HW3 := Lib.hid hw3
            have HLI2 : Hid (∀ W, Calls Tryd.prog 78 #[.string (s.extract p (n + p + 1)), .string ⟨#[32]⟩] W fun e w' => e = .returned (.int .i64 (-1)) ∧ w' = W) := Lib.hid (fun W => by have h := HLI.out W; simpa [resAt] using h)
            clear hk hw3 HLI
            cases cut with
            | true =>
              have hpz : (s.extract p (n + p)).toList = (s.toList.drop p).take n := by rw [tl_extract, show n + p - p = n by omega]
              have HPZ := Lib.hid hpz
              have HSZ : Hid ((s.extract p (n + p)).size ≤ 2000) := Lib.hid (by rw [size_extract _ _ _ (by omega) (by omega)]; omega)
              clear hpz
              go_wp2_with fail
              refine (HLI2.out _).mono ?_
              rintro e w2 ⟨rfl, rfl⟩
              go_wp2_with fail
              refine (WS.out (acc) (s.extract p (n + p)) _ HI.out HB.out.size (by have := HLA.out; omega) (by exact HSZ.out)).mono ?_
              rintro e w3 ⟨rfl, hI3, hB3⟩
              have HI3 := Lib.hid hI3
              have HB3 := Lib.hid (HB.out.trans hB3)
              clear hI3 hB3
              go_wp2_with fail
              refine (WS.out (acc ++ (s.extract p (n + p)).toList) E _ HI3.out HB3.out.size (by rw [List.length_append, ← len_eq]; have := HLA.out; have := HSZ.out; omega) (by omega)).mono ?_
              rintro e w4 ⟨rfl, hI4, hB4⟩
              have HI4 := Lib.hid hI4
              have HB4 := Lib.hid (HB3.out.trans hB4)
              clear hI4 hB4
              go_wp2_with fail
              go_roundg m
              case measure => exact Nat.lt_succ_self m
              case rel =>
                refine ⟨n + p, acc ++ (s.extract p (n + p)).toList ++ E.toList, _, _, _, _, _, by congr 1 <;> omega, rfl, rfl, rfl, rfl, rfl, Lib.hid (by omega), Lib.hid (by have := HF.out; omega), HI4, HB4, Lib.hid ?_, Lib.hid (by rw [List.length_append, List.length_append, ← len_eq, ← len_eq]; have := HLA.out; have := HSZ.out; omega)⟩
                have h := HW3.out
                rw [if_pos trivial, List.drop_drop] at h
                rw [HPZ.out, ← h, show p + n = n + p by omega]; simp only [List.append_assoc]
            | false =>
              have hzi := Lib.hid (fun W => zzindex_walk (s.extract (n + p) s.size) W (by rw [size_extract _ _ _ (by omega) (Nat.le_refl _)]; omega) (by intro c hc; rw [extract_self] at hc; exact HA.out c (List.mem_of_mem_drop hc)))
              have hez : (s.extract (n + p) s.size).toList = (s.toList.drop p).drop n := by rw [extract_self, List.drop_drop, show p + n = n + p by omega]
              rw [hez] at hzi
              have hlen : ((s.toList.drop p).drop n).length = s.size - (n + p) := by rw [List.length_drop, List.length_drop, ← hl.out]; omega
              cases hj : blankB ((s.toList.drop p).drop n) with
              | none =>
                rw [hj] at hzi
                have hzi2 : Hid (∀ W, Calls Tryd.prog 80 #[.string (s.extract (n + p) s.size), .int .i32 32] W fun e w' => e = .returned (.int .i64 (-1)) ∧ Below W.heap.size W w') := Lib.hid (fun W => by have h := hzi.out W; simpa [resAt] using h)
                have hw4 := HW3.out
                rw [hj] at hw4
                have HW4 := Lib.hid hw4
                have HSZ : Hid ((s.extract p s.size).size ≤ 2000) := Lib.hid (by rw [size_extract _ _ _ (by omega) (Nat.le_refl _)]; omega)
                clear hj hzi hez hlen hw4
                go_wp2_with fail
                refine (HLI2.out _).mono ?_
                rintro e w2 ⟨rfl, rfl⟩
                go_wp2_with fail
                refine (hzi2.out _).mono ?_
                rintro e w2 ⟨rfl, hb2⟩
                have HI2 := Lib.hid (bufferBelow HI.out hb2)
                have HB2 := Lib.hid (HB.out.trans (hb2.mono HB.out.size))
                clear hb2
                go_wp2_with fail
                refine (WS.out (acc) (s.extract p s.size) _ HI2.out HB2.out.size (by have := HLA.out; omega) (by exact HSZ.out)).mono ?_
                rintro e w3 ⟨rfl, hI3, hB3⟩
                have HI3 := Lib.hid hI3
                have HB3 := Lib.hid (HB2.out.trans hB3)
                clear hI3 hB3
                go_wp2_with fail
                go_roundg m
                case measure => exact Nat.lt_succ_self m
                case rel =>
                  refine ⟨s.size, acc ++ (s.extract p s.size).toList, _, _, _, _, _, rfl, rfl, rfl, rfl, rfl, rfl, Lib.hid (Nat.le_refl _), Lib.hid (by omega), HI3, HB3, Lib.hid ?_, Lib.hid (by rw [List.length_append, ← len_eq]; have := HLA.out; have := HSZ.out; omega)⟩
                  rw [wrapL_end _ _ _ _ _ (by rw [List.length_drop, ← hl.out]; omega), List.drop_eq_nil_of_le (by rw [← hl.out]; exact Nat.le_refl _), List.append_nil, extract_self]
                  exact HW4.out
              | some j =>
                rw [hj] at hzi
                have hjl := blankB_lt _ _ hj
                rw [hlen] at hjl
                have hzi2 : Hid (∀ W, Calls Tryd.prog 80 #[.string (s.extract (n + p) s.size), .int .i32 32] W fun e w' => e = .returned (.int .i64 (j : Int)) ∧ Below W.heap.size W w') := Lib.hid (fun W => by have h := hzi.out W; simpa [resAt] using h)
                have hw4 := HW3.out
                rw [hj] at hw4
                have HW4 := Lib.hid hw4
                have hpz : (s.extract p (j + (n + p))).toList = (s.toList.drop p).take (n + j) := by rw [tl_extract, show j + (n + p) - p = n + j by omega]
                have HPZ := Lib.hid hpz
                have HSZ : Hid ((s.extract p (j + (n + p))).size ≤ 2000) := Lib.hid (by rw [size_extract _ _ _ (by omega) (by omega)]; omega)
                clear hj hzi hez hlen hw4 hpz
                go_wp2_with fail
                refine (HLI2.out _).mono ?_
                rintro e w2 ⟨rfl, rfl⟩
                go_wp2_with fail
                refine (hzi2.out _).mono ?_
                rintro e w2 ⟨rfl, hb2⟩
                have HI2 := Lib.hid (bufferBelow HI.out hb2)
                have HB2 := Lib.hid (HB.out.trans (hb2.mono HB.out.size))
                clear hb2
                go_wp2_with fail
                refine (WS.out (acc) (s.extract p (j + (n + p))) _ HI2.out HB2.out.size (by have := HLA.out; omega) (by exact HSZ.out)).mono ?_
                rintro e w3 ⟨rfl, hI3, hB3⟩
                have HI3 := Lib.hid hI3
                have HB3 := Lib.hid (HB2.out.trans hB3)
                clear hI3 hB3
                go_wp2_with fail
                refine (WS.out (acc ++ (s.extract p (j + (n + p))).toList) E _ HI3.out HB3.out.size (by rw [List.length_append, ← len_eq]; have := HLA.out; have := HSZ.out; omega) (by omega)).mono ?_
                rintro e w4 ⟨rfl, hI4, hB4⟩
                have HI4 := Lib.hid hI4
                have HB4 := Lib.hid (HB3.out.trans hB4)
                clear hI4 hB4
                go_wp2_with fail
                go_roundg m
                case measure => exact Nat.lt_succ_self m
                case rel =>
                  refine ⟨j + (n + p) + 1, acc ++ (s.extract p (j + (n + p))).toList ++ E.toList, _, _, _, _, _, by congr 1 <;> omega, rfl, rfl, rfl, rfl, rfl, Lib.hid (by omega), Lib.hid (by have := HF.out; omega), HI4, HB4, Lib.hid ?_, Lib.hid (by rw [List.length_append, List.length_append, ← len_eq, ← len_eq]; have := HLA.out; have := HSZ.out; omega)⟩
                  have h := HW4.out
                  simp only [Bool.false_eq_true, if_false] at h
                  rw [List.drop_drop, show p + (n + j + 1) = j + (n + p) + 1 by omega] at h
                  rw [HPZ.out, ← h]; simp only [List.append_assoc]
    · have HSZ : Hid ((s.extract p s.size).size ≤ 2000) := Lib.hid (by rw [size_extract _ _ _ HP.out (Nat.le_refl _)]; omega)
      have hfin : acc ++ (s.extract p s.size).toList = R := by
        rw [← HT.out, extract_self, wrapL_end _ _ _ _ _ (by rw [List.length_drop, ← hl.out]; omega)]
      have HFIN := Lib.hid hfin
      have hpp : p ≤ s.size := HP.out
      clear hfin
      go_wp2_with fail
      refine (WS.out (acc) (s.extract p s.size) _ HI.out HB.out.size (by have := HLA.out; have := HP.out; omega) (by exact HSZ.out)).mono ?_
      rintro e w3 ⟨rfl, hI3, hB3⟩
      have HI3 := Lib.hid hI3
      have HB3 := Lib.hid (HB.out.trans hB3)
      clear hI3 hB3
      go_wp2_with fail
      have hbuf := HI3.out
      rw [HFIN.out] at hbuf
      have HI4 := Lib.hid hbuf
      clear hbuf
      refine (Tryd.Buffer_String w.heap.size w.heap.size R w3 HI4.out).mono ?_
      rintro e w5 ⟨rfl, nn, rfl⟩
      have HB5 := Lib.hid (pw_below_drewN HB3.out nn)
      go_wp2_with fail
      go_ret
      exact ⟨rfl, HB5.out⟩

set_option maxHeartbeats 8000000 in
theorem wrap_c (s E e0 : ByteArray) (n : Nat) (cut : Bool) (w : World) (hs : s.size ≤ 1000) (he : E.size ≤ 1000) (h1 : 1 ≤ s.size) (he1 : 1 ≤ E.size) (hn1 : 1 ≤ n) (hn2 : n ≤ 1000000) (ha : asciiB s) (hemp : e0.toList = []) (hE : E = (⟨#[10]⟩ : ByteArray)) :
    Calls Tryd.prog 55 #[.string s, .int .i64 (n : Int), .string e0, .bool cut] w fun e w' => e = .returned (.string ⟨(wrapL n E.toList cut s.size s.toList).toArray⟩) ∧ Below w.heap.size w w' := by
  have hs0 : (s.toList == ([] : List UInt8)) = false := by
    cases h : s.toList with
    | nil => have := len_eq s; rw [h, List.length_nil] at this; omega
    | cons a t => rfl
  have he0 : (e0.toList == ([] : List UInt8)) = true := by rw [hemp]; rfl
  have HE := Lib.hid hE
  clear hemp hE
  have HA := Lib.hid ha
  have hl := Lib.hid (len_eq s)
  have WS : Hid (∀ (acc : List UInt8) (t : ByteArray) (W : World), Lib.IsBuffer 69 5 w.heap.size w.heap.size (Lib.byteCells acc) W → w.heap.size ≤ W.heap.size → acc.length ≤ 100000000 → t.size ≤ 2000 → Calls Tryd.prog 79 #[.pointer (some ⟨w.heap.size, 0, none⟩), .string t] W fun e w' => e = .returned (.tuple #[.int .i64 t.size, .nilIface]) ∧ Lib.IsBuffer 69 5 w.heap.size w.heap.size (Lib.byteCells (acc ++ t.toList)) w' ∧ Below w.heap.size W w') := Lib.hid (by
    intro acc t W h1 h2 h3 h4
    have h := Tryd.Buffer_WriteString w.heap.size w.heap.size (Lib.byteCells acc) t W h1 h2 (by intro v hv; obtain ⟨z, _, rfl⟩ := List.mem_map.1 hv; rfl) (by rw [bytes_len]; omega)
    refine h.mono ?_
    rintro e w' ⟨rfl, hI, hB⟩
    rw [← Lib.toList_data, bytes_app] at hI
    exact ⟨rfl, hI, hB⟩)
  obtain ⟨R, hR⟩ : ∃ R, R = wrapL n E.toList cut s.size s.toList := ⟨_, rfl⟩
  rw [← hR]
  have HR := Lib.hid hR
  have hnn : ¬ (n : Int) < 1 := by omega
  clear hR ha
  go_enter Tryd.func55, Tryd.ntmps55
  go_wp2_with fail
  rw [← HE.out]
  have HB0 := Lib.hid (Lib.fresh_isBuffer 69 5 w)
  go_loopg [10, 12, 13, 14, 15, 16] s.size (fun kq v10 v12 v13 v14 v15 v16 wr => ∃ (p : Nat) (acc : List UInt8) (x12 x13 x14 x15 x16 : Value), v10 = .int .i64 (p : Int) ∧ v12 = x12 ∧ v13 = x13 ∧ v14 = x14 ∧ v15 = x15 ∧ v16 = x16 ∧ Hid (p ≤ s.size) ∧ Hid (s.size ≤ p + kq) ∧ Hid (Lib.IsBuffer 69 5 w.heap.size w.heap.size (Lib.byteCells acc) wr) ∧ Hid (Below w.heap.size w wr) ∧ Hid (acc ++ wrapL n E.toList cut kq (s.toList.drop p) = R) ∧ Hid (acc.length ≤ 3000 * p))
  case atStart => exact ⟨0, [], _, _, _, _, _, rfl, rfl, rfl, rfl, rfl, rfl, Lib.hid (Nat.zero_le _), Lib.hid (by omega), HB0, Lib.hid ((Below.refl _ _).alloc (Nat.le_refl _) _), Lib.hid (by rw [HR.out]; rfl), Lib.hid (Nat.zero_le _)⟩
  case round =>
    obtain ⟨p, acc, x12, x13, x14, x15, x16, rfl, rfl, rfl, rfl, rfl, rfl, HP, HF, HI, HB, HT, HLA⟩ := hrel
    by_cases hpn : n + p < s.size
    · cases gk with
      | zero => exact absurd HF.out (by omega)
      | succ m =>
        have hp : p < s.size := by omega
        have hlt : p < s.toList.length := by have := hl.out; omega
        obtain ⟨c, hc⟩ : ∃ c, c = s.toList[p] := ⟨_, rfl⟩
        have hdr : s.toList.drop p = c :: s.toList.drop (p + 1) := by rw [hc]; exact List.drop_eq_getElem_cons hlt
        have hix : s[p]'hp = c := by rw [hc]; exact index_byte s p hlt hp
        have HC7 : Hid (c.toNat < 128) := Lib.hid (HA.out c (by rw [hc]; exact List.getElem_mem hlt))
        have hll : n < (s.toList.drop p).length := by rw [List.length_drop, ← hl.out]; omega
        have hg0 : (s.toList.drop p).getD 0 0 = c := by rw [hdr]; rfl
        have hwr := HT.out
        rw [wrapL, if_pos hll, hg0] at hwr
        have HWR := Lib.hid hwr
        clear hc hdr hll hg0 hwr hlt
        obtain ⟨x, hx⟩ : ∃ x, x = c.toNat := ⟨_, rfl⟩
        have HX := Lib.hid hx
        by_cases h32 : x = 32
        · have hwr := HWR.out
          rw [if_pos (by rw [← hx]; exact h32), List.drop_drop] at hwr
          have HW2 := Lib.hid hwr
          have hce : c.toNat = 32 := by rw [← hx]; exact h32
          clear hwr hx
          go_wp2_with fail
          go_roundg m
          case measure => exact Nat.lt_succ_self m
          case rel => exact ⟨p + 1, acc, _, _, _, _, _, by simp, rfl, rfl, rfl, rfl, rfl, Lib.hid (by omega), Lib.hid (by have := HF.out; omega), HI, HB, HW2, Lib.hid (by have := HLA.out; omega)⟩
        · have hwr := HWR.out
          rw [if_neg (by rw [← hx]; exact h32)] at hwr
          have HW2 := Lib.hid hwr
          have hcn : ¬ c.toNat = 32 := by rw [← hx]; exact h32
          have hc7 : c.toNat < 128 := HC7.out
          have hcw : (wrap32 (c.toNat : Int) == 32) = false := by rw [show wrap32 (c.toNat : Int) = (c.toNat : Int) by unfold wrap32; omega]; exact beq_eq_false_iff_ne.2 (by omega)
          clear hwr hx
          have hLI : ∀ W, Calls Tryd.prog 78 #[.string (s.extract p (n + p + 1)), .string ⟨#[32]⟩] W fun e w' => e = .returned (.int .i64 (resAt 0 (lastK (s.toList.drop p) (n + 1)))) ∧ w' = W := by
            intro W
            have hz : (s.extract p (n + p + 1)).size = n + 1 := by rw [size_extract _ _ _ (by omega) (by omega)]; omega
            have h := Tryd.strings_LastIndex_one (s.extract p (n + p + 1)) ⟨#[32]⟩ rfl (by rw [hz]; omega) W
            have e : Lib.lastIndexByte (s.extract p (n + p + 1)) (((⟨#[32]⟩ : ByteArray)[0]'(by decide)).toNat : Int) = resAt 0 (lastK (s.toList.drop p) (n + 1)) := by
              show Lib.lastIdx (s.extract p (n + p + 1)) 32 (s.extract p (n + p + 1)).size = _
              rw [last_eq, hz, tl_extract, show n + p + 1 - p = n + 1 by omega, lastK_take _ _ _ (Nat.le_refl _)]
            rw [e] at h
            exact h
          have HLI := Lib.hid hLI
          clear hLI
          cases hk : lastK (s.toList.drop p) (n + 1) with
          | some k =>
            have hkn := lastK_lt _ _ _ hk
            have hw3 := HW2.out
            rw [hk] at hw3 HLI
            have HW3 := Lib.hid hw3
            have HLI2 : Hid (∀ W, Calls Tryd.prog 78 #[.string (s.extract p (n + p + 1)), .string ⟨#[32]⟩] W fun e w' => e = .returned (.int .i64 (k : Int)) ∧ w' = W) := Lib.hid (fun W => by have h := HLI.out W; simpa [resAt] using h)
            have hpz : (s.extract p (k + p)).toList = (s.toList.drop p).take k := by rw [tl_extract, show k + p - p = k by omega]
            have HPZ := Lib.hid hpz
            have HSZ : Hid ((s.extract p (k + p)).size ≤ 2000) := Lib.hid (by rw [size_extract _ _ _ (by omega) (by omega)]; omega)
            clear hk hw3 HLI hpz
            go_wp2_with fail
            refine (HLI2.out _).mono ?_
            rintro e w2 ⟨rfl, rfl⟩
            go_wp2_with fail
            refine (WS.out (acc) (s.extract p (k + p)) _ HI.out HB.out.size (by have := HLA.out; omega) (by exact HSZ.out)).mono ?_
            rintro e w3 ⟨rfl, hI3, hB3⟩
            have HI3 := Lib.hid hI3
            have HB3 := Lib.hid (HB.out.trans hB3)
            clear hI3 hB3
            go_wp2_with fail
            refine (WS.out (acc ++ (s.extract p (k + p)).toList) E _ HI3.out HB3.out.size (by rw [List.length_append, ← len_eq]; have := HLA.out; have := HSZ.out; omega) (by omega)).mono ?_
            rintro e w4 ⟨rfl, hI4, hB4⟩
            have HI4 := Lib.hid hI4
            have HB4 := Lib.hid (HB3.out.trans hB4)
            clear hI4 hB4
            go_wp2_with fail
            go_roundg m
            case measure => exact Nat.lt_succ_self m
            case rel =>
              refine ⟨k + p + 1, acc ++ (s.extract p (k + p)).toList ++ E.toList, _, _, _, _, _, by congr 1 <;> omega, rfl, rfl, rfl, rfl, rfl, Lib.hid (by omega), Lib.hid (by have := HF.out; omega), HI4, HB4, Lib.hid ?_, Lib.hid (by rw [List.length_append, List.length_append, ← len_eq, ← len_eq]; have := HLA.out; have := HSZ.out; omega)⟩
              rw [HPZ.out, ← HW3.out, List.drop_drop, show p + (k + 1) = k + p + 1 by omega]; simp only [List.append_assoc]
          | none =>
            have hw3 := HW2.out
            rw [hk] at hw3 HLI
            have HW3 := Lib.hid hw3
            have HLI2 : Hid (∀ W, Calls Tryd.prog 78 #[.string (s.extract p (n + p + 1)), .string ⟨#[32]⟩] W fun e w' => e = .returned (.int .i64 (-1)) ∧ w' = W) := Lib.hid (fun W => by have h := HLI.out W; simpa [resAt] using h)
            clear hk hw3 HLI
            cases cut with
            | true =>
              have hpz : (s.extract p (n + p)).toList = (s.toList.drop p).take n := by rw [tl_extract, show n + p - p = n by omega]
              have HPZ := Lib.hid hpz
              have HSZ : Hid ((s.extract p (n + p)).size ≤ 2000) := Lib.hid (by rw [size_extract _ _ _ (by omega) (by omega)]; omega)
              clear hpz
              go_wp2_with fail
              refine (HLI2.out _).mono ?_
              rintro e w2 ⟨rfl, rfl⟩
              go_wp2_with fail
              refine (WS.out (acc) (s.extract p (n + p)) _ HI.out HB.out.size (by have := HLA.out; omega) (by exact HSZ.out)).mono ?_
              rintro e w3 ⟨rfl, hI3, hB3⟩
              have HI3 := Lib.hid hI3
              have HB3 := Lib.hid (HB.out.trans hB3)
              clear hI3 hB3
              go_wp2_with fail
              refine (WS.out (acc ++ (s.extract p (n + p)).toList) E _ HI3.out HB3.out.size (by rw [List.length_append, ← len_eq]; have := HLA.out; have := HSZ.out; omega) (by omega)).mono ?_
              rintro e w4 ⟨rfl, hI4, hB4⟩
              have HI4 := Lib.hid hI4
              have HB4 := Lib.hid (HB3.out.trans hB4)
              clear hI4 hB4
              go_wp2_with fail
              go_roundg m
              case measure => exact Nat.lt_succ_self m
              case rel =>
                refine ⟨n + p, acc ++ (s.extract p (n + p)).toList ++ E.toList, _, _, _, _, _, by congr 1 <;> omega, rfl, rfl, rfl, rfl, rfl, Lib.hid (by omega), Lib.hid (by have := HF.out; omega), HI4, HB4, Lib.hid ?_, Lib.hid (by rw [List.length_append, List.length_append, ← len_eq, ← len_eq]; have := HLA.out; have := HSZ.out; omega)⟩
                have h := HW3.out
                rw [if_pos trivial, List.drop_drop] at h
                rw [HPZ.out, ← h, show p + n = n + p by omega]; simp only [List.append_assoc]
            | false =>
              have hzi := Lib.hid (fun W => zzindex_walk (s.extract (n + p) s.size) W (by rw [size_extract _ _ _ (by omega) (Nat.le_refl _)]; omega) (by intro c hc; rw [extract_self] at hc; exact HA.out c (List.mem_of_mem_drop hc)))
              have hez : (s.extract (n + p) s.size).toList = (s.toList.drop p).drop n := by rw [extract_self, List.drop_drop, show p + n = n + p by omega]
              rw [hez] at hzi
              have hlen : ((s.toList.drop p).drop n).length = s.size - (n + p) := by rw [List.length_drop, List.length_drop, ← hl.out]; omega
              cases hj : blankB ((s.toList.drop p).drop n) with
              | none =>
                rw [hj] at hzi
                have hzi2 : Hid (∀ W, Calls Tryd.prog 80 #[.string (s.extract (n + p) s.size), .int .i32 32] W fun e w' => e = .returned (.int .i64 (-1)) ∧ Below W.heap.size W w') := Lib.hid (fun W => by have h := hzi.out W; simpa [resAt] using h)
                have hw4 := HW3.out
                rw [hj] at hw4
                have HW4 := Lib.hid hw4
                have HSZ : Hid ((s.extract p s.size).size ≤ 2000) := Lib.hid (by rw [size_extract _ _ _ (by omega) (Nat.le_refl _)]; omega)
                clear hj hzi hez hlen hw4
                go_wp2_with fail
                refine (HLI2.out _).mono ?_
                rintro e w2 ⟨rfl, rfl⟩
                go_wp2_with fail
                refine (hzi2.out _).mono ?_
                rintro e w2 ⟨rfl, hb2⟩
                have HI2 := Lib.hid (bufferBelow HI.out hb2)
                have HB2 := Lib.hid (HB.out.trans (hb2.mono HB.out.size))
                clear hb2
                go_wp2_with fail
                refine (WS.out (acc) (s.extract p s.size) _ HI2.out HB2.out.size (by have := HLA.out; omega) (by exact HSZ.out)).mono ?_
                rintro e w3 ⟨rfl, hI3, hB3⟩
                have HI3 := Lib.hid hI3
                have HB3 := Lib.hid (HB2.out.trans hB3)
                clear hI3 hB3
                go_wp2_with fail
                go_roundg m
                case measure => exact Nat.lt_succ_self m
                case rel =>
                  refine ⟨s.size, acc ++ (s.extract p s.size).toList, _, _, _, _, _, rfl, rfl, rfl, rfl, rfl, rfl, Lib.hid (Nat.le_refl _), Lib.hid (by omega), HI3, HB3, Lib.hid ?_, Lib.hid (by rw [List.length_append, ← len_eq]; have := HLA.out; have := HSZ.out; omega)⟩
                  rw [wrapL_end _ _ _ _ _ (by rw [List.length_drop, ← hl.out]; omega), List.drop_eq_nil_of_le (by rw [← hl.out]; exact Nat.le_refl _), List.append_nil, extract_self]
                  exact HW4.out
              | some j =>
                rw [hj] at hzi
                have hjl := blankB_lt _ _ hj
                rw [hlen] at hjl
                have hzi2 : Hid (∀ W, Calls Tryd.prog 80 #[.string (s.extract (n + p) s.size), .int .i32 32] W fun e w' => e = .returned (.int .i64 (j : Int)) ∧ Below W.heap.size W w') := Lib.hid (fun W => by have h := hzi.out W; simpa [resAt] using h)
                have hw4 := HW3.out
                rw [hj] at hw4
                have HW4 := Lib.hid hw4
                have hpz : (s.extract p (j + (n + p))).toList = (s.toList.drop p).take (n + j) := by rw [tl_extract, show j + (n + p) - p = n + j by omega]
                have HPZ := Lib.hid hpz
                have HSZ : Hid ((s.extract p (j + (n + p))).size ≤ 2000) := Lib.hid (by rw [size_extract _ _ _ (by omega) (by omega)]; omega)
                clear hj hzi hez hlen hw4 hpz
                go_wp2_with fail
                refine (HLI2.out _).mono ?_
                rintro e w2 ⟨rfl, rfl⟩
                go_wp2_with fail
                refine (hzi2.out _).mono ?_
                rintro e w2 ⟨rfl, hb2⟩
                have HI2 := Lib.hid (bufferBelow HI.out hb2)
                have HB2 := Lib.hid (HB.out.trans (hb2.mono HB.out.size))
                clear hb2
                go_wp2_with fail
                refine (WS.out (acc) (s.extract p (j + (n + p))) _ HI2.out HB2.out.size (by have := HLA.out; omega) (by exact HSZ.out)).mono ?_
                rintro e w3 ⟨rfl, hI3, hB3⟩
                have HI3 := Lib.hid hI3
                have HB3 := Lib.hid (HB2.out.trans hB3)
                clear hI3 hB3
                go_wp2_with fail
                refine (WS.out (acc ++ (s.extract p (j + (n + p))).toList) E _ HI3.out HB3.out.size (by rw [List.length_append, ← len_eq]; have := HLA.out; have := HSZ.out; omega) (by omega)).mono ?_
                rintro e w4 ⟨rfl, hI4, hB4⟩
                have HI4 := Lib.hid hI4
                have HB4 := Lib.hid (HB3.out.trans hB4)
                clear hI4 hB4
                go_wp2_with fail
                go_roundg m
                case measure => exact Nat.lt_succ_self m
                case rel =>
                  refine ⟨j + (n + p) + 1, acc ++ (s.extract p (j + (n + p))).toList ++ E.toList, _, _, _, _, _, by congr 1 <;> omega, rfl, rfl, rfl, rfl, rfl, Lib.hid (by omega), Lib.hid (by have := HF.out; omega), HI4, HB4, Lib.hid ?_, Lib.hid (by rw [List.length_append, List.length_append, ← len_eq, ← len_eq]; have := HLA.out; have := HSZ.out; omega)⟩
                  have h := HW4.out
                  simp only [Bool.false_eq_true, if_false] at h
                  rw [List.drop_drop, show p + (n + j + 1) = j + (n + p) + 1 by omega] at h
                  rw [HPZ.out, ← h]; simp only [List.append_assoc]
    · have HSZ : Hid ((s.extract p s.size).size ≤ 2000) := Lib.hid (by rw [size_extract _ _ _ HP.out (Nat.le_refl _)]; omega)
      have hfin : acc ++ (s.extract p s.size).toList = R := by
        rw [← HT.out, extract_self, wrapL_end _ _ _ _ _ (by rw [List.length_drop, ← hl.out]; omega)]
      have HFIN := Lib.hid hfin
      have hpp : p ≤ s.size := HP.out
      clear hfin
      go_wp2_with fail
      refine (WS.out (acc) (s.extract p s.size) _ HI.out HB.out.size (by have := HLA.out; have := HP.out; omega) (by exact HSZ.out)).mono ?_
      rintro e w3 ⟨rfl, hI3, hB3⟩
      have HI3 := Lib.hid hI3
      have HB3 := Lib.hid (HB.out.trans hB3)
      clear hI3 hB3
      go_wp2_with fail
      have hbuf := HI3.out
      rw [HFIN.out] at hbuf
      have HI4 := Lib.hid hbuf
      clear hbuf
      refine (Tryd.Buffer_String w.heap.size w.heap.size R w3 HI4.out).mono ?_
      rintro e w5 ⟨rfl, nn, rfl⟩
      have HB5 := Lib.hid (pw_below_drewN HB3.out nn)
      go_wp2_with fail
      go_ret
      exact ⟨rfl, HB5.out⟩

set_option maxHeartbeats 8000000 in
theorem wrap_d (s E e0 : ByteArray) (n : Nat) (wide : Int) (cut : Bool) (w : World) (hs : s.size ≤ 1000) (he : E.size ≤ 1000) (h1 : 1 ≤ s.size) (he1 : 1 ≤ E.size) (hn1 : 1 ≤ n) (hn2 : n ≤ 1000000) (ha : asciiB s) (hemp : e0.toList = []) (hE : E = (⟨#[10]⟩ : ByteArray)) (hw : wide < 1) (hn : n = 1) :
    Calls Tryd.prog 55 #[.string s, .int .i64 wide, .string e0, .bool cut] w fun e w' => e = .returned (.string ⟨(wrapL n E.toList cut s.size s.toList).toArray⟩) ∧ Below w.heap.size w w' := by
  have hs0 : (s.toList == ([] : List UInt8)) = false := by
    cases h : s.toList with
    | nil => have := len_eq s; rw [h, List.length_nil] at this; omega
    | cons a t => rfl
  have he0 : (e0.toList == ([] : List UInt8)) = true := by rw [hemp]; rfl
  have HE := Lib.hid hE
  clear hemp hE
  have HA := Lib.hid ha
  have hl := Lib.hid (len_eq s)
  have WS : Hid (∀ (acc : List UInt8) (t : ByteArray) (W : World), Lib.IsBuffer 69 5 w.heap.size w.heap.size (Lib.byteCells acc) W → w.heap.size ≤ W.heap.size → acc.length ≤ 100000000 → t.size ≤ 2000 → Calls Tryd.prog 79 #[.pointer (some ⟨w.heap.size, 0, none⟩), .string t] W fun e w' => e = .returned (.tuple #[.int .i64 t.size, .nilIface]) ∧ Lib.IsBuffer 69 5 w.heap.size w.heap.size (Lib.byteCells (acc ++ t.toList)) w' ∧ Below w.heap.size W w') := Lib.hid (by
    intro acc t W h1 h2 h3 h4
    have h := Tryd.Buffer_WriteString w.heap.size w.heap.size (Lib.byteCells acc) t W h1 h2 (by intro v hv; obtain ⟨z, _, rfl⟩ := List.mem_map.1 hv; rfl) (by rw [bytes_len]; omega)
    refine h.mono ?_
    rintro e w' ⟨rfl, hI, hB⟩
    rw [← Lib.toList_data, bytes_app] at hI
    exact ⟨rfl, hI, hB⟩)
  obtain ⟨R, hR⟩ : ∃ R, R = wrapL n E.toList cut s.size s.toList := ⟨_, rfl⟩
  rw [← hR]
  have HR := Lib.hid hR
  have HN := Lib.hid hn
  clear hn
  clear hR ha
  go_enter Tryd.func55, Tryd.ntmps55
  go_wp2_with fail
  rw [← HE.out]
  have hsw : ∀ l : List Value, (Value.int .i64 1 :: Value.string E :: l) = (Value.int .i64 (n : Int) :: Value.string E :: l) := fun l => by rw [HN.out]; rfl
  rw [hsw]
  clear hsw
  have HB0 := Lib.hid (Lib.fresh_isBuffer 69 5 w)
  go_loopg [10, 12, 13, 14, 15, 16] s.size (fun kq v10 v12 v13 v14 v15 v16 wr => ∃ (p : Nat) (acc : List UInt8) (x12 x13 x14 x15 x16 : Value), v10 = .int .i64 (p : Int) ∧ v12 = x12 ∧ v13 = x13 ∧ v14 = x14 ∧ v15 = x15 ∧ v16 = x16 ∧ Hid (p ≤ s.size) ∧ Hid (s.size ≤ p + kq) ∧ Hid (Lib.IsBuffer 69 5 w.heap.size w.heap.size (Lib.byteCells acc) wr) ∧ Hid (Below w.heap.size w wr) ∧ Hid (acc ++ wrapL n E.toList cut kq (s.toList.drop p) = R) ∧ Hid (acc.length ≤ 3000 * p))
  case atStart => exact ⟨0, [], _, _, _, _, _, rfl, rfl, rfl, rfl, rfl, rfl, Lib.hid (Nat.zero_le _), Lib.hid (by omega), HB0, Lib.hid ((Below.refl _ _).alloc (Nat.le_refl _) _), Lib.hid (by rw [HR.out]; rfl), Lib.hid (Nat.zero_le _)⟩
  case round =>
    obtain ⟨p, acc, x12, x13, x14, x15, x16, rfl, rfl, rfl, rfl, rfl, rfl, HP, HF, HI, HB, HT, HLA⟩ := hrel
    by_cases hpn : n + p < s.size
    · cases gk with
      | zero => exact absurd HF.out (by omega)
      | succ m =>
        have hp : p < s.size := by omega
        have hlt : p < s.toList.length := by have := hl.out; omega
        obtain ⟨c, hc⟩ : ∃ c, c = s.toList[p] := ⟨_, rfl⟩
        have hdr : s.toList.drop p = c :: s.toList.drop (p + 1) := by rw [hc]; exact List.drop_eq_getElem_cons hlt
        have hix : s[p]'hp = c := by rw [hc]; exact index_byte s p hlt hp
        have HC7 : Hid (c.toNat < 128) := Lib.hid (HA.out c (by rw [hc]; exact List.getElem_mem hlt))
        have hll : n < (s.toList.drop p).length := by rw [List.length_drop, ← hl.out]; omega
        have hg0 : (s.toList.drop p).getD 0 0 = c := by rw [hdr]; rfl
        have hwr := HT.out
        rw [wrapL, if_pos hll, hg0] at hwr
        have HWR := Lib.hid hwr
        clear hc hdr hll hg0 hwr hlt
        obtain ⟨x, hx⟩ : ∃ x, x = c.toNat := ⟨_, rfl⟩
        have HX := Lib.hid hx
        by_cases h32 : x = 32
        · have hwr := HWR.out
          rw [if_pos (by rw [← hx]; exact h32), List.drop_drop] at hwr
          have HW2 := Lib.hid hwr
          have hce : c.toNat = 32 := by rw [← hx]; exact h32
          clear hwr hx
          go_wp2_with fail
          go_roundg m
          case measure => exact Nat.lt_succ_self m
          case rel => exact ⟨p + 1, acc, _, _, _, _, _, by simp, rfl, rfl, rfl, rfl, rfl, Lib.hid (by omega), Lib.hid (by have := HF.out; omega), HI, HB, HW2, Lib.hid (by have := HLA.out; omega)⟩
        · have hwr := HWR.out
          rw [if_neg (by rw [← hx]; exact h32)] at hwr
          have HW2 := Lib.hid hwr
          have hcn : ¬ c.toNat = 32 := by rw [← hx]; exact h32
          have hc7 : c.toNat < 128 := HC7.out
          have hcw : (wrap32 (c.toNat : Int) == 32) = false := by rw [show wrap32 (c.toNat : Int) = (c.toNat : Int) by unfold wrap32; omega]; exact beq_eq_false_iff_ne.2 (by omega)
          clear hwr hx
          have hLI : ∀ W, Calls Tryd.prog 78 #[.string (s.extract p (n + p + 1)), .string ⟨#[32]⟩] W fun e w' => e = .returned (.int .i64 (resAt 0 (lastK (s.toList.drop p) (n + 1)))) ∧ w' = W := by
            intro W
            have hz : (s.extract p (n + p + 1)).size = n + 1 := by rw [size_extract _ _ _ (by omega) (by omega)]; omega
            have h := Tryd.strings_LastIndex_one (s.extract p (n + p + 1)) ⟨#[32]⟩ rfl (by rw [hz]; omega) W
            have e : Lib.lastIndexByte (s.extract p (n + p + 1)) (((⟨#[32]⟩ : ByteArray)[0]'(by decide)).toNat : Int) = resAt 0 (lastK (s.toList.drop p) (n + 1)) := by
              show Lib.lastIdx (s.extract p (n + p + 1)) 32 (s.extract p (n + p + 1)).size = _
              rw [last_eq, hz, tl_extract, show n + p + 1 - p = n + 1 by omega, lastK_take _ _ _ (Nat.le_refl _)]
            rw [e] at h
            exact h
          have HLI := Lib.hid hLI
          clear hLI
          cases hk : lastK (s.toList.drop p) (n + 1) with
          | some k =>
            have hkn := lastK_lt _ _ _ hk
            have hw3 := HW2.out
            rw [hk] at hw3 HLI
            have HW3 := Lib.hid hw3
            have HLI2 : Hid (∀ W, Calls Tryd.prog 78 #[.string (s.extract p (n + p + 1)), .string ⟨#[32]⟩] W fun e w' => e = .returned (.int .i64 (k : Int)) ∧ w' = W) := Lib.hid (fun W => by have h := HLI.out W; simpa [resAt] using h)
            have hpz : (s.extract p (k + p)).toList = (s.toList.drop p).take k := by rw [tl_extract, show k + p - p = k by omega]
            have HPZ := Lib.hid hpz
            have HSZ : Hid ((s.extract p (k + p)).size ≤ 2000) := Lib.hid (by rw [size_extract _ _ _ (by omega) (by omega)]; omega)
            clear hk hw3 HLI hpz
            go_wp2_with fail
            refine (HLI2.out _).mono ?_
            rintro e w2 ⟨rfl, rfl⟩
            go_wp2_with fail
            refine (WS.out (acc) (s.extract p (k + p)) _ HI.out HB.out.size (by have := HLA.out; omega) (by exact HSZ.out)).mono ?_
            rintro e w3 ⟨rfl, hI3, hB3⟩
            have HI3 := Lib.hid hI3
            have HB3 := Lib.hid (HB.out.trans hB3)
            clear hI3 hB3
            go_wp2_with fail
            refine (WS.out (acc ++ (s.extract p (k + p)).toList) E _ HI3.out HB3.out.size (by rw [List.length_append, ← len_eq]; have := HLA.out; have := HSZ.out; omega) (by omega)).mono ?_
            rintro e w4 ⟨rfl, hI4, hB4⟩
            have HI4 := Lib.hid hI4
            have HB4 := Lib.hid (HB3.out.trans hB4)
            clear hI4 hB4
            go_wp2_with fail
            go_roundg m
            case measure => exact Nat.lt_succ_self m
            case rel =>
              refine ⟨k + p + 1, acc ++ (s.extract p (k + p)).toList ++ E.toList, _, _, _, _, _, by congr 1 <;> omega, rfl, rfl, rfl, rfl, rfl, Lib.hid (by omega), Lib.hid (by have := HF.out; omega), HI4, HB4, Lib.hid ?_, Lib.hid (by rw [List.length_append, List.length_append, ← len_eq, ← len_eq]; have := HLA.out; have := HSZ.out; omega)⟩
              rw [HPZ.out, ← HW3.out, List.drop_drop, show p + (k + 1) = k + p + 1 by omega]; simp only [List.append_assoc]
          | none =>
            have hw3 := HW2.out
            rw [hk] at hw3 HLI
            have HW3 := Lib.hid hw3
            have HLI2 : Hid (∀ W, Calls Tryd.prog 78 #[.string (s.extract p (n + p + 1)), .string ⟨#[32]⟩] W fun e w' => e = .returned (.int .i64 (-1)) ∧ w' = W) := Lib.hid (fun W => by have h := HLI.out W; simpa [resAt] using h)
            clear hk hw3 HLI
            cases cut with
            | true =>
              have hpz : (s.extract p (n + p)).toList = (s.toList.drop p).take n := by rw [tl_extract, show n + p - p = n by omega]
              have HPZ := Lib.hid hpz
              have HSZ : Hid ((s.extract p (n + p)).size ≤ 2000) := Lib.hid (by rw [size_extract _ _ _ (by omega) (by omega)]; omega)
              clear hpz
              go_wp2_with fail
              refine (HLI2.out _).mono ?_
              rintro e w2 ⟨rfl, rfl⟩
              go_wp2_with fail
              refine (WS.out (acc) (s.extract p (n + p)) _ HI.out HB.out.size (by have := HLA.out; omega) (by exact HSZ.out)).mono ?_
              rintro e w3 ⟨rfl, hI3, hB3⟩
              have HI3 := Lib.hid hI3
              have HB3 := Lib.hid (HB.out.trans hB3)
              clear hI3 hB3
              go_wp2_with fail
              refine (WS.out (acc ++ (s.extract p (n + p)).toList) E _ HI3.out HB3.out.size (by rw [List.length_append, ← len_eq]; have := HLA.out; have := HSZ.out; omega) (by omega)).mono ?_
              rintro e w4 ⟨rfl, hI4, hB4⟩
              have HI4 := Lib.hid hI4
              have HB4 := Lib.hid (HB3.out.trans hB4)
              clear hI4 hB4
              go_wp2_with fail
              go_roundg m
              case measure => exact Nat.lt_succ_self m
              case rel =>
                refine ⟨n + p, acc ++ (s.extract p (n + p)).toList ++ E.toList, _, _, _, _, _, by congr 1 <;> omega, rfl, rfl, rfl, rfl, rfl, Lib.hid (by omega), Lib.hid (by have := HF.out; omega), HI4, HB4, Lib.hid ?_, Lib.hid (by rw [List.length_append, List.length_append, ← len_eq, ← len_eq]; have := HLA.out; have := HSZ.out; omega)⟩
                have h := HW3.out
                rw [if_pos trivial, List.drop_drop] at h
                rw [HPZ.out, ← h, show p + n = n + p by omega]; simp only [List.append_assoc]
            | false =>
              have hzi := Lib.hid (fun W => zzindex_walk (s.extract (n + p) s.size) W (by rw [size_extract _ _ _ (by omega) (Nat.le_refl _)]; omega) (by intro c hc; rw [extract_self] at hc; exact HA.out c (List.mem_of_mem_drop hc)))
              have hez : (s.extract (n + p) s.size).toList = (s.toList.drop p).drop n := by rw [extract_self, List.drop_drop, show p + n = n + p by omega]
              rw [hez] at hzi
              have hlen : ((s.toList.drop p).drop n).length = s.size - (n + p) := by rw [List.length_drop, List.length_drop, ← hl.out]; omega
              cases hj : blankB ((s.toList.drop p).drop n) with
              | none =>
                rw [hj] at hzi
                have hzi2 : Hid (∀ W, Calls Tryd.prog 80 #[.string (s.extract (n + p) s.size), .int .i32 32] W fun e w' => e = .returned (.int .i64 (-1)) ∧ Below W.heap.size W w') := Lib.hid (fun W => by have h := hzi.out W; simpa [resAt] using h)
                have hw4 := HW3.out
                rw [hj] at hw4
                have HW4 := Lib.hid hw4
                have HSZ : Hid ((s.extract p s.size).size ≤ 2000) := Lib.hid (by rw [size_extract _ _ _ (by omega) (Nat.le_refl _)]; omega)
                clear hj hzi hez hlen hw4
                go_wp2_with fail
                refine (HLI2.out _).mono ?_
                rintro e w2 ⟨rfl, rfl⟩
                go_wp2_with fail
                refine (hzi2.out _).mono ?_
                rintro e w2 ⟨rfl, hb2⟩
                have HI2 := Lib.hid (bufferBelow HI.out hb2)
                have HB2 := Lib.hid (HB.out.trans (hb2.mono HB.out.size))
                clear hb2
                go_wp2_with fail
                refine (WS.out (acc) (s.extract p s.size) _ HI2.out HB2.out.size (by have := HLA.out; omega) (by exact HSZ.out)).mono ?_
                rintro e w3 ⟨rfl, hI3, hB3⟩
                have HI3 := Lib.hid hI3
                have HB3 := Lib.hid (HB2.out.trans hB3)
                clear hI3 hB3
                go_wp2_with fail
                go_roundg m
                case measure => exact Nat.lt_succ_self m
                case rel =>
                  refine ⟨s.size, acc ++ (s.extract p s.size).toList, _, _, _, _, _, rfl, rfl, rfl, rfl, rfl, rfl, Lib.hid (Nat.le_refl _), Lib.hid (by omega), HI3, HB3, Lib.hid ?_, Lib.hid (by rw [List.length_append, ← len_eq]; have := HLA.out; have := HSZ.out; omega)⟩
                  rw [wrapL_end _ _ _ _ _ (by rw [List.length_drop, ← hl.out]; omega), List.drop_eq_nil_of_le (by rw [← hl.out]; exact Nat.le_refl _), List.append_nil, extract_self]
                  exact HW4.out
              | some j =>
                rw [hj] at hzi
                have hjl := blankB_lt _ _ hj
                rw [hlen] at hjl
                have hzi2 : Hid (∀ W, Calls Tryd.prog 80 #[.string (s.extract (n + p) s.size), .int .i32 32] W fun e w' => e = .returned (.int .i64 (j : Int)) ∧ Below W.heap.size W w') := Lib.hid (fun W => by have h := hzi.out W; simpa [resAt] using h)
                have hw4 := HW3.out
                rw [hj] at hw4
                have HW4 := Lib.hid hw4
                have hpz : (s.extract p (j + (n + p))).toList = (s.toList.drop p).take (n + j) := by rw [tl_extract, show j + (n + p) - p = n + j by omega]
                have HPZ := Lib.hid hpz
                have HSZ : Hid ((s.extract p (j + (n + p))).size ≤ 2000) := Lib.hid (by rw [size_extract _ _ _ (by omega) (by omega)]; omega)
                clear hj hzi hez hlen hw4 hpz
                go_wp2_with fail
                refine (HLI2.out _).mono ?_
                rintro e w2 ⟨rfl, rfl⟩
                go_wp2_with fail
                refine (hzi2.out _).mono ?_
                rintro e w2 ⟨rfl, hb2⟩
                have HI2 := Lib.hid (bufferBelow HI.out hb2)
                have HB2 := Lib.hid (HB.out.trans (hb2.mono HB.out.size))
                clear hb2
                go_wp2_with fail
                refine (WS.out (acc) (s.extract p (j + (n + p))) _ HI2.out HB2.out.size (by have := HLA.out; omega) (by exact HSZ.out)).mono ?_
                rintro e w3 ⟨rfl, hI3, hB3⟩
                have HI3 := Lib.hid hI3
                have HB3 := Lib.hid (HB2.out.trans hB3)
                clear hI3 hB3
                go_wp2_with fail
                refine (WS.out (acc ++ (s.extract p (j + (n + p))).toList) E _ HI3.out HB3.out.size (by rw [List.length_append, ← len_eq]; have := HLA.out; have := HSZ.out; omega) (by omega)).mono ?_
                rintro e w4 ⟨rfl, hI4, hB4⟩
                have HI4 := Lib.hid hI4
                have HB4 := Lib.hid (HB3.out.trans hB4)
                clear hI4 hB4
                go_wp2_with fail
                go_roundg m
                case measure => exact Nat.lt_succ_self m
                case rel =>
                  refine ⟨j + (n + p) + 1, acc ++ (s.extract p (j + (n + p))).toList ++ E.toList, _, _, _, _, _, by congr 1 <;> omega, rfl, rfl, rfl, rfl, rfl, Lib.hid (by omega), Lib.hid (by have := HF.out; omega), HI4, HB4, Lib.hid ?_, Lib.hid (by rw [List.length_append, List.length_append, ← len_eq, ← len_eq]; have := HLA.out; have := HSZ.out; omega)⟩
                  have h := HW4.out
                  simp only [Bool.false_eq_true, if_false] at h
                  rw [List.drop_drop, show p + (n + j + 1) = j + (n + p) + 1 by omega] at h
                  rw [HPZ.out, ← h]; simp only [List.append_assoc]
    · have HSZ : Hid ((s.extract p s.size).size ≤ 2000) := Lib.hid (by rw [size_extract _ _ _ HP.out (Nat.le_refl _)]; omega)
      have hfin : acc ++ (s.extract p s.size).toList = R := by
        rw [← HT.out, extract_self, wrapL_end _ _ _ _ _ (by rw [List.length_drop, ← hl.out]; omega)]
      have HFIN := Lib.hid hfin
      have hpp : p ≤ s.size := HP.out
      clear hfin
      go_wp2_with fail
      refine (WS.out (acc) (s.extract p s.size) _ HI.out HB.out.size (by have := HLA.out; have := HP.out; omega) (by exact HSZ.out)).mono ?_
      rintro e w3 ⟨rfl, hI3, hB3⟩
      have HI3 := Lib.hid hI3
      have HB3 := Lib.hid (HB.out.trans hB3)
      clear hI3 hB3
      go_wp2_with fail
      have hbuf := HI3.out
      rw [HFIN.out] at hbuf
      have HI4 := Lib.hid hbuf
      clear hbuf
      refine (Tryd.Buffer_String w.heap.size w.heap.size R w3 HI4.out).mono ?_
      rintro e w5 ⟨rfl, nn, rfl⟩
      have HB5 := Lib.hid (pw_below_drewN HB3.out nn)
      go_wp2_with fail
      go_ret
      exact ⟨rfl, HB5.out⟩

end Go.Proofs.YtpkdoinofenahaaDoor.Giv
