/- A walk of xstrings.Scrub: what it answers. -/
import Derived.Test.YtpkdoinofenahaaDoorTabs
import Derived.Test.YtpkdoinofenahaaDoorBld
namespace Go.Proofs.YtpkdoinofenahaaDoor.Giv
open Go.RowKit Go.Proofs.YtpkdoinofenahaaDoorW.PrintWords Go.Proofs.YtpkdoinofenahaaDoor.Txt
set_option linter.unusedVariables false
set_option maxRecDepth 20000

theorem strCells_eq' (s : ByteArray) : Lib.strCells s = Lib.byteCells s.toList := by
  rw [Lib.toList_data]
  rfl
theorem byteCells_app (a b : List UInt8) : Lib.byteCells a ++ Lib.byteCells b = Lib.byteCells (a ++ b) := by
  unfold Lib.byteCells; rw [List.map_append]
theorem byteCells_len (a : List UInt8) : (Lib.byteCells a).length = a.length := by unfold Lib.byteCells; rw [List.length_map]
theorem cut_list (s : ByteArray) (o p : Nat) (h : o ≤ p) (hp : p ≤ s.size) : ((s.extract o s.size).extract 0 (p - o)).toList = (s.toList.drop o).take (p - o) := by
  rw [extract_upto, extract_self]
theorem cut_tail (s : ByteArray) (o p : Nat) (h : o ≤ p) (hp : p ≤ s.size) : (s.extract o s.size).extract (p - o) (s.size - o) = s.extract p s.size := by
  apply ext_eq
  have hl := len_eq s
  rw [tl_extract, extract_self, extract_self, List.drop_drop, show o + (p - o) = p by omega, List.take_of_length_le]
  rw [List.length_drop]; omega
theorem cut_next (s : ByteArray) (p d : Nat) (h : p + d ≤ s.size) : (s.extract p s.size).extract d (s.size - p) = s.extract (p + d) s.size := by
  apply ext_eq
  have hl := len_eq s
  rw [tl_extract, extract_self, extract_self, List.drop_drop, List.take_of_length_le]
  rw [List.length_drop]; omega
theorem take_wid (l : List UInt8) (o p d : Nat) (h : o ≤ p) : (l.drop o).take (p + d - o) = (l.drop o).take (p - o) ++ (l.drop p).take d := by
  rw [show p + d - o = (p - o) + d by omega, List.take_add, List.drop_drop, show o + (p - o) = p by omega]

/-- What is to come out from a place on; 'bad': within a run of bad ones. -/
def scrubL (s other : ByteArray) : Nat → Nat → Bool → List UInt8
  | 0, _, _ => []
  | f + 1, p, bad => if p < s.size then (if (Utf8.decode s p).1 = 65533 then (if bad then [] else other.toList) ++ scrubL s other f (p + wid s p) true else (s.toList.drop p).take (wid s p) ++ scrubL s other f (p + wid s p) false) else []
theorem scrubL_end (s other : ByteArray) (f p : Nat) (bad : Bool) (h : ¬ p < s.size) : scrubL s other f p bad = [] := by
  cases f with
  | zero => rfl
  | succ f => rw [scrubL, if_neg h]
theorem scrubL_bad (s other : ByteArray) (f p : Nat) (bad : Bool) (h : p < s.size) (hc : (Utf8.decode s p).1 = 65533) : scrubL s other (f + 1) p bad = (if bad then [] else other.toList) ++ scrubL s other f (p + wid s p) true := by
  rw [scrubL, if_pos h, if_pos hc]
theorem scrubL_good (s other : ByteArray) (f p : Nat) (bad : Bool) (h : p < s.size) (hc : (Utf8.decode s p).1 ≠ 65533) : scrubL s other (f + 1) p bad = (s.toList.drop p).take (wid s p) ++ scrubL s other f (p + wid s p) false := by
  rw [scrubL, if_pos h, if_neg hc]
theorem owns_below {w w' : World} {B n m : Nat} {e : TypeId} {v : Value} {xs : List Value} (h : w.ownsRow B e m v n xs) (hb : Below w.heap.size w w') : w'.ownsRow B e m v n xs := by
  refine ⟨h.1, h.2.imp id ?_⟩
  rintro ⟨g, cap, cur, hv, hB, hg, r⟩
  have hlt : g < w.heap.size := by
    rcases Nat.lt_or_ge g w.heap.size with h' | h'
    · exact h'
    · simp [Array.getElem?_eq_none h'] at hg
  exact ⟨g, cap, cur, hv, hB, (hb.block g hlt).trans hg, r⟩
theorem builderAt_below {w w' : World} {B b : Nat} {T e : TypeId} {p : Value} {bs : List Value} (h : Lib.BuilderAt T e B b p bs w) (hb : Below w.heap.size w w') : Lib.BuilderAt T e B b p bs w' := by
  obtain ⟨hB, v, hbk, hown, hne⟩ := h
  have hlt : b < w.heap.size := by
    rcases Nat.lt_or_ge b w.heap.size with h' | h'
    · exact h'
    · simp [Array.getElem?_eq_none h'] at hbk
  exact ⟨hB, v, (hb.block b hlt).trans hbk, owns_below hown hb, hne⟩
theorem isBuilder_below {w w' : World} {B b : Nat} {T e : TypeId} {bs : List Value} (h : Lib.IsBuilder T e B b bs w) (hb : Below w.heap.size w w') : Lib.IsBuilder T e B b bs w' :=
  h.imp (fun h => builderAt_below h hb) (fun h => builderAt_below h hb)
/-- The loop's state: no builder yet; or one that holds what has come out. -/
def ScrubSt (s other : ByteArray) (T : List UInt8) (B : Nat) (k p o : Nat) (bf : Value) (he : Bool) (W : World) : Prop :=
  (bf = .pointer none ∧ he = false ∧ o = 0 ∧ T = s.toList.take p ++ scrubL s other k p false) ∨
  (∃ b acc, bf = .pointer (some ⟨b, 0, none⟩) ∧ Lib.IsBuilder 56 5 B b (Lib.byteCells acc) W ∧ acc.length ≤ 1000 * p ∧
    T = acc ++ (if he then other.toList ++ scrubL s other k p true else (s.toList.drop o).take (p - o) ++ scrubL s other k p false))

set_option maxHeartbeats 8000000 in
theorem scrub_walk (s other : ByteArray) (w : World) (hs : s.size ≤ 1000) (ho : other.size ≤ 1000) (T : Tabs w) :
    Calls Tryd.prog 45 #[.string s, .string other] w fun e w' => ∃ r : ByteArray, e = .returned (.string r) ∧ r.toList = scrubL s other s.size 0 false ∧ Below w.heap.size w w' := by
  have HT := Lib.hid T
  clear T
  obtain ⟨R, hR⟩ : ∃ R, R = scrubL s other s.size 0 false := ⟨_, rfl⟩
  have HR := Lib.hid hR
  rw [← hR]
  clear hR
  go_enter Tryd.func45, Tryd.ntmps45
  go_wp2_with fail
  go_loopg [0, 5, 6, 7, 8, 9, 10] s.size (fun kq v0 v5 v6 v7 v8 v9 v10 wr => ∃ (p o : Nat) (bf : Value) (he : Bool) (x6 x7 : Value), v0 = .string (s.extract p s.size) ∧ v5 = bf ∧ v6 = x6 ∧ v7 = x7 ∧ v8 = .int .i64 ((p - o : Nat) : Int) ∧ v9 = .bool he ∧ v10 = .string (s.extract o s.size) ∧ Hid (p ≤ s.size) ∧ Hid (o ≤ p) ∧ Hid (s.size ≤ p + kq) ∧ Hid (Below w.heap.size w wr) ∧ Hid (ScrubSt s other R w.heap.size kq p o bf he wr))
  case atStart => exact ⟨0, 0, _, false, _, _, by rw [extract_zero_size], rfl, rfl, rfl, rfl, rfl, by rw [extract_zero_size], Lib.hid (Nat.zero_le _), Lib.hid (Nat.le_refl _), Lib.hid (by omega), Lib.hid (Below.refl _ _), Lib.hid (.inl ⟨rfl, rfl, rfl, by rw [HR.out]; rfl⟩)⟩
  case round =>
    obtain ⟨p, o, bf, he, x6, x7, rfl, rfl, rfl, rfl, rfl, rfl, rfl, H1, H2, H3, HB, HS⟩ := hrel
    have hsz : (s.extract p s.size).size = s.size - p := size_extract _ _ _ H1.out (Nat.le_refl _)
    have hsz2 : (s.extract o s.size).size = s.size - o := size_extract _ _ _ (Nat.le_trans H2.out H1.out) (Nat.le_refl _)
    have h1 := H1.out
    have h2 := H2.out
    by_cases hp : p < s.size
    · cases gk with
      | zero => exact absurd H3.out (by omega)
      | succ m =>
        have hw1 := width_pos s p hp
        have hw2 := wid_le s p hp
        have hd := decode_tail s p wr (HT.out.below HB.out) hp
        have hw3 : 1 ≤ wid s p := hw1
        have HST := HS
        clear hw1
        obtain ⟨d, hd0⟩ : ∃ d, d = wid s p := ⟨_, rfl⟩
        rw [← hd0] at hd hw2 hw3
        have HD := Lib.hid hd0
        obtain ⟨c, hc0⟩ : ∃ c, c = (Utf8.decode s p).1 := ⟨_, rfl⟩
        rw [← hc0] at hd
        have HC := Lib.hid hc0
        have Hd := Lib.hid hd
        have CN := Lib.hid (cut_next s p d hw2)
        have CT := Lib.hid (cut_tail s o p h2 h1)
        have CL := Lib.hid (cut_list s o p h2 h1)
        have TW := Lib.hid (take_wid s.toList o p d h2)
        clear hd hd0 hc0 HS
        by_cases hc : c = 65533
        · subst hc
          rcases HST.out with ⟨rfl, rfl, rfl, HR1⟩ | ⟨b, acc, rfl, HI, HL, HR1⟩
          · replace HR1 := Lib.hid HR1
            clear HST
            go_wp2_with fail
            refine (Hd.out).mono ?_
            rintro e w1 ⟨rfl, hb1⟩
            go_wp2_with fail
            have hI : Lib.IsBuilder 56 5 w.heap.size w1.heap.size [] (w1.alloc (.cells #[.pointer none, .slice none 0 0] 56)) :=
              .inl ⟨Nat.le_trans HB.out.size hb1.size, .slice none 0 0, by show (w1.heap.push _)[w1.heap.size]? = _; simp, ⟨rfl, .inl ⟨rfl, rfl⟩⟩, by simp [Value.ownBlock]⟩
            have hsz3 : (s.extract 0 p).size = p := by rw [size_extract _ _ _ (Nat.zero_le _) h1]; omega
            have Hb1 := Lib.hid (HB.out.trans (hb1.mono HB.out.size))
            have hw1 : w.heap.size ≤ w1.heap.size := Nat.le_trans HB.out.size hb1.size
            refine (WriteString w.heap.size w1.heap.size [] (s.extract 0 p) _ hI (by simp only [List.length_nil, hsz3]; omega) (by simp; omega)).mono ?_
            rintro e w2 ⟨rfl, hb2, hB2⟩
            have Hb2 := Lib.hid (((Hb1.out.alloc hw1 _)).trans hB2)
            have HI2 := Lib.hid hb2
            clear hb2 hB2 hI hb1
            go_wp2_with fail
            go_roundg m
            case measure => exact Nat.lt_succ_self m
            case rel =>
              refine ⟨p + d, 0, _, true, _, _, by rw [CN.out], rfl, rfl, rfl, by congr 1 <;> omega, rfl, by rw [extract_zero_size], Lib.hid hw2, Lib.hid (by omega), Lib.hid (by have := H3.out; omega), Hb2, Lib.hid ?_⟩
              refine .inr ⟨w1.heap.size, s.toList.take p, rfl, .inr ?_, ?_, ?_⟩
              · have h := HI2.out
                rw [List.nil_append, strCells_eq', tl_extract] at h
                simpa using h
              · rw [List.length_take]; omega
              · rw [HR1.out, scrubL_bad s other m p false hp HC.out.symm, ← HD.out]; rfl
          · replace HI := Lib.hid HI
            replace HL := Lib.hid HL
            replace HR1 := Lib.hid HR1
            clear HST
            cases he with
            | false =>
              go_wp2_with fail
              refine (Hd.out).mono ?_
              rintro e w1 ⟨rfl, hb1⟩
              have Hb1 := Lib.hid (HB.out.trans (hb1.mono HB.out.size))
              have hw1 : w.heap.size ≤ w1.heap.size := Nat.le_trans HB.out.size hb1.size
              have HI1 := Lib.hid (isBuilder_below HI.out hb1)
              clear hb1
              go_wp2_with fail
              refine (WriteString w.heap.size b (Lib.byteCells acc) _ _ HI1.out (by rw [byteCells_len]; have hcs : ((s.extract o s.size).extract 0 (p - o)).size ≤ 1000 := by { rw [len_eq, CL.out, List.length_take, List.length_drop]; have := len_eq s; omega }; have := HL.out; omega) hw1).mono ?_
              rintro e w2 ⟨rfl, hb2, hB2⟩
              have Hb2 := Lib.hid (Hb1.out.trans hB2)
              have HI2 := Lib.hid hb2
              clear hb2 hB2
              go_wp2_with fail
              go_roundg m
              case measure => exact Nat.lt_succ_self m
              case rel =>
                refine ⟨p + d, o, _, true, _, _, by rw [CN.out], rfl, rfl, rfl, by congr 1 <;> omega, rfl, rfl, Lib.hid hw2, Lib.hid (by omega), Lib.hid (by have := H3.out; omega), Hb2, Lib.hid ?_⟩
                refine .inr ⟨b, acc ++ (s.toList.drop o).take (p - o), rfl, .inr ?_, ?_, ?_⟩
                · have h := HI2.out
                  rw [strCells_eq', CL.out, byteCells_app] at h
                  exact h
                · rw [List.length_append, List.length_take, List.length_drop]; have := HL.out; have := len_eq s; omega
                · rw [HR1.out, scrubL_bad s other m p false hp HC.out.symm, ← HD.out]; simp
            | true =>
              go_wp2_with fail
              refine (Hd.out).mono ?_
              rintro e w1 ⟨rfl, hb1⟩
              have Hb1 := Lib.hid (HB.out.trans (hb1.mono HB.out.size))
              have hw1 : w.heap.size ≤ w1.heap.size := Nat.le_trans HB.out.size hb1.size
              have HI1 := Lib.hid (isBuilder_below HI.out hb1)
              clear hb1
              go_wp2_with fail
              go_roundg m
              case measure => exact Nat.lt_succ_self m
              case rel =>
                refine ⟨p + d, o, _, true, _, _, by rw [CN.out], rfl, rfl, rfl, by congr 1 <;> omega, rfl, rfl, Lib.hid hw2, Lib.hid (by omega), Lib.hid (by have := H3.out; omega), Hb1, Lib.hid ?_⟩
                refine .inr ⟨b, acc, rfl, HI1.out, ?_, ?_⟩
                · have := HL.out; omega
                · rw [HR1.out, scrubL_bad s other m p true hp HC.out.symm, ← HD.out]; simp
        · rcases HST.out with ⟨rfl, rfl, rfl, HR1⟩ | ⟨b, acc, rfl, HI, HL, HR1⟩
          · replace HR1 := Lib.hid HR1
            clear HST
            go_wp2_with fail
            refine (Hd.out).mono ?_
            rintro e w1 ⟨rfl, hb1⟩
            have Hb1 := Lib.hid (HB.out.trans (hb1.mono HB.out.size))
            clear hb1
            go_wp2_with fail
            go_roundg m
            case measure => exact Nat.lt_succ_self m
            case rel =>
              refine ⟨p + d, 0, _, false, _, _, by rw [CN.out], rfl, rfl, rfl, by congr 1 <;> omega, rfl, by rw [extract_zero_size], Lib.hid hw2, Lib.hid (by omega), Lib.hid (by have := H3.out; omega), Hb1, Lib.hid ?_⟩
              refine .inl ⟨rfl, rfl, rfl, ?_⟩
              have h := TW.out
              simp only [List.drop_zero, Nat.sub_zero] at h
              rw [HR1.out, scrubL_good s other m p false hp (by rw [← HC.out]; exact hc), ← HD.out, h, List.append_assoc]
          · replace HI := Lib.hid HI
            replace HL := Lib.hid HL
            replace HR1 := Lib.hid HR1
            clear HST
            cases he with
            | false =>
              go_wp2_with fail
              refine (Hd.out).mono ?_
              rintro e w1 ⟨rfl, hb1⟩
              have Hb1 := Lib.hid (HB.out.trans (hb1.mono HB.out.size))
              have hw1 : w.heap.size ≤ w1.heap.size := Nat.le_trans HB.out.size hb1.size
              have HI1 := Lib.hid (isBuilder_below HI.out hb1)
              clear hb1
              go_wp2_with fail
              go_roundg m
              case measure => exact Nat.lt_succ_self m
              case rel =>
                refine ⟨p + d, o, _, false, _, _, by rw [CN.out], rfl, rfl, rfl, by congr 1 <;> omega, rfl, rfl, Lib.hid hw2, Lib.hid (by omega), Lib.hid (by have := H3.out; omega), Hb1, Lib.hid ?_⟩
                refine .inr ⟨b, acc, rfl, HI1.out, ?_, ?_⟩
                · have := HL.out; omega
                · rw [HR1.out, scrubL_good s other m p false hp (by rw [← HC.out]; exact hc), ← HD.out]
                  simp only [Bool.false_eq_true, if_false, TW.out, List.append_assoc]
            | true =>
              go_wp2_with fail
              refine (Hd.out).mono ?_
              rintro e w1 ⟨rfl, hb1⟩
              have Hb1 := Lib.hid (HB.out.trans (hb1.mono HB.out.size))
              have hw1 : w.heap.size ≤ w1.heap.size := Nat.le_trans HB.out.size hb1.size
              have HI1 := Lib.hid (isBuilder_below HI.out hb1)
              clear hb1
              go_wp2_with fail
              refine (WriteString w.heap.size b (Lib.byteCells acc) other _ HI1.out (by rw [byteCells_len]; have := HL.out; omega) hw1).mono ?_
              rintro e w2 ⟨rfl, hb2, hB2⟩
              have Hb2 := Lib.hid (Hb1.out.trans hB2)
              have HI2 := Lib.hid hb2
              clear hb2 hB2
              go_wp2_with fail
              go_roundg m
              case measure => exact Nat.lt_succ_self m
              case rel =>
                refine ⟨p + d, p, _, false, _, _, by rw [CN.out], rfl, rfl, rfl, by congr 1 <;> omega, rfl, by rw [CT.out], Lib.hid hw2, Lib.hid (by omega), Lib.hid (by have := H3.out; omega), Hb2, Lib.hid ?_⟩
                refine .inr ⟨b, acc ++ other.toList, rfl, .inr ?_, ?_, ?_⟩
                · have h := HI2.out
                  rw [strCells_eq', byteCells_app] at h
                  exact h
                · rw [List.length_append, ← len_eq]; have := HL.out; omega
                · rw [HR1.out, scrubL_good s other m p true hp (by rw [← HC.out]; exact hc), ← HD.out]
                  simp [show p + d - p = d by omega]
    · have hpe : p = s.size := by omega
      subst hpe
      have CL := Lib.hid (cut_list s o s.size h2 (Nat.le_refl _))
      have hend : ∀ bad, scrubL s other gk s.size bad = [] := fun bad => scrubL_end s other gk s.size bad (Nat.lt_irrefl _)
      have HE := Lib.hid hend
      have HST := HS
      clear hend HS
      have STR : ∀ (b : Nat) (l : List UInt8) (W : World), Lib.IsBuilder 56 5 w.heap.size b (Lib.byteCells l) W → w.heap.size ≤ W.heap.size → Calls Tryd.prog 70 #[.pointer (some ⟨b, 0, none⟩)] W fun e w' => e = .returned (.string ⟨l.toArray⟩) ∧ Below w.heap.size W w' := fun b l W h h2 => Tryd.Builder_String_any w.heap.size b l W h h2
      have hs9 := hs
      rcases HST.out with ⟨rfl, rfl, rfl, HR1⟩ | ⟨b, acc, rfl, HI, HL, HR1⟩
      · replace HR1 := Lib.hid HR1
        clear HST
        go_wp2_with fail
        go_ret
        refine ⟨_, rfl, ?_, HB.out⟩
        rw [extract_zero_size, HR1.out, HE.out, List.append_nil, List.take_of_length_le]
        rw [← len_eq]; exact Nat.le_refl _
      · replace HI := Lib.hid HI
        replace HL := Lib.hid HL
        replace HR1 := Lib.hid HR1
        clear HST
        cases he with
        | true =>
          go_wp2_with fail
          refine (WriteString w.heap.size b (Lib.byteCells acc) other _ HI.out (by rw [byteCells_len]; have := HL.out; omega) HB.out.size).mono ?_
          rintro e w2 ⟨rfl, hb2, hB2⟩
          have Hb2 := Lib.hid (HB.out.trans hB2)
          rw [strCells_eq', byteCells_app] at hb2
          have HI2 := Lib.hid hb2
          clear hb2 hB2
          go_wp2_with fail
          refine (STR b (acc ++ other.toList) w2 (.inr HI2.out) Hb2.out.size).mono ?_
          rintro e w3 ⟨rfl, hB3⟩
          have Hb3 := Lib.hid (Hb2.out.trans (hB3))
          clear hB3
          go_wp2_with fail
          go_ret
          refine ⟨_, rfl, ?_, Hb3.out⟩
          rw [tl_mk, HR1.out, HE.out]; simp
        | false =>
          go_wp2_with fail
          refine (WriteString w.heap.size b (Lib.byteCells acc) (s.extract o s.size) _ HI.out (by rw [byteCells_len, hsz2]; have := HL.out; omega) HB.out.size).mono ?_
          rintro e w2 ⟨rfl, hb2, hB2⟩
          have Hb2 := Lib.hid (HB.out.trans hB2)
          rw [strCells_eq', byteCells_app] at hb2
          have HI2 := Lib.hid hb2
          clear hb2 hB2
          go_wp2_with fail
          refine (STR b (acc ++ (s.extract o s.size).toList) w2 (.inr HI2.out) Hb2.out.size).mono ?_
          rintro e w3 ⟨rfl, hB3⟩
          have Hb3 := Lib.hid (Hb2.out.trans (hB3))
          clear hB3
          go_wp2_with fail
          go_ret
          refine ⟨_, rfl, ?_, Hb3.out⟩
          rw [tl_mk, HR1.out, extract_self]
          have := len_eq s
          simp only [HE.out, Bool.false_eq_true, if_false, List.append_nil]
          rw [List.take_of_length_le (by rw [List.length_drop]; omega)]

end Go.Proofs.YtpkdoinofenahaaDoor.Giv
