/- A walk of spec.cut and spec.TrimAll: what they answer. -/
import Derived.Test.YtjpocldnibmopaaDoorSliceSpec
import Derived.Test.YtjpocldnibmopaaDoorInSet
namespace Go.Proofs.YtjpocldnibmopaaDoor.Giv
open Go.RowKit Go.Proofs.YtjpocldnibmopaaDoorW.PrintWords Go.Proofs.YtjpocldnibmopaaDoor.Txt
set_option linter.unusedVariables false

theorem is_walk (c : Int) (set : ByteArray) (p : Addr) (w : World) (hs : set.size ≤ 35184372088832) (hc : w.cell? p = some (.string set)) :
    Calls Tryd.prog 22 #[.int .i32 c, .pointer (some p)] w fun e w' => e = .returned (.bool (decide (c ∈ runes set))) ∧ Below w.heap.size w w' := by
  have Hc := Lib.hid (fun w => isIn_walk c set w hs)
  obtain ⟨R, hR⟩ : ∃ R, R = decide (c ∈ runes set) := ⟨_, rfl⟩
  rw [← hR] at Hc ⊢
  clear hR
  go_enter Tryd.func22, Tryd.ntmps22
  go_wp2_with fail
  refine (Hc.out _).mono ?_
  rintro x w' ⟨rfl, hb⟩
  have HB := Lib.hid hb
  clear hb
  go_wp2_with fail
  go_ret
  exact ⟨rfl, HB.out⟩

theorem row_cell {W : World} {base e g n cap : Nat} {X : List Int} (h : W.ownsRow base e 1 (.slice (some ⟨g, 0, none⟩) n cap) n (nums .i32 X)) (j : Nat) (hj : j < n) : W.cell? ⟨g, j, none⟩ = some (.int .i32 (X.getD j 0)) := by
  have hl : X.length = n := by have := h.1; simpa [nums] using this
  have hc := h.cells (g := g) rfl j (.int .i32 (X.getD j 0)) (by simp [nums, List.getElem?_eq_getElem (show j < X.length by omega)])
  have e2 : (⟨g, 0, none⟩ : Addr).add j = ⟨g, j, none⟩ := by
    simp only [Addr.add]
    split <;> simp <;> omega
  rw [e2] at hc
  exact hc
theorem text_none {P : Program} {W : World} (src dst e : TypeId) (ad : Addr) (cap : Nat) (hS : P.underlying src = some (.slice e)) (hE : P.underlying e = some (.int .i32)) (hD : P.underlying dst = some .string) :
    (convert src dst (.slice (some ad) 0 cap)).run P W = .ok (.string (runesBytes [])) W :=
  run_convert_runes (P := P) W src dst e ad 0 cap [] (Nat.le_refl _) hS hE hD (fun j hj => absurd hj (by simp))

/-- Without those at both ends of which something holds. -/
def trimR (q : Int → Bool) (l : List Int) : List Int := (l.reverse.dropWhile q).reverse
theorem trimR_snoc (q : Int → Bool) (l : List Int) (x : Int) : trimR q (l ++ [x]) = if q x = true then trimR q l else l ++ [x] := by
  unfold trimR
  rw [List.reverse_append, List.reverse_singleton, List.singleton_append, List.dropWhile_cons]
  split
  · rfl
  · simp
theorem take_snoc (Y : List Int) (m : Nat) (h : m < Y.length) : Y.take (m + 1) = Y.take m ++ [Y.getD m 0] := by
  rw [List.take_add_one, List.getElem?_eq_getElem h]
  simp [List.getD, List.getElem?_eq_getElem h]
theorem drop_cons (X : List Int) (i : Nat) (h : i < X.length) : X.drop i = X.getD i 0 :: X.drop (i + 1) := by
  rw [List.drop_eq_getElem_cons h]
  simp [List.getD, List.getElem?_eq_getElem h]
def trimS (q : Int → Bool) (X : List Int) : List Int := trimR q (X.dropWhile q)

theorem cut_walk (s set : ByteArray) (p : Addr) (w : World) (hs : s.size ≤ 1000) (hs2 : set.size ≤ 1000) (hp : p.block < w.heap.size) (hset : w.cell? p = some (.string set)) :
    Calls Tryd.prog 21 #[.string s, .func (.func 22) #[] #[.pointer (some p)]] w fun e w' => e = .returned (.string (runesBytes (trimS (fun c => decide (c ∈ runes set)) (runes s)))) ∧ Below w.heap.size w w' := by
  have Hp := Lib.hid (points_row s w (by omega))
  have hz := runes_length s
  have Hq : ∀ (c : Int) (W : World), W.cell? p = some (.string set) → Calls Tryd.prog 22 #[.int .i32 c, .pointer (some p)] W fun e w' => e = .returned (.bool (decide (c ∈ runes set))) ∧ Below W.heap.size W w' := fun c W h => is_walk c set p W (by omega) h
  obtain ⟨q, hq⟩ : ∃ q : Int → Bool, q = fun c => decide (c ∈ runes set) := ⟨_, rfl⟩
  have hq' : ∀ c, decide (c ∈ runes set) = q c := fun c => by rw [hq]
  simp only [hq'] at Hq
  rw [← hq]
  have HQ := Lib.hid Hq
  clear Hq hq hq'
  obtain ⟨X, hX⟩ : ∃ X, X = runes s := ⟨_, rfl⟩
  rw [← hX] at Hp hz ⊢
  clear hX
  obtain ⟨n, hn⟩ : ∃ n, n = X.length := ⟨_, rfl⟩
  rw [← hn] at Hp hz
  have HN := Lib.hid hn
  have HSET := Lib.hid hset
  have HPL := Lib.hid hp
  clear hn hset hp
  go_enter Tryd.func21, Tryd.ntmps21
  go_wp2_with fail
  refine Hp.out.mono ?_
  rintro x w1 ⟨cap, rfl, hrow, hcap, hb⟩
  have Hrow := Lib.hid hrow
  have Hb := Lib.hid hb
  clear hrow hb
  go_wp2_with fail
  go_loopg [5] n (fun kq v5 wr => ∃ (ad : Addr) (c : Nat), v5 = .slice (some ad) kq c ∧ Hid (kq ≤ n) ∧ Hid (kq ≤ c) ∧ Hid (0 < kq → ad = ⟨w.heap.size, n - kq, none⟩) ∧ Hid (wr.ownsRow w.heap.size 21 1 (.slice (some ⟨w.heap.size, 0, none⟩) n cap) n (nums .i32 X)) ∧ Hid (Below w.heap.size w wr) ∧ Hid ((X.drop (n - kq)).dropWhile q = X.dropWhile q))
  case atStart => exact ⟨_, cap, rfl, Lib.hid (Nat.le_refl _), Lib.hid hcap, Lib.hid (fun _ => by rw [Nat.sub_self]), Hrow, Hb, Lib.hid (by rw [Nat.sub_self]; rfl)⟩
  case round =>
    obtain ⟨ad, c, rfl, H1, H2, H3, H4, H5, H6⟩ := hrel
    have h2 := H2.out
    cases gk with
    | zero =>
      go_wp2_with fail
      have HR1 := H4
      have HB1 := H5
      have HE : Hid (X.dropWhile q = X.drop (n - 0)) := Lib.hid (by
        have := HN.out
        rw [← H6.out, List.drop_eq_nil_of_le (by omega)]; rfl)
      clear H1 H2 H3 H4 H5 H6
      go_loopg [5] 0 (fun kq v5 wr => v5 = .slice (some ad) kq c ∧ Hid (kq ≤ 0) ∧ Hid (wr.ownsRow w.heap.size 21 1 (.slice (some ⟨w.heap.size, 0, none⟩) n cap) n (nums .i32 X)) ∧ Hid (Below w.heap.size w wr) ∧ Hid (trimR q ((X.drop (n - 0)).take kq) = trimR q (X.drop (n - 0))))
      case atStart => exact ⟨rfl, Lib.hid (Nat.le_refl _), HR1, HB1, Lib.hid (by rw [List.take_of_length_le (by rw [List.length_drop, ← HN.out]; omega)])⟩
      case round =>
        obtain ⟨rfl, G1, G4, G5, G6⟩ := hrel
        cases gk with
        | zero =>
          have hcv := text_none (P := Tryd.prog) (W := wr) 33 9 21 ad c Tryd.underlying33 Tryd.underlying21 Tryd.underlying9
          obtain ⟨R, hR⟩ : ∃ R, R = runesBytes [] := ⟨_, rfl⟩
          rw [← hR] at hcv
          have HR := Lib.hid hR
          clear hR
          go_wp2_with fail
          go_ret
          refine ⟨?_, G5.out⟩
          have e : trimS q X = [] := by
            unfold trimS
            rw [HE.out, ← G6.out]; rfl
          rw [e, ← HR.out]; rfl
        | succ m2 =>
          have g1 := G1.out
          exact absurd g1 (Nat.not_succ_le_zero _)
    | succ m =>
      have h1 := H1.out
      obtain rfl := H3.out (by omega)
      have hcell := row_cell H4.out (n - (m + 1)) (by omega)
      have hp2 : wr.cell? p = some (.string set) := (H5.out.cell HPL.out).trans HSET.out
      have hd := drop_cons X (n - (m + 1)) (by have := HN.out; omega)
      rw [show n - (m + 1) + 1 = n - m by omega] at hd
      have HD := Lib.hid hd
      clear hd
      obtain ⟨y, hy⟩ : ∃ y, y = X.getD (n - (m + 1)) 0 := ⟨_, rfl⟩
      rw [← hy] at HD hcell
      clear hy
      have Hy := Lib.hid (HQ.out y wr hp2)
      clear hp2
      go_wp2_with fail
      refine Hy.out.mono ?_
      rintro x w2 ⟨rfl, hb2⟩
      have Hb2 := Lib.hid hb2
      clear hb2
      cases hqy : q y with
      | true =>
        by_cases hca : c = 1
        · go_wp2_with fail
          go_roundg m
          case measure => omega
          case rel => exact ⟨_, _, rfl, Lib.hid (by omega), Lib.hid (by omega), Lib.hid (fun h => by first | (exfalso; omega) | (congr 1; omega)), Lib.hid (pw_own_below H4.out Hb2.out), Lib.hid (H5.out.trans (Hb2.out.mono H5.out.size)), Lib.hid (by rw [← H6.out, HD.out, List.dropWhile_cons, if_pos hqy])⟩
        · go_wp2_with fail
          go_roundg m
          case measure => omega
          case rel => exact ⟨_, _, rfl, Lib.hid (by omega), Lib.hid (by omega), Lib.hid (fun h => by first | (exfalso; omega) | (congr 1; omega)), Lib.hid (pw_own_below H4.out Hb2.out), Lib.hid (H5.out.trans (Hb2.out.mono H5.out.size)), Lib.hid (by rw [← H6.out, HD.out, List.dropWhile_cons, if_pos hqy])⟩
      | false =>
        go_wp2_with fail
        have e6 : X.dropWhile q = X.drop (n - (m + 1)) := by
          rw [← H6.out, HD.out, List.dropWhile_cons, if_neg (by rw [hqy]; decide)]
        have HR1 : Hid (w2.ownsRow w.heap.size 21 1 (.slice (some ⟨w.heap.size, 0, none⟩) n cap) n (nums .i32 X)) := Lib.hid (pw_own_below H4.out Hb2.out)
        have HB1 : Hid (Below w.heap.size w w2) := Lib.hid (H5.out.trans (Hb2.out.mono H5.out.size))
        have HE := Lib.hid e6
        clear e6 H4 H5 H6 Hb2 hcell Hy
        go_loopg [5] (m + 1) (fun kq v5 wr => v5 = .slice (some ⟨w.heap.size, n - (m + 1), none⟩) kq c ∧ Hid (kq ≤ (m + 1)) ∧ Hid (wr.ownsRow w.heap.size 21 1 (.slice (some ⟨w.heap.size, 0, none⟩) n cap) n (nums .i32 X)) ∧ Hid (Below w.heap.size w wr) ∧ Hid (trimR q ((X.drop (n - (m + 1))).take kq) = trimR q (X.drop (n - (m + 1)))))
        case atStart => exact ⟨rfl, Lib.hid (Nat.le_refl _), HR1, HB1, Lib.hid (by rw [List.take_of_length_le (by rw [List.length_drop, ← HN.out]; omega)])⟩
        case round =>
          obtain ⟨rfl, G1, G4, G5, G6⟩ := hrel
          cases gk with
          | zero =>
            have hcv := text_none (P := Tryd.prog) (W := wr) 33 9 21 ⟨w.heap.size, n - (m + 1), none⟩ c Tryd.underlying33 Tryd.underlying21 Tryd.underlying9
            obtain ⟨R, hR⟩ : ∃ R, R = runesBytes [] := ⟨_, rfl⟩
            rw [← hR] at hcv
            have HR := Lib.hid hR
            clear hR
            go_wp2_with fail
            go_ret
            refine ⟨?_, G5.out⟩
            have e : trimS q X = [] := by
              unfold trimS
              rw [HE.out, ← G6.out]; rfl
            rw [e, ← HR.out]; rfl
          | succ m2 =>
            have g1 := G1.out
            have hcell := row_cell G4.out (n - (m + 1) + m2) (by omega)
            have hp2 : wr.cell? p = some (.string set) := (G5.out.cell HPL.out).trans HSET.out
            have hyy : X.getD (n - (m + 1) + m2) 0 = (X.drop (n - (m + 1))).getD m2 0 := by simp [List.getD, List.getElem?_drop]
            rw [hyy] at hcell
            have hsn := take_snoc (X.drop (n - (m + 1))) m2 (by rw [List.length_drop, ← HN.out]; omega)
            obtain ⟨z, hz2⟩ : ∃ z, z = (X.drop (n - (m + 1))).getD m2 0 := ⟨_, rfl⟩
            rw [← hz2] at hcell hsn
            clear hz2 hyy
            have HS := Lib.hid hsn
            clear hsn
            have Hz := Lib.hid (HQ.out z wr hp2)
            clear hp2
            go_wp2_with fail
            refine Hz.out.mono ?_
            rintro x w3 ⟨rfl, hb3⟩
            have Hb3 := Lib.hid hb3
            clear hb3
            cases hqz : q z with
            | true =>
              go_wp2_with fail
              go_roundg m2
              case measure => omega
              case rel =>
                refine ⟨rfl, Lib.hid (by omega), Lib.hid (pw_own_below G4.out Hb3.out), Lib.hid (G5.out.trans (Hb3.out.mono G5.out.size)), Lib.hid ?_⟩
                rw [← G6.out, HS.out, trimR_snoc, if_pos hqz]
            | false =>
              have hcv := text_part (P := Tryd.prog) (W := w3) 33 9 21 w.heap.size cap c (n - (m + 1)) (m2 + 1) Tryd.underlying33 Tryd.underlying21 Tryd.underlying9 (by omega) (pw_own_below G4.out Hb3.out)
              obtain ⟨R, hR⟩ : ∃ R, R = runesBytes ((X.drop (n - (m + 1))).take (m2 + 1)) := ⟨_, rfl⟩
              rw [← hR] at hcv
              have HR := Lib.hid hR
              clear hR
              go_wp2_with fail
              go_ret
              refine ⟨?_, G5.out.trans (Hb3.out.mono G5.out.size)⟩
              have e : trimS q X = (X.drop (n - (m + 1))).take (m2 + 1) := by
                unfold trimS
                rw [HE.out, ← G6.out, HS.out, trimR_snoc, if_neg (by rw [hqz]; decide)]
              rw [e, ← HR.out]; rfl

end Go.Proofs.YtjpocldnibmopaaDoor.Giv
