/- A walk of goutils.SwapCase over ASCII: what it answers. -/
import Derived.Test.YtpkdoinofenahaaDoorUtf
import Derived.Test.YtpkdoinofenahaaDoorSwap
namespace Go.Proofs.YtpkdoinofenahaaDoor.Giv
open Go.RowKit Go.Proofs.YtpkdoinofenahaaDoorW.PrintWords Go.Proofs.YtpkdoinofenahaaDoor.Txt
set_option linter.unusedVariables false
set_option maxRecDepth 20000

theorem isTitle_low (x : Int) (w : World) (h0 : 0 ≤ x) (h1 : x ≤ 127) :
    Calls Tryd.prog 111 #[.int .i32 x] w fun e w' => e = .returned (.bool false) ∧ w' = w := by
  go_enter Tryd.func111, Tryd.ntmps111
  go_wp2_with fail
  go_ret
  exact ⟨rfl, rfl⟩
theorem toTitle_low (x : Int) (w : World) (h0 : 0 ≤ x) (h1 : x ≤ 127) :
    Calls Tryd.prog 112 #[.int .i32 x] w fun e w' => e = .returned (.int .i32 (if 97 ≤ x ∧ x ≤ 122 then x - 32 else x)) ∧ w' = w := by
  by_cases h : 97 ≤ x
  · by_cases h2 : x ≤ 122
    · rw [if_pos ⟨h, h2⟩]
      go_enter Tryd.func112, Tryd.ntmps112
      go_wp2_with fail
      go_ret
      exact ⟨rfl, rfl⟩
    · rw [if_neg (fun hh => h2 hh.2)]
      go_enter Tryd.func112, Tryd.ntmps112
      go_wp2_with fail
      go_ret
      exact ⟨rfl, rfl⟩
  · rw [if_neg (fun hh => h hh.1)]
    go_enter Tryd.func112, Tryd.ntmps112
    go_wp2_with fail
    go_ret
    exact ⟨rfl, rfl⟩
/-- The characters of a text of ASCII are its bytes. -/
theorem runes_ascii (s : ByteArray) (ha : asciiB s) : runes s = s.toList.map fun c => (c.toNat : Int) := by
  have hl := len_eq s
  have key : ∀ f i, s.size ≤ i + f → runesFrom s f i = (s.toList.drop i).map fun c => (c.toNat : Int) := by
    intro f
    induction f with
    | zero =>
      intro i h
      rw [List.drop_eq_nil_of_le (by omega)]; rfl
    | succ f ih =>
      intro i h
      rw [runesFrom]
      by_cases hi : i < s.size
      · have hlt : i < s.toList.length := by omega
        have e : s.toList.drop i = s.toList[i] :: s.toList.drop (i + 1) := List.drop_eq_getElem_cons hlt
        have hb : (s[i]'hi) = s.toList[i] := by
          have e2 : s.toList = s.data.toList := Lib.toList_data s
          simp only [e2]; rfl
        have hc := ha _ (List.getElem_mem hlt)
        have hd := decode_ascii s i hi (by rw [hb]; exact hc)
        rw [if_pos hi, hd, ih (i + 1) (by omega), e, hb]; rfl
      · rw [if_neg hi, List.drop_eq_nil_of_le (by omega)]; rfl
  have := key s.size 0 (by omega)
  simpa [runes] using this

/-- A row of code points that can be turned in place. -/
def RowI (W : World) (g : Nat) (L : List UInt8) : Prop := ∀ j (h : j < L.length), W.cell? ⟨g, j, none⟩ = some (.int .i32 (L[j].toNat : Int)) ∧ W.frozen? ⟨g, j, none⟩ = false
theorem RowI.store {W : World} {g : Nat} {L : List UInt8} (h : RowI W g L) (i : Nat) (y : UInt8) (hi : i < L.length) : RowI (W.setCell ⟨g, i, none⟩ (.int .i32 (y.toNat : Int))) g (L.set i y) := by
  intro j hj
  rw [List.length_set] at hj
  obtain ⟨a, b⟩ := h j hj
  refine ⟨?_, by rw [World.frozen?_setCell]; exact b⟩
  by_cases hij : i = j
  · subst hij
    rw [World.cell?_setCell_same _ _ _ a]; simp
  · rw [World.cell?_setCell_other _ _ _ _ (fun e => hij (by injection e)), a, List.getElem_set_ne hij]
theorem runes_row {P : Program} (w : World) (src dst e : TypeId) (s : ByteArray) (ha : asciiB s) (hS : P.underlying src = some .string) (hD : P.underlying dst = some (.slice e)) (hE : P.underlying e = some (.int .i32)) (hs : s.size ≤ 1000) :
    ∃ (cap : Nat) (W1 : World), (convert src dst (.string s)).run P w = .ok (.slice (some ⟨w.heap.size, 0, none⟩) s.toList.length cap) W1 ∧ RowI W1 w.heap.size s.toList ∧ Below w.heap.size w W1 := by
  obtain ⟨cap, W1, h1, h2, h3⟩ := made_runes (P := P) w src dst e s hS hD hE (by omega)
  have hr := runes_ascii s ha
  have hlen : (runes s).length = s.toList.length := by rw [hr, List.length_map]
  rw [hlen] at h1 h2
  refine ⟨cap, W1, h1, ?_, h3⟩
  intro j hj
  have hc := h2.cells (g := w.heap.size) rfl j (.int .i32 (s.toList[j].toNat : Int)) (by rw [hr]; simp [nums, List.getElem?_eq_getElem hj])
  have e2 : (⟨w.heap.size, 0, none⟩ : Addr).add j = ⟨w.heap.size, j, none⟩ := by
    simp only [Addr.add]
    split <;> simp <;> omega
  rw [e2] at hc
  refine ⟨hc, ?_⟩
  obtain ⟨_, hz | ⟨g, c, cur, hv, _, hb, _⟩⟩ := h2
  · cases hz.1
  · cases hv
    simp [World.frozen?, hb]
theorem text_row {P : Program} {W : World} {g : Nat} {L : List UInt8} (src dst e : TypeId) (cap : Nat) (hL : ∀ c ∈ L, c.toNat < 128) (hS : P.underlying src = some (.slice e)) (hE : P.underlying e = some (.int .i32)) (hD : P.underlying dst = some .string) (h : RowI W g L) :
    ∃ r : ByteArray, (convert src dst (.slice (some ⟨g, 0, none⟩) L.length cap)).run P W = .ok (.string r) W ∧ r.toList = L := by
  have := run_convert_runes (P := P) W src dst e ⟨g, 0, none⟩ L.length cap (L.map fun c => (c.toNat : Int)) (by simp) hS hE hD (fun j hj => by
    rw [List.length_map] at hj
    have e2 : (⟨g, 0, none⟩ : Addr).add j = ⟨g, j, none⟩ := by
      simp only [Addr.add]
      split <;> simp <;> omega
    rw [e2, (h j hj).1]
    simp [List.getD, List.getElem?_eq_getElem hj])
  refine ⟨_, this, ?_⟩
  rw [List.take_of_length_le (by simp)]
  have key : ∀ (l : List UInt8) (b : ByteArray), (∀ c ∈ l, c.toNat < 128) → ((l.map fun c => (c.toNat : Int)).foldl (fun r n => r ++ Utf8.encode n) b).toList = b.toList ++ l := by
    intro l
    induction l with
    | nil => intro b _; simp
    | cons c l ih =>
      intro b hl
      rw [List.map_cons, List.foldl_cons, ih _ (fun x hx => hl x (List.mem_cons_of_mem _ hx)), tl_append]
      have hc := hl c (List.mem_cons_self ..)
      have he : (Utf8.encode (c.toNat : Int)).toList = [c] := by
        have v : Utf8.valid (c.toNat : Int) = true := by simp [Utf8.valid]; omega
        rw [Lib.toList_data]
        simp [Utf8.encode, v, hc]
      rw [he, List.append_assoc]; rfl
  have := key L ByteArray.empty hL
  rw [show ByteArray.empty.toList = [] from tl_nil, List.nil_append] at this
  exact this

theorem lower_range (c : UInt8) (h : c.toNat < 128) : (Lib.isLowerL (c.toNat : Int) = true → 97 ≤ c.toNat ∧ c.toNat ≤ 122) := by
  have : ∀ n : Fin 128, Lib.isLowerL (n.val : Int) = true → 97 ≤ n.val ∧ n.val ≤ 122 := by decide +kernel
  exact this ⟨c.toNat, h⟩
set_option maxHeartbeats 4000000 in
theorem swapG_walk (s : ByteArray) (w : World) (hs : s.size ≤ 1000) (h1 : 1 ≤ s.size) (ha : asciiB s) (T : Props w) :
    Calls Tryd.prog 97 #[.string s] w fun e w' => ∃ r : ByteArray, e = .returned (.string r) ∧ r.toList = s.toList.map swapB ∧ Below w.heap.size w w' := by
  obtain ⟨cap, W1, hcv, hrow, hb⟩ := runes_row (P := Tryd.prog) w 9 42 21 s ha Tryd.underlying9 Tryd.underlying42 Tryd.underlying21 hs
  have hs0 : (s.toList == ([] : List UInt8)) = false := by
    cases h : s.toList with
    | nil =>
      have h0 : s.size = 0 := by rw [len_eq, h]; rfl
      omega
    | cons c t => rfl
  have HT := Lib.hid T
  have HA := Lib.hid ha
  have hl := len_eq s
  have HROW := Lib.hid hrow
  have HB0 := Lib.hid hb
  obtain ⟨n, hn⟩ : ∃ n, n = s.toList.length := ⟨_, rfl⟩
  rw [← hn] at hcv hl
  have hn1 : n ≤ 1000 := by omega
  have HN := Lib.hid hn
  clear hn hl T ha hrow hb h1
  go_enter Tryd.func97, Tryd.ntmps97
  go_wp2_with fail
  go_loopg [4, 5, 6] n (fun kq v4 v5 v6 wr => ∃ (pos : Nat) (ws : Bool) (ch : Value), v4 = .bool ws ∧ v5 = .int .i64 (pos : Int) ∧ v6 = ch ∧ Hid (pos + kq = n) ∧ Hid (RowI wr w.heap.size (upto swapB s.toList pos)) ∧ Hid (Below w.heap.size w wr))
  case atStart => exact ⟨0, true, _, rfl, rfl, rfl, Lib.hid (by omega), Lib.hid (by unfold upto; simpa using HROW.out), HB0⟩
  case round =>
    obtain ⟨pos, ws, ch, rfl, rfl, rfl, H0, H1, HB⟩ := hrel
    cases gk with
    | zero =>
      have hp : pos = n := by have := H0.out; omega
      have h1 := H1.out
      have e0 : upto swapB s.toList pos = s.toList.map swapB := by unfold upto; rw [hp, HN.out, List.take_length, List.drop_length, List.append_nil]
      rw [e0] at h1
      have hsw : ∀ c ∈ s.toList.map swapB, c.toNat < 128 := by
        intro c hc
        obtain ⟨d, hd, rfl⟩ := List.mem_map.1 hc
        have hd7 := HA.out d hd
        have : ∀ n : Fin 128, (swapB (UInt8.ofNat n.val)).toNat < 128 := by decide +kernel
        have h2 := this ⟨d.toNat, hd7⟩
        simpa using h2
      obtain ⟨r, hr1, hr2⟩ := text_row (P := Tryd.prog) 42 9 21 cap hsw Tryd.underlying42 Tryd.underlying21 Tryd.underlying9 h1
      rw [List.length_map, ← HN.out] at hr1
      have HR2 := Lib.hid hr2
      clear hr2 h1 e0 hsw
      subst hp
      go_wp2_with fail
      go_ret
      exact ⟨r, rfl, HR2.out, HB.out⟩
    | succ m =>
      have hp : pos < n := by have := H0.out; omega
      have hlt : pos < s.toList.length := by have := HN.out; omega
      obtain ⟨hc, hz⟩ := H1.out pos (by rw [upto_length]; exact hlt)
      rw [upto_get _ _ _ hlt] at hc
      obtain ⟨c, hcc⟩ : ∃ c, c = s.toList[pos] := ⟨_, rfl⟩
      rw [← hcc] at hc
      have hc7 : c.toNat < 128 := HA.out c (by rw [hcc]; exact List.getElem_mem hlt)
      have hT := HT.out.below HB.out
      have hup := Lib.hid (Tryd.unicode_IsUpper c.toNat wr (by omega) hT)
      have hlo := Lib.hid (Tryd.unicode_IsLower c.toNat wr (by omega) hT)
      have htl := Lib.hid (Tryd.unicode_ToLower (c.toNat : Int) wr (by omega))
      have htu := Lib.hid (Tryd.unicode_ToUpper (c.toNat : Int) wr (by omega))
      have htt := Lib.hid (toTitle_low (c.toNat : Int) wr (by omega) (by omega))
      have hti := Lib.hid (isTitle_low (c.toNat : Int) wr (by omega) (by omega))
      have hsp := Lib.hid (Tryd.unicode_IsSpace (c.toNat : Int) wr (by omega) (by omega))
      obtain ⟨sw1, sw2, sw3⟩ := swap_byte c hc7
      obtain ⟨⟨l0, l1⟩, l2⟩ := lower_byte c hc7
      obtain ⟨⟨u0, u1⟩, u2⟩ := upper_byte c hc7
      have hlr := lower_range c hc7
      have hst : Hid (∀ y : Int, y = ((swapB c).toNat : Int) → RowI (wr.setCell ⟨w.heap.size, pos, none⟩ (.int .i32 y)) w.heap.size (upto swapB s.toList (pos + 1))) := Lib.hid (fun y hy => by
        rw [hy, upto_succ _ _ _ hlt, ← hcc]
        exact RowI.store H1.out pos _ (by rw [upto_length]; exact hlt))
      have hkeep : Hid (swapB c = c → RowI wr w.heap.size (upto swapB s.toList (pos + 1))) := Lib.hid (fun h => by rw [upto_same _ _ _ hlt (by rw [← hcc]; exact h)]; exact H1.out)
      clear hT hcc hlt
      obtain ⟨x, hx⟩ : ∃ x, x = (c.toNat : Int) := ⟨_, rfl⟩
      rw [← hx] at hup hlo htl htu htt hti hsp l0 l1 l2 u0 u1 u2 sw1 sw2 sw3 hc hlr
      have HX := Lib.hid hx
      have hx7 : 0 ≤ x ∧ x ≤ 127 := by omega
      clear hx
      cases hU : Lib.isUpperL x with
      | true =>
        rw [hU] at hup
        have HY := Lib.hid (uint8_back _ l0 l1 (swapB c) (by rw [l2, sw1 hU]))
        obtain ⟨y, hy⟩ : ∃ y, y = Lib.toLowerR x := ⟨_, rfl⟩
        rw [← hy] at htl HY
        clear hy sw1 sw2 sw3 l0 l1 l2 u0 u1 u2 hU htu hlo htt hti hsp hx7 hlr
        go_wp2_with fail
        refine hup.out.mono ?_
        rintro e w2 ⟨rfl, rfl⟩
        go_wp2_with fail
        refine htl.out.mono ?_
        rintro e w2 ⟨rfl, rfl⟩
        go_wp2_with fail
        go_roundg m
        case measure => exact Nat.lt_succ_self m
        case rel => exact ⟨pos + 1, _, _, rfl, by simp, rfl, Lib.hid (by have := H0.out; omega), Lib.hid (hst.out _ HY.out), Lib.hid (HB.out.setCell (Nat.le_refl _) _)⟩
      | false =>
        rw [hU] at hup
        cases hL : Lib.isLowerL x with
        | true =>
          rw [hL] at hlo
          have hr2 := hlr hL
          cases ws with
          | true =>
            have hif : (if 97 ≤ x ∧ x ≤ 122 then x - 32 else x) = x - 32 := if_pos (by have := HX.out; omega)
            rw [hif] at htt
            have HY : Hid (x - 32 = ((swapB c).toNat : Int)) := Lib.hid (by rw [sw2 hU hL, highB_nat hr2.1 hr2.2, HX.out])
            obtain ⟨y, hy⟩ : ∃ y, y = x - 32 := ⟨_, rfl⟩
            rw [← hy] at htt HY
            clear hy hif sw1 sw2 sw3 l0 l1 l2 u0 u1 u2 hU hL htl htu hsp hx7 hlr hr2
            go_wp2_with fail
            refine hup.out.mono ?_
            rintro e w2 ⟨rfl, rfl⟩
            go_wp2_with fail
            refine hti.out.mono ?_
            rintro e w2 ⟨rfl, rfl⟩
            go_wp2_with fail
            refine hlo.out.mono ?_
            rintro e w2 ⟨rfl, rfl⟩
            go_wp2_with fail
            refine htt.out.mono ?_
            rintro e w2 ⟨rfl, rfl⟩
            go_wp2_with fail
            go_roundg m
            case measure => exact Nat.lt_succ_self m
            case rel => exact ⟨pos + 1, _, _, rfl, by simp, rfl, Lib.hid (by have := H0.out; omega), Lib.hid (hst.out _ HY.out), Lib.hid (HB.out.setCell (Nat.le_refl _) _)⟩
          | false =>
            have HY := Lib.hid (uint8_back _ u0 u1 (swapB c) (by rw [u2, sw2 hU hL]))
            obtain ⟨y, hy⟩ : ∃ y, y = Lib.toUpperR x := ⟨_, rfl⟩
            rw [← hy] at htu HY
            clear hy sw1 sw2 sw3 l0 l1 l2 u0 u1 u2 hU hL htl htt hsp hx7 hlr hr2
            go_wp2_with fail
            refine hup.out.mono ?_
            rintro e w2 ⟨rfl, rfl⟩
            go_wp2_with fail
            refine hti.out.mono ?_
            rintro e w2 ⟨rfl, rfl⟩
            go_wp2_with fail
            refine hlo.out.mono ?_
            rintro e w2 ⟨rfl, rfl⟩
            go_wp2_with fail
            refine htu.out.mono ?_
            rintro e w2 ⟨rfl, rfl⟩
            go_wp2_with fail
            go_roundg m
            case measure => exact Nat.lt_succ_self m
            case rel => exact ⟨pos + 1, _, _, rfl, by simp, rfl, Lib.hid (by have := H0.out; omega), Lib.hid (hst.out _ HY.out), Lib.hid (HB.out.setCell (Nat.le_refl _) _)⟩
        | false =>
          rw [hL] at hlo
          have HK := Lib.hid (hkeep.out (sw3 hU hL))
          clear sw1 sw2 sw3 l0 l1 l2 u0 u1 u2 hU hL htl htu htt hx7 hlr
          go_wp2_with fail
          refine hup.out.mono ?_
          rintro e w2 ⟨rfl, rfl⟩
          go_wp2_with fail
          refine hti.out.mono ?_
          rintro e w2 ⟨rfl, rfl⟩
          go_wp2_with fail
          refine hlo.out.mono ?_
          rintro e w2 ⟨rfl, rfl⟩
          go_wp2_with fail
          refine hsp.out.mono ?_
          rintro e w2 ⟨rfl, rfl⟩
          go_wp2_with fail
          go_roundg m
          case measure => exact Nat.lt_succ_self m
          case rel => exact ⟨pos + 1, _, _, rfl, by simp, rfl, Lib.hid (by have := H0.out; omega), HK, HB⟩

theorem swapG_empty (s : ByteArray) (w : World) (hs : s.toList = []) :
    Calls Tryd.prog 97 #[.string s] w fun e w' => e = .returned (.string s) ∧ Below w.heap.size w w' := by
  have hs0 : (s.toList == ([] : List UInt8)) = true := by rw [hs]; rfl
  clear hs
  go_enter Tryd.func97, Tryd.ntmps97
  go_wp2_with fail
  go_ret
  exact ⟨rfl, Below.refl _ _⟩
def goutils_SwapCase.f (a0 : ByteArray) : Option (ByteArray) := if a0.size ≤ 1000 ∧ asciiB a0 then some ⟨(a0.toList.map swapB).toArray⟩ else none
theorem goutils_SwapCase.calls (a0 : ByteArray) (r : ByteArray) (w : World) (T : Props w) (h : goutils_SwapCase.f a0 = some r) :
    Calls Tryd.prog 97 #[.string a0] w fun e w' => e = .returned (.string r) ∧ Below w.heap.size w w' := by
  unfold goutils_SwapCase.f at h
  split at h
  case isFalse => exact absurd h (by simp)
  rename_i hb
  obtain rfl := Option.some.inj h
  by_cases h0 : a0.toList = []
  · have e : (⟨(a0.toList.map swapB).toArray⟩ : ByteArray) = a0 := ext_eq (by rw [tl_mk, h0]; rfl)
    rw [e]
    exact swapG_empty a0 w h0
  · have h1 : 1 ≤ a0.size := by rw [len_eq]; exact List.length_pos_iff.2 h0
    refine (swapG_walk a0 w hb.1 h1 hb.2 T).mono ?_
    rintro e w' ⟨r, rfl, hr, hB⟩
    have e : r = ⟨(a0.toList.map swapB).toArray⟩ := ext_eq (hr.trans (tl_mk _).symm)
    rw [e]
    exact ⟨rfl, hB⟩

end Go.Proofs.YtpkdoinofenahaaDoor.Giv
