/- Walks of spec.Upper and spec.Lower: what they answer, for every text of at most 1000 bytes. -/
import Derived.Test.YtpkdoinofenahaaDoorProg
import Derived.Test.YtpkdoinofenahaaDoorTxt
import Derived.WalkKit
import Derived.BigCall
import Derived.Laws.IdiomStrings
import Derived.WalkLawsBesides
import Derived.WalkSpells
import Derived.Outline
import Derived.Lib.Hide
namespace Go.Proofs.YtpkdoinofenahaaDoor.Giv
open Go.RowKit Go.Proofs.YtpkdoinofenahaaDoorW.PrintWords Go.Proofs.YtpkdoinofenahaaDoor.Txt
set_option linter.unusedVariables false

/-- The cells of a row hold these bytes, and can be written. -/
def RowU (W : World) (g : Nat) (L : List UInt8) : Prop := ∀ j (h : j < L.length), W.cell? ⟨g, j, none⟩ = some (.int .u8 (L[j].toNat : Int)) ∧ W.frozen? ⟨g, j, none⟩ = false
theorem made_bytes {P : Program} (w : World) (src dst e : TypeId) (s : ByteArray) (hs : P.underlying src = some .string) (hd : P.underlying dst = some (.slice e)) (he : P.underlying e = some (.int .u8)) :
    ∃ (cap : Nat) (W1 : World), (convert src dst (.string s)).run P w = .ok (.slice (some ⟨w.heap.size, 0, none⟩) s.toList.length cap) W1 ∧ RowU W1 w.heap.size s.toList ∧ s.toList.length ≤ cap ∧ Below w.heap.size w W1 := by
  have h := run_bytes_of_string (P := P) w src dst e s hs hd he
  have hl := len_eq s
  have hg := grownCap_ge w s.size 0 e
  refine ⟨grownCap w s.size 0 e, _, by rw [← hl]; exact h, ?_, by rw [← hl]; exact hg, (below_drew (Below.refl _ _)).alloc (Nat.le_refl _) _⟩
  intro j hj
  have hz : (bytesRow s (grownCap w s.size 0 e)).size = grownCap w s.size 0 e := by
    unfold bytesRow
    rw [Array.size_append, Array.size_map, Array.size_replicate]
    show s.size + _ = _
    omega
  have hc : ∀ C fz, (w.drew.alloc (.cells C e fz)).heap[w.heap.size]? = some (.cells C e fz) := fun C fz => by
    show (w.heap.push (.cells C e fz))[w.heap.size]? = _
    simp
  constructor
  · have e1 : (bytesRow s (grownCap w s.size 0 e))[j]? = some (.int .u8 (s.toList[j].toNat : Int)) := by
      unfold bytesRow
      have hj' : j < s.data.size := by rw [hl.symm] at hj; exact hj
      rw [Array.getElem?_append_left (by simpa using hj'), Array.getElem?_map, Array.getElem?_eq_getElem hj']
      simp [Lib.toList_data]
    simp only [World.cell?, hc, e1]; rfl
  · have := World.frozen?_alloc_mark w.drew (bytesRow s (grownCap w s.size 0 e)) e (bytesRow s (grownCap w s.size 0 e)).size ((bytesRow s (grownCap w s.size 0 e)).size + 1) j
    have e2 : (decide ((bytesRow s (grownCap w s.size 0 e)).size ≤ j) && decide (j < (bytesRow s (grownCap w s.size 0 e)).size + 1)) = false := by
      rw [hz, decide_eq_false (by omega)]; rfl
    rw [e2] at this
    exact this
theorem RowU.store {W : World} {g : Nat} {L : List UInt8} (h : RowU W g L) (i : Nat) (y : UInt8) (hi : i < L.length) : RowU (W.setCell ⟨g, i, none⟩ (.int .u8 (y.toNat : Int))) g (L.set i y) := by
  intro j hj
  rw [List.length_set] at hj
  obtain ⟨a, b⟩ := h j hj
  refine ⟨?_, by rw [World.frozen?_setCell]; exact b⟩
  by_cases hij : i = j
  · subst hij
    rw [World.cell?_setCell_same _ _ _ a]; simp
  · rw [World.cell?_setCell_other _ _ _ _ (fun e => hij (by injection e)), a, List.getElem_set_ne hij]
theorem text_bytes {P : Program} {W : World} {g : Nat} {L : List UInt8} (src dst e : TypeId) (cap : Nat) (hs : P.underlying src = some (.slice e)) (he : P.underlying e = some (.int .u8)) (hd : P.underlying dst = some .string) (h : RowU W g L) :
    (convert src dst (.slice (some ⟨g, 0, none⟩) L.length cap)).run P W = .ok (.string ⟨L.toArray⟩) W :=
  run_convert_bytes_back W src dst e ⟨g, 0, none⟩ cap L hs he hd (fun j hj => by
    have e2 : (⟨g, 0, none⟩ : Addr).add j = ⟨g, j, none⟩ := by
      simp only [Addr.add]
      split <;> simp <;> omega
    rw [e2]; exact (h j hj).1)
/-- The first bytes turned. -/
def upto (f : UInt8 → UInt8) (L : List UInt8) (i : Nat) : List UInt8 := (L.take i).map f ++ L.drop i
theorem upto_length (f : UInt8 → UInt8) (L : List UInt8) (i : Nat) : (upto f L i).length = L.length := by
  unfold upto; rw [List.length_append, List.length_map, List.length_take, List.length_drop]; omega
theorem upto_get (f : UInt8 → UInt8) (L : List UInt8) (i : Nat) (h : i < L.length) : (upto f L i)[i]'(by rw [upto_length]; exact h) = L[i] := by
  unfold upto
  rw [List.getElem_append_right (by simp; omega)]
  simp [List.length_take, Nat.min_eq_left (Nat.le_of_lt h)]
theorem upto_succ (f : UInt8 → UInt8) (L : List UInt8) (i : Nat) (h : i < L.length) : upto f L (i + 1) = (upto f L i).set i (f L[i]) := by
  unfold upto
  rw [List.set_append_right _ _ (by simp; omega)]
  simp only [List.length_map, List.length_take, Nat.min_eq_left (Nat.le_of_lt h), Nat.sub_self]
  rw [List.take_succ_eq_append_getElem h, List.map_append, List.drop_eq_getElem_cons h, List.set_cons_zero, List.append_assoc]
  rfl
theorem upto_same (f : UInt8 → UInt8) (L : List UInt8) (i : Nat) (h : i < L.length) (hf : f L[i] = L[i]) : upto f L (i + 1) = upto f L i := by
  rw [upto_succ f L i h, hf]
  have := upto_get f L i h
  apply List.ext_getElem
  · simp
  · intro j h1 h2
    rw [List.getElem_set]
    split
    · subst_vars; rw [this]
    · rfl
def lowB (c : UInt8) : UInt8 := if 65 ≤ c.toNat ∧ c.toNat ≤ 90 then UInt8.ofNat (c.toNat + 32) else c
def highB (c : UInt8) : UInt8 := if 97 ≤ c.toNat ∧ c.toNat ≤ 122 then UInt8.ofNat (c.toNat - 32) else c
theorem lowB_nat {c : UInt8} (h0 : 65 ≤ c.toNat) (h1 : c.toNat ≤ 90) : ((lowB c).toNat : Int) = (c.toNat : Int) + 32 := by
  unfold lowB; rw [if_pos ⟨h0, h1⟩, UInt8.toNat_ofNat_of_lt' (by show _ < 256; omega)]; omega
theorem highB_nat {c : UInt8} (h0 : 97 ≤ c.toNat) (h1 : c.toNat ≤ 122) : ((highB c).toNat : Int) = (c.toNat : Int) - 32 := by
  unfold highB; rw [if_pos ⟨h0, h1⟩, UInt8.toNat_ofNat_of_lt' (by show _ < 256; omega)]; omega

set_option maxRecDepth 20000 in
set_option maxHeartbeats 4000000 in
theorem lower_walk (s : ByteArray) (w : World) (hs : s.size ≤ 1000) :
    Calls Tryd.prog 22 #[.string s] w fun e w' => e = .returned (.string ⟨(s.toList.map lowB).toArray⟩) ∧ Below w.heap.size w w' := by
  obtain ⟨cap, W1, hcv, hrow, hcap, hb⟩ := made_bytes (P := Tryd.prog) w 9 44 5 s Tryd.underlying9 Tryd.underlying44 Tryd.underlying5
  have hl := len_eq s
  obtain ⟨L, hL⟩ : ∃ L, L = s.toList := ⟨_, rfl⟩
  rw [← hL] at hcv hrow hcap hl ⊢
  have HR := Lib.hid hrow
  have HB := Lib.hid hb
  clear hL hrow hb
  obtain ⟨R, hR⟩ : ∃ R : ByteArray, R = ⟨(L.map lowB).toArray⟩ := ⟨_, rfl⟩
  rw [← hR]
  have HRR := Lib.hid hR
  clear hR
  obtain ⟨n, hn⟩ : ∃ n, n = L.length := ⟨_, rfl⟩
  rw [← hn] at hcv hcap hl
  have HN := Lib.hid hn
  clear hn
  go_enter Tryd.func22, Tryd.ntmps22
  go_wp2_with fail
  go_loopg [4, 9] n (fun kq v4 v9 wr => ∃ (i : Nat) (z : Value), v4 = z ∧ v9 = .int .i64 (i : Int) ∧ i + kq = n ∧ Hid (RowU wr w.heap.size (upto lowB L i)) ∧ Hid (Below w.heap.size w wr))
  case atStart => exact ⟨0, _, rfl, rfl, by omega, Lib.hid (by unfold upto; simpa using HR.out), HB⟩
  case round =>
    obtain ⟨i, z, rfl, rfl, hik, H1, H2⟩ := hrel
    cases gk with
    | zero =>
      have hiz : i = n := by omega
      subst hiz
      have e0 : upto lowB L i = L.map lowB := by unfold upto; rw [HN.out, List.take_length, List.drop_length, List.append_nil]
      have h1 := H1.out
      rw [e0] at h1
      have hcs := text_bytes (P := Tryd.prog) 44 9 5 cap Tryd.underlying44 Tryd.underlying5 Tryd.underlying9 h1
      rw [List.length_map, ← HN.out] at hcs
      rw [← HRR.out] at hcs
      clear h1 e0
      go_wp2_with fail
      go_ret
      exact ⟨rfl, H2.out⟩
    | succ m =>
      have hi : i < L.length := by have := HN.out; omega
      have hin : i < n := by omega
      have HIK := Lib.hid hik
      clear hik
      obtain ⟨hc, hz⟩ := H1.out i (by rw [upto_length]; exact hi)
      rw [upto_get _ _ _ hi] at hc
      obtain ⟨c, hcc⟩ : ∃ c, c = L[i] := ⟨_, rfl⟩
      rw [← hcc] at hc
      have HC := Lib.hid hcc
      clear hcc
      have hb8 : c.toNat < 256 := c.toNat_lt
      obtain ⟨x, hx⟩ : ∃ x, x = c.toNat := ⟨_, rfl⟩
      rw [← hx] at hc hb8
      by_cases hr : 65 ≤ c.toNat ∧ c.toNat ≤ 90
      · have hv := lowB_nat hr.1 hr.2
        rw [← hx] at hv hr
        have HV := Lib.hid hv
        have hr1 := hr.1
        have hr2 := hr.2
        clear hv hr hx
        go_wp2_with fail
        go_roundg m
        case measure => exact Nat.lt_succ_self m
        case rel => 
          refine ⟨i + 1, _, rfl, by simp, by (have := HIK.out; omega), Lib.hid ?_, Lib.hid (H2.out.setCell (Nat.le_refl _) _)⟩
          rw [upto_succ _ _ _ hi, ← HC.out, ← HV.out]
          exact RowU.store H1.out i _ (by rw [upto_length]; exact hi)
      · have hf : lowB L[i] = L[i] := by rw [← HC.out]; unfold lowB; rw [if_neg hr]
        rw [← hx] at hr
        clear hx
        by_cases hr1 : 65 ≤ x
        · have hr2 : ¬ x ≤ 90 := fun h => hr ⟨hr1, h⟩
          clear hr
          go_wp2_with fail
          go_roundg m
          case measure => exact Nat.lt_succ_self m
          case rel => exact ⟨i + 1, _, rfl, by simp, by (have := HIK.out; omega), Lib.hid (by rw [upto_same _ _ _ hi hf]; exact H1.out), H2⟩
        · clear hr
          go_wp2_with fail
          go_roundg m
          case measure => exact Nat.lt_succ_self m
          case rel => exact ⟨i + 1, _, rfl, by simp, by (have := HIK.out; omega), Lib.hid (by rw [upto_same _ _ _ hi hf]; exact H1.out), H2⟩
def spec_Lower.f (a0 : ByteArray) : Option (ByteArray) := if a0.size ≤ 1000 then some ⟨(a0.toList.map lowB).toArray⟩ else none
theorem spec_Lower.calls (a0 : ByteArray) (r : ByteArray) (w : World) (h : spec_Lower.f a0 = some r) :
    Calls Tryd.prog 22 #[.string a0] w fun e w' => e = .returned (.string r) ∧ Below w.heap.size w w' := by
  unfold spec_Lower.f at h
  split at h
  · obtain rfl := Option.some.inj h
    exact lower_walk a0 w (by assumption)
  · exact absurd h (by simp)

set_option maxRecDepth 20000 in
set_option maxHeartbeats 4000000 in
theorem upper_walk (s : ByteArray) (w : World) (hs : s.size ≤ 1000) :
    Calls Tryd.prog 23 #[.string s] w fun e w' => e = .returned (.string ⟨(s.toList.map highB).toArray⟩) ∧ Below w.heap.size w w' := by
  obtain ⟨cap, W1, hcv, hrow, hcap, hb⟩ := made_bytes (P := Tryd.prog) w 9 44 5 s Tryd.underlying9 Tryd.underlying44 Tryd.underlying5
  have hl := len_eq s
  obtain ⟨L, hL⟩ : ∃ L, L = s.toList := ⟨_, rfl⟩
  rw [← hL] at hcv hrow hcap hl ⊢
  have HR := Lib.hid hrow
  have HB := Lib.hid hb
  clear hL hrow hb
  obtain ⟨R, hR⟩ : ∃ R : ByteArray, R = ⟨(L.map highB).toArray⟩ := ⟨_, rfl⟩
  rw [← hR]
  have HRR := Lib.hid hR
  clear hR
  obtain ⟨n, hn⟩ : ∃ n, n = L.length := ⟨_, rfl⟩
  rw [← hn] at hcv hcap hl
  have HN := Lib.hid hn
  clear hn
  go_enter Tryd.func23, Tryd.ntmps23
  go_wp2_with fail
  go_loopg [4, 9] n (fun kq v4 v9 wr => ∃ (i : Nat) (z : Value), v4 = z ∧ v9 = .int .i64 (i : Int) ∧ i + kq = n ∧ Hid (RowU wr w.heap.size (upto highB L i)) ∧ Hid (Below w.heap.size w wr))
  case atStart => exact ⟨0, _, rfl, rfl, by omega, Lib.hid (by unfold upto; simpa using HR.out), HB⟩
  case round =>
    obtain ⟨i, z, rfl, rfl, hik, H1, H2⟩ := hrel
    cases gk with
    | zero =>
      have hiz : i = n := by omega
      subst hiz
      have e0 : upto highB L i = L.map highB := by unfold upto; rw [HN.out, List.take_length, List.drop_length, List.append_nil]
      have h1 := H1.out
      rw [e0] at h1
      have hcs := text_bytes (P := Tryd.prog) 44 9 5 cap Tryd.underlying44 Tryd.underlying5 Tryd.underlying9 h1
      rw [List.length_map, ← HN.out] at hcs
      rw [← HRR.out] at hcs
      clear h1 e0
      go_wp2_with fail
      go_ret
      exact ⟨rfl, H2.out⟩
    | succ m =>
      have hi : i < L.length := by have := HN.out; omega
      have hin : i < n := by omega
      have HIK := Lib.hid hik
      clear hik
      obtain ⟨hc, hz⟩ := H1.out i (by rw [upto_length]; exact hi)
      rw [upto_get _ _ _ hi] at hc
      obtain ⟨c, hcc⟩ : ∃ c, c = L[i] := ⟨_, rfl⟩
      rw [← hcc] at hc
      have HC := Lib.hid hcc
      clear hcc
      have hb8 : c.toNat < 256 := c.toNat_lt
      obtain ⟨x, hx⟩ : ∃ x, x = c.toNat := ⟨_, rfl⟩
      rw [← hx] at hc hb8
      by_cases hr : 97 ≤ c.toNat ∧ c.toNat ≤ 122
      · have hv := highB_nat hr.1 hr.2
        rw [← hx] at hv hr
        have HV := Lib.hid hv
        have hr1 := hr.1
        have hr2 := hr.2
        clear hv hr hx
        go_wp2_with fail
        go_roundg m
        case measure => exact Nat.lt_succ_self m
        case rel => 
          refine ⟨i + 1, _, rfl, by simp, by (have := HIK.out; omega), Lib.hid ?_, Lib.hid (H2.out.setCell (Nat.le_refl _) _)⟩
          rw [upto_succ _ _ _ hi, ← HC.out, ← HV.out]
          exact RowU.store H1.out i _ (by rw [upto_length]; exact hi)
      · have hf : highB L[i] = L[i] := by rw [← HC.out]; unfold highB; rw [if_neg hr]
        rw [← hx] at hr
        clear hx
        by_cases hr1 : 97 ≤ x
        · have hr2 : ¬ x ≤ 122 := fun h => hr ⟨hr1, h⟩
          clear hr
          go_wp2_with fail
          go_roundg m
          case measure => exact Nat.lt_succ_self m
          case rel => exact ⟨i + 1, _, rfl, by simp, by (have := HIK.out; omega), Lib.hid (by rw [upto_same _ _ _ hi hf]; exact H1.out), H2⟩
        · clear hr
          go_wp2_with fail
          go_roundg m
          case measure => exact Nat.lt_succ_self m
          case rel => exact ⟨i + 1, _, rfl, by simp, by (have := HIK.out; omega), Lib.hid (by rw [upto_same _ _ _ hi hf]; exact H1.out), H2⟩
def spec_Upper.f (a0 : ByteArray) : Option (ByteArray) := if a0.size ≤ 1000 then some ⟨(a0.toList.map highB).toArray⟩ else none
theorem spec_Upper.calls (a0 : ByteArray) (r : ByteArray) (w : World) (h : spec_Upper.f a0 = some r) :
    Calls Tryd.prog 23 #[.string a0] w fun e w' => e = .returned (.string r) ∧ Below w.heap.size w w' := by
  unfold spec_Upper.f at h
  split at h
  · obtain rfl := Option.some.inj h
    exact upper_walk a0 w (by assumption)
  · exact absurd h (by simp)

end Go.Proofs.YtpkdoinofenahaaDoor.Giv
