/- Walks of impl.Set, impl.Unset, spec.At. -/
import Derived.Test.YtaclgcpfcejplaaGreatDoorValP
namespace Go.Proofs.YtaclgcpfcejplaaGreatDoor.Vals
open Go.RowKit Go.ChangeMaps Go.Proofs.YtaclgcpfcejplaaGreatDoorW.PrintWords Go.Proofs.YtaclgcpfcejplaaGreatDoor.Txt
set_option linter.unusedVariables false
set_option maxRecDepth 20000

theorem dictOf_of {ks : List ByteArray} {l : List V} (ha : Asc ks) (hs : ∀ x ∈ ks, x.size ≤ maxLen) (hf : Fines l) (h300 : l.length ≤ 100000) : DictOfOk ks l := dictOf_step ks l ha hs (fun i h => valueOf_of (hf.at_ i h)) h300
def DictTwo (ks : List ByteArray) (l : List V) (w : World) (e : Ending) (w' : World) : Prop := ∃ kv lv, e = .returned (.tuple #[.agg #[.int .i64 7, .int .i64 0, .float .f64 0, .string ⟨#[]⟩, kv, lv], .bool true]) ∧
  Hid (IsV w' (fun b => w.heap.size ≤ b) (.mk 7 0 0 ⟨#[]⟩ ks (norms l)) [.int .i64 7, .int .i64 0, .float .f64 0, .string ⟨#[]⟩, kv, lv]) ∧ Hid (Below w.heap.size w w')
abbrev box6 (c0 c1 c2 c3 c4 c5 : Value) : Obj := .cells #[c0, c1, c2, c3, c4, c5] 28
theorem box2 (w : World) (a0 a1 a2 a3 a4 a5 b0 b1 b2 b3 b4 b5 : Value) :
    Box6 ((w.alloc (box6 a0 a1 a2 a3 a4 a5)).alloc (box6 b0 b1 b2 b3 b4 b5)) w.heap.size a0 a1 a2 a3 a4 a5 ∧ Box6 ((w.alloc (box6 a0 a1 a2 a3 a4 a5)).alloc (box6 b0 b1 b2 b3 b4 b5)) (w.heap.size + 1) b0 b1 b2 b3 b4 b5 ∧
      Below w.heap.size w ((w.alloc (box6 a0 a1 a2 a3 a4 a5)).alloc (box6 b0 b1 b2 b3 b4 b5)) := by
  refine ⟨(Box6.new w _ _ _ _ _ _).below ((Below.refl _ _).alloc (Nat.le_refl _) _), ?_, ((Below.refl _ _).alloc (Nat.le_refl _) _).alloc (by simp) _⟩
  have h := Box6.new (w.alloc (box6 a0 a1 a2 a3 a4 a5)) b0 b1 b2 b3 b4 b5
  rw [World.size_alloc] at h
  exact h
theorem box3 (w : World) (a0 a1 a2 a3 a4 a5 b0 b1 b2 b3 b4 b5 c0 c1 c2 c3 c4 c5 : Value) :
    Box6 (((w.alloc (box6 a0 a1 a2 a3 a4 a5)).alloc (box6 b0 b1 b2 b3 b4 b5)).alloc (box6 c0 c1 c2 c3 c4 c5)) w.heap.size a0 a1 a2 a3 a4 a5 ∧
    Box6 (((w.alloc (box6 a0 a1 a2 a3 a4 a5)).alloc (box6 b0 b1 b2 b3 b4 b5)).alloc (box6 c0 c1 c2 c3 c4 c5)) (w.heap.size + 1) b0 b1 b2 b3 b4 b5 ∧
    Box6 (((w.alloc (box6 a0 a1 a2 a3 a4 a5)).alloc (box6 b0 b1 b2 b3 b4 b5)).alloc (box6 c0 c1 c2 c3 c4 c5)) (w.heap.size + 2) c0 c1 c2 c3 c4 c5 ∧
      Below w.heap.size w (((w.alloc (box6 a0 a1 a2 a3 a4 a5)).alloc (box6 b0 b1 b2 b3 b4 b5)).alloc (box6 c0 c1 c2 c3 c4 c5)) := by
  obtain ⟨h1, h2, h3⟩ := box2 w a0 a1 a2 a3 a4 a5 b0 b1 b2 b3 b4 b5
  refine ⟨h1.below ((Below.refl _ _).alloc (Nat.le_refl _) _), h2.below ((Below.refl _ _).alloc (Nat.le_refl _) _), ?_, h3.alloc (by simp; omega) _⟩
  have h := Box6.new ((w.alloc (box6 a0 a1 a2 a3 a4 a5)).alloc (box6 b0 b1 b2 b3 b4 b5)) c0 c1 c2 c3 c4 c5
  rw [World.size_alloc, World.size_alloc] at h
  exact h
theorem keys_size {n : Int} {r : Nat} {t : ByteArray} {ks : List ByteArray} {l : List V} {d : Int} (hR : Right (.mk 7 n r t ks l) d) : ∀ x ∈ ks, x.size ≤ maxLen := by
  unfold Right at hR
  obtain ⟨_, _, _, _, _, _, _, h8, h9, _⟩ := hR
  intro x hx
  obtain ⟨i, hi, rfl⟩ := List.mem_iff_getElem.1 hx
  have := (h9 rfl i (by have := h8 rfl; omega)).1
  simp only [List.getD_eq_getElem?_getD, List.getElem?_eq_getElem hi, Option.getD_some] at this
  unfold maxLen; omega
theorem dict_parts {n : Int} {r : Nat} {t : ByteArray} {ks : List ByteArray} {l : List V} {d : Int} (hR : Right (.mk 7 n r t ks l) d) : Asc ks ∧ Rights l (d - 1) ∧ ks.length = l.length ∧ l.length ≤ 300 := by
  have h := dictOk_of hR
  unfold Right at hR
  exact ⟨h.asc, h.r, hR.2.2.2.2.2.2.2.1 rfl, hR.2.2.2.2.1⟩
theorem put_le {α : Type} {ks : List ByteArray} {l : List α} {s : ByteArray} {u : α} : (putL ks l s u).length ≤ l.length + 1 := by
  unfold putL
  split
  · rw [List.length_set]; omega
  · simp only [List.length_append, List.length_cons, List.length_take, List.length_drop]; omega
theorem take_le {α : Type} {ks : List ByteArray} {l : List α} {s : ByteArray} : (takeL ks l s).length ≤ l.length := by
  unfold takeL
  split
  · rw [List.length_eraseIdx]; split <;> omega
  · omega

/-! ### spec.At -/
set_option maxHeartbeats 2000000 in
theorem specAt_walk (k n : Int) (r : Nat) (t : ByteArray) (ks : List ByteArray) (A : Option Addr) (c : Nat) (lv : Value) (s : ByteArray) (P : Nat → Prop) (w : World)
    (hk : RowIs w P 1 (.slice A ks.length c) ks.length (ks.map Value.string)) :
    Calls Tryz.prog 12 #[.agg #[.int .i64 k, .int .i64 n, .float .f64 r, .string t, .slice A ks.length c, lv], .string s] w
      fun e w' => e = .returned (.tuple #[.int .i64 (atD ks s : Int), .bool (isD ks s)]) ∧ Below w.heap.size w w' := by
  have hke : ∀ i (hi : i < ks.length), ∃ b o, A = some ⟨b, o, none⟩ ∧ b < w.heap.size ∧ w.cell? ⟨b, o + i, none⟩ = some (.string ks[i]) := fun i hi => by
    obtain ⟨b, o, hA, _, hc⟩ := hk.elem (by omega)
    have := hc i (.string ks[i]) (by simp [hi])
    exact ⟨b, o, hA, World.block_lt_of_cell? w _ this, this⟩
  obtain ⟨hnc, hcm⟩ := hk.sizes
  unfold maxLen at hcm
  have HKE := Lib.hid hke
  obtain ⟨at0, hat⟩ : ∃ a, a = atD ks s := ⟨_, rfl⟩
  obtain ⟨is0, his⟩ : ∃ b, b = isD ks s := ⟨_, rfl⟩
  rw [← hat, ← his]
  have HAT := Lib.hid hat
  have HIS := Lib.hid his
  obtain ⟨m, hm⟩ : ∃ m, m = ks.length := ⟨_, rfl⟩
  rw [← hm] at hnc ⊢
  have HM := Lib.hid hm
  have HB0 := Lib.hid (Box6.new w (.int .i64 k) (.int .i64 n) (.float .f64 r) (.string t) (.slice A m c) lv)
  have HBW := Lib.hid ((Below.refl w.heap.size w).alloc (Nat.le_refl _) (box6 (.int .i64 k) (.int .i64 n) (.float .f64 r) (.string t) (.slice A m c) lv))
  clear hk hke hat his hm
  have hsf := store_float
  go_enter Tryz.func12, Tryz.ntmps12
  go_wp2_with fail
  obtain ⟨w1, hw1⟩ : ∃ w1, w1 = w.alloc (.cells #[.int .i64 k, .int .i64 n, .float .f64 r, .string t, .slice A m c, lv] 28) := ⟨_, rfl⟩
  have hbx : Box6 w1 w.heap.size (.int .i64 k) (.int .i64 n) (.float .f64 r) (.string t) (.slice A m c) lv := by rw [hw1]; exact HB0.out
  have hbw : Below w.heap.size w w1 := by rw [hw1]; exact HBW.out
  rw [← hw1]
  have HB1 := Lib.hid hbw
  obtain ⟨_, _, _, _, d4, _⟩ := hbx.cells
  clear hw1 HBW HB0 hbw hbx
  go_loopg [6] m (fun kq v6 wr => ∃ (i : Nat), wr = w1 ∧ v6 = .int .i64 (i : Int) ∧ i + kq = m ∧ Hid (∀ j (h : j < ks.length), j < i → lessB ks[j] s = true))
  case atStart => exact ⟨0, rfl, rfl, by omega, Lib.hid (fun j _ hj => by omega)⟩
  case round =>
    obtain ⟨i, rfl, rfl, hik, H1⟩ := hrel
    cases gk with
    | zero =>
      have hi : ¬ i < m := by omega
      have him : i = m := by omega
      have hA : at0 = i := by rw [HAT.out]; exact atD_of (by rw [him, HM.out]; exact Nat.le_refl _) H1.out (fun h => by have := HM.out; omega)
      have hI : is0 = false := by
        rw [HIS.out]; unfold isD
        have : atD ks s = i := by rw [← HAT.out]; exact hA
        rw [this, List.getElem?_eq_none (by have := HM.out; omega)]; simp
      subst hA
      subst hI
      have hd : decide ((at0 : Int) < (m : Int)) = false := by simp; omega
      have hd2 : decide (at0 < m) = false := by simp; omega
      clear hik him
      go_wp2_with fail
      go_quiet (fail)
      go_wp2_with fail
      go_ret2
      exact ⟨rfl, HB1.out.trans (c := wr.drewN nq) ⟨rfl, rfl, rfl, Nat.le_refl _, fun _ _ => rfl⟩⟩
    | succ mm =>
      have hi : i < m := by omega
      have hi' : i < ks.length := by have := HM.out; omega
      obtain ⟨b, o, hA, hbs, e0⟩ := HKE.out i hi'
      subst hA
      obtain ⟨q, hq⟩ : ∃ q, q = ks[i] := ⟨_, rfl⟩
      rw [← hq] at e0
      have g0 := (HB1.out.cell (p := ⟨b, o + i, none⟩) hbs).trans e0
      have hii0 : (0 : Int) ≤ (i : Int) := by omega
      have hiin : (i : Int) < (m : Int) := by omega
      have HQ := Lib.hid hq
      have HIK := Lib.hid hik
      clear e0 hq hik
      cases hl : Op.bytesLess q.toList s.toList with
      | true =>
        have HL := Lib.hid hl
        go_wp2_with fail
        go_roundg mm
        case measure => exact Nat.lt_succ_self mm
        case rel =>
          refine ⟨i + 1, rfl, by simp, by have := HIK.out; omega, Lib.hid (fun j hj hji => ?_)⟩
          by_cases e : j = i
          · subst e; rw [← HQ.out]; exact HL.out
          · exact H1.out j hj (by omega)
      | false =>
        have hA : at0 = i := by rw [HAT.out]; exact atD_of (by omega) H1.out (fun _ => by rw [← HQ.out]; exact hl)
        have hI : is0 = (q.toList == s.toList) := by
          rw [HIS.out]; unfold isD
          have : atD ks s = i := by rw [← HAT.out]; exact hA
          rw [this, List.getElem?_eq_getElem hi', ← HQ.out, Bool.eq_iff_iff]
          simp only [decide_eq_true_eq, Option.some.injEq, beq_iff_eq]
          exact ⟨fun h => by rw [h], fun h => ext_eq h⟩
        subst hA
        have HI := Lib.hid hI
        have hd : decide ((at0 : Int) < (m : Int)) = true := by simp; omega
        have hd2 : decide (at0 < m) = true := by simp; omega
        clear hI
        go_wp2_with fail
        go_quiet (fail)
        go_wp2_with fail
        go_ret2
        exact ⟨by rw [HI.out]; rfl, HB1.out.trans (c := wr.drewN nq) ⟨rfl, rfl, rfl, Nat.le_refl _, fun _ _ => rfl⟩⟩
end Go.Proofs.YtaclgcpfcejplaaGreatDoor.Vals
