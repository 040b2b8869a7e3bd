/- What stands behind keys in dictionaries within each other; walk of sprig's digFromDict. -/
import Derived.Test.YtaclgcpfcejplaaValSel
namespace Go.Proofs.Ytaclgcpfcejplaa.Vals
open Go.RowKit Go.ChangeMaps Go.Proofs.YtaclgcpfcejplaaW.PrintWords Go.Proofs.Ytaclgcpfcejplaa.Txt
set_option linter.unusedVariables false
set_option maxRecDepth 20000

/-- What stands behind keys; nothing, where no dictionary stands ahead of a key. -/
def dug (o : V) : List ByteArray → V → Option V
  | [], d => some d
  | k :: r, d => if d.k = 7 then (if isD d.ks k = true then dug o r (d.l.getD (atD d.ks k) o) else some o) else none
theorem kid_right {d : V} {dd : Int} (h : Right d dd) (h7 : d.k = 7) {s : ByteArray} (hs : isD d.ks s = true) (o : V) : ∃ hi : atD d.ks s < d.l.length, d.l.getD (atD d.ks s) o = d.l[atD d.ks s] ∧ Right d.l[atD d.ks s] (dd - 1) := by
  obtain ⟨k, n, r, t, ks, l⟩ := d
  simp only [V.k] at h7
  subst h7
  obtain ⟨hasc, hrl, hlen, h300⟩ := dict_parts h
  simp only [V.ks, V.l] at hs ⊢
  obtain ⟨hi, _⟩ := isD_mem hs
  have hi' : atD ks s < l.length := by omega
  exact ⟨hi', by rw [List.getD_eq_getElem?_getD, List.getElem?_eq_getElem hi', Option.getD_some], hrl.at_ _ hi'⟩
theorem dug_right {o : V} (ho : Right o 8) : ∀ {ks : List ByteArray} {d u : V} {dd : Int}, Right d dd → dug o ks d = some u → ∃ d', Right u d'
  | [], d, u, dd, h, e => by simp only [dug, Option.some.injEq] at e; rw [← e]; exact ⟨dd, h⟩
  | k :: r, d, u, dd, h, e => by
    unfold dug at e
    split at e
    · rename_i h7
      split at e
      · rename_i hs
        obtain ⟨hi, e1, e2⟩ := kid_right h h7 hs o
        rw [e1] at e
        exact dug_right ho e2 e
      · injection e with e; rw [← e]; exact ⟨8, ho⟩
    · cases e
/-- A Go value that stands for a dictionary. -/
theorem GoV.is_dict {w : World} {P : Nat → Prop} {n : Int} {r : Nat} {t : ByteArray} {ks : List ByteArray} {l : List V} {x : Value} (h : GoV w P (.mk 7 n r t ks l) x) : ∃ b, x = .iface 39 (.map (some b)) ∧ MapIs w P ks l b := by
  unfold GoV at h
  rcases h with h | h | h | h | h | h | h | h
  all_goals first
    | (obtain ⟨e, _⟩ := h; exact absurd e (by decide))
    | skip
  obtain ⟨_, b, es, clk, xs, rfl, h1, h2, h3, h4, h5, h6, h7, h8⟩ := h
  exact ⟨b, rfl, es, clk, xs, h1, h2, h3, h4, h5, h6, h7, h8⟩

set_option maxHeartbeats 4000000 in
theorem digFrom_walk (o : V) (x : Value) : ∀ (rest : List ByteArray) (k : ByteArray) (n : Int) (r : Nat) (t : ByteArray) (ks : List ByteArray) (l : List V) (dd : Int) (hR : Right (.mk 7 n r t ks l) dd) (u : V) (hu : dug o (k :: rest) (.mk 7 n r t ks l) = some u) (A : Option Addr) (c m : Nat) (b : Nat) (P Q : Nat → Prop) (w : World)
    (hm : MapIs w P ks l b) (ho : GoV w P o x) (hlm : rest.length = m) (hk : RowIs w Q 1 (.slice A (m + 1) c) (m + 1) ((k :: rest).map Value.string)),
    Calls Try.prog 26 #[.map (some b), x, .slice A (m + 1) c] w fun e w' => ∃ y, e = .returned (.tuple #[y, .nilIface]) ∧ Hid (GoV w' P u y) ∧ Hid (Below w.heap.size w w') := by
  intro rest
  induction rest with
  | nil =>
    intro k n r t ks l dd hR u hu A c m b P Q w hm ho hlm hk
    obtain ⟨hasc, hrl, hlen, h300⟩ := dict_parts hR
    obtain ⟨hnc, hcm⟩ := hk.sizes
    unfold maxLen at hcm
    obtain ⟨kb, ko, hA, hq, hc⟩ := hk.elem (by omega)
    have hc0 := hc 0 (.string k) (by simp)
    have g0 : w.cell? ⟨kb, ko, none⟩ = some (.string k) := by simpa using hc0
    subst hA
    have h0 : (0 : Int) < (m : Int) + 1 := by omega
    obtain ⟨es, clk, xs, e1, e2, e3, e4, e5, e6, e7, e8⟩ := hm
    have hxl : xs.length = ks.length := by rw [e8.len]; omega
    have hkp := keys_perm e7 (by omega)
    have hdr : ∀ j, Below w.heap.size w (w.drewN j) := fun j => ⟨rfl, rfl, rfl, Nat.le_refl _, fun _ _ => rfl⟩
    have HDR := Lib.hid hdr
    cases hd : isD ks k with
    | false =>
      have hns := isD_no hasc hd
      have hu' : o = u := by
        unfold dug at hu
        simp only [V.k, V.ks, hd, if_true, Bool.false_eq_true, if_false, Option.some.injEq] at hu
        exact hu
      have hlook : ∀ j, (Instr.lookup 39 (.map (some b)) (.string k) true).run Try.prog (w.drewN j) = .ok (.tuple #[.nilIface, .bool false]) (w.drewN j) := fun j => by
        have := run_lookup_no (P := Try.prog) (w := w.drewN j) Try.underlying39 Try.underlying9 (show (w.drewN j).heap[b]? = some (.map es clk) from e2) (keys_text hkp) k (fun e he hek => hns (by
          obtain ⟨j, hj, _, h1, _⟩ := entry_of e7 he
          rw [h1] at hek
          injection hek with hek
          rw [← hek]; exact List.getElem_mem hj)) (z := .nilIface) (by kernel_rfl) true
        simpa only [if_true] using this
      have HO := Lib.hid ho
      have HU := Lib.hid hu'
      clear hR hu hasc hrl hlen h300 hk hc hc0 e1 e2 e3 e4 e5 e6 e7 e8 hxl hkp hdr hns hu' ho hq hlm
      go_enter Try.func26, Try.ntmps26
      go_wp2_with fail
      go_quiet (fail)
      all_goals go_wp2_with fail
      all_goals go_ret2
      all_goals exact ⟨_, rfl, Lib.hid (by rw [← HU.out]; exact GoV.keep (Kept.below (HDR.out _)) _ HO.out), Lib.hid (HDR.out _)⟩
    | true =>
      obtain ⟨hi, hks⟩ := isD_mem hd
      have hil : atD ks k < l.length := by omega
      have hu' : dug o [] l[atD ks k] = some u := by
        unfold dug at hu
        simp only [V.k, V.ks, V.l, hd, if_true] at hu
        rwa [List.getD_eq_getElem?_getD, List.getElem?_eq_getElem hil, Option.getD_some] at hu
      obtain ⟨e, he, hek, hev⟩ := entry_at e7 (atD ks k) hi (by omega)
      obtain ⟨y, hy, hgy⟩ := e8.at_ (atD ks k) hil
      have hyy : e.val = y := by rw [hev]; rw [List.getElem?_eq_getElem (by omega)] at hy; injection hy
      have hlook : ∀ j, (Instr.lookup 39 (.map (some b)) (.string k) true).run Try.prog (w.drewN j) = .ok (.tuple #[y, .bool true]) (w.drewN j) := fun j => by
        have := run_lookup_yes (P := Try.prog) (w := w.drewN j) Try.underlying39 Try.underlying9 (show (w.drewN j).heap[b]? = some (.map es clk) from e2) (keys_text hkp) k he (by rw [hek, hks]) (keys_nodup hkp hasc) true
        rw [hyy] at this
        simpa only [if_true] using this
      have hrk := hrl.at_ (atD ks k) hil
      obtain ⟨v, hv⟩ : ∃ v, v = l[atD ks k] := ⟨_, rfl⟩
      rw [← hv] at hu' hgy hrk
      obtain rfl : m = 0 := by simpa using hlm.symm
      have hu2 : v = u := by simpa only [dug, Option.some.injEq] using hu'
      have HG := Lib.hid hgy
      have HU := Lib.hid hu2
      clear hR hu hasc hrl hlen h300 hk hc hc0 e1 e2 e3 e4 e5 e6 e7 e8 hxl hkp hdr hu' ho hq he hek hev hy hyy hgy hrk hu2 hv
      go_enter Try.func26, Try.ntmps26
      go_wp2_with fail
      go_quiet (fail)
      all_goals go_wp2_with fail
      all_goals go_ret2
      all_goals exact ⟨_, rfl, Lib.hid (by rw [← HU.out]; exact GoV.keep (Kept.below (HDR.out _)) _ HG.out), Lib.hid (HDR.out _)⟩
  | cons k2 rest ih =>
    intro k n r t ks l dd hR u hu A c m b P Q w hm ho hlm hk
    obtain ⟨hasc, hrl, hlen, h300⟩ := dict_parts hR
    obtain ⟨hnc, hcm⟩ := hk.sizes
    unfold maxLen at hcm
    obtain ⟨kb, ko, hA, hq, hc⟩ := hk.elem (by omega)
    have hc0 := hc 0 (.string k) (by simp)
    have g0 : w.cell? ⟨kb, ko, none⟩ = some (.string k) := by simpa using hc0
    subst hA
    have h0 : (0 : Int) < (m : Int) + 1 := by omega
    obtain ⟨es, clk, xs, e1, e2, e3, e4, e5, e6, e7, e8⟩ := hm
    have hxl : xs.length = ks.length := by rw [e8.len]; omega
    have hkp := keys_perm e7 (by omega)
    have hdr : ∀ j, Below w.heap.size w (w.drewN j) := fun j => ⟨rfl, rfl, rfl, Nat.le_refl _, fun _ _ => rfl⟩
    have HDR := Lib.hid hdr
    cases hd : isD ks k with
    | false =>
      have hns := isD_no hasc hd
      have hu' : o = u := by
        unfold dug at hu
        simp only [V.k, V.ks, hd, if_true, Bool.false_eq_true, if_false, Option.some.injEq] at hu
        exact hu
      have hlook : ∀ j, (Instr.lookup 39 (.map (some b)) (.string k) true).run Try.prog (w.drewN j) = .ok (.tuple #[.nilIface, .bool false]) (w.drewN j) := fun j => by
        have := run_lookup_no (P := Try.prog) (w := w.drewN j) Try.underlying39 Try.underlying9 (show (w.drewN j).heap[b]? = some (.map es clk) from e2) (keys_text hkp) k (fun e he hek => hns (by
          obtain ⟨j, hj, _, h1, _⟩ := entry_of e7 he
          rw [h1] at hek
          injection hek with hek
          rw [← hek]; exact List.getElem_mem hj)) (z := .nilIface) (by kernel_rfl) true
        simpa only [if_true] using this
      have HO := Lib.hid ho
      have HU := Lib.hid hu'
      clear hR hu hasc hrl hlen h300 hk hc hc0 e1 e2 e3 e4 e5 e6 e7 e8 hxl hkp hdr hns hu' ho hq hlm
      go_enter Try.func26, Try.ntmps26
      go_wp2_with fail
      go_quiet (fail)
      all_goals go_wp2_with fail
      all_goals go_ret2
      all_goals exact ⟨_, rfl, Lib.hid (by rw [← HU.out]; exact GoV.keep (Kept.below (HDR.out _)) _ HO.out), Lib.hid (HDR.out _)⟩
    | true =>
      obtain ⟨hi, hks⟩ := isD_mem hd
      have hil : atD ks k < l.length := by omega
      have hu' : dug o (k2 :: rest) l[atD ks k] = some u := by
        unfold dug at hu
        simp only [V.k, V.ks, V.l, hd, if_true] at hu
        rwa [List.getD_eq_getElem?_getD, List.getElem?_eq_getElem hil, Option.getD_some] at hu
      obtain ⟨e, he, hek, hev⟩ := entry_at e7 (atD ks k) hi (by omega)
      obtain ⟨y, hy, hgy⟩ := e8.at_ (atD ks k) hil
      have hyy : e.val = y := by rw [hev]; rw [List.getElem?_eq_getElem (by omega)] at hy; injection hy
      have hlook : ∀ j, (Instr.lookup 39 (.map (some b)) (.string k) true).run Try.prog (w.drewN j) = .ok (.tuple #[y, .bool true]) (w.drewN j) := fun j => by
        have := run_lookup_yes (P := Try.prog) (w := w.drewN j) Try.underlying39 Try.underlying9 (show (w.drewN j).heap[b]? = some (.map es clk) from e2) (keys_text hkp) k he (by rw [hek, hks]) (keys_nodup hkp hasc) true
        rw [hyy] at this
        simpa only [if_true] using this
      have hrk := hrl.at_ (atD ks k) hil
      obtain ⟨v, hv⟩ : ∃ v, v = l[atD ks k] := ⟨_, rfl⟩
      rw [← hv] at hu' hgy hrk
      obtain ⟨vk, vn, vr, vt, vks, vl⟩ := v
      obtain rfl : vk = 7 := by
        unfold dug at hu'
        split at hu'
        · assumption
        · cases hu'
      obtain ⟨b2, rfl, hm2⟩ := hgy.is_dict
      have hcast : ∀ W, (Instr.typeAssert (.iface 39 (.map (some b2))) 20 39 false).run Try.prog W = .ok (.map (some b2)) W := fun W => by kernel_rfl
      have hrow : RowIs w Q 1 (.slice (some ⟨kb, ko + 1, none⟩) (rest.length + 1) (c - 1)) (rest.length + 1) ((k2 :: rest).map Value.string) := by
        refine ⟨_, _, rfl, by have : rest.length + 1 = m := hlm; omega, by unfold maxLen; omega, by simp, fun _ => ⟨kb, ko + 1, rfl, hq, fun j u hj => ?_⟩⟩
        have := hc (j + 1) u (by simpa using hj)
        rw [← this]
        congr 2
        omega
      have HIH : Hid (∀ j, _) := Lib.hid fun j => ih k2 vn vr vt vks vl _ hrk u hu' (some ⟨kb, ko + 1, none⟩) (c - 1) rest.length b2 P Q (w.drewN j) (by
          obtain ⟨f1, f2, f3, f4, f5, f6, f7, f8, f9, f10⟩ := hm2
          exact ⟨f1, f2, f3, f4, f5, f6, f7, f8, f9, f10.1, GoVs.keep (Kept.below (hdr j)) _ f10.2⟩) (GoV.keep (Kept.below (hdr j)) _ ho) rfl (hrow.keep (by omega) (Kept.below (hdr j)))
      obtain ⟨m3, hm3⟩ : ∃ m3, m3 = rest.length := ⟨_, rfl⟩
      obtain rfl : m = m3 + 1 := by rw [← hlm, hm3]; rfl
      rw [← hm3] at HIH
      have h1 : (0 : Int) < (m3 : Int) + 1 + 1 := by omega
      clear hR hu hasc hrl hlen h300 hk hc hc0 e1 e2 e3 e4 e5 e6 e7 e8 hxl hkp hdr hu' ho hq he hek hev hy hyy hgy hrk hv hm2 hrow hm3 hlm ih
      have hne : ((m3 : Int) + 1 == 0) = false := by simp; omega
      go_enter Try.func26, Try.ntmps26
      go_wp2_with fail
      go_quiet (fail)
      rw [show m3 + 1 + 1 - 1 = m3 + 1 by omega]
      go_wp2_with fail
      refine (HIH.out _).mono ?_
      rintro e w2 ⟨z, rfl, HG, HB⟩
      go_wp2_with fail
      go_ret2
      exact ⟨_, rfl, HG, Lib.hid ((HDR.out _).trans HB.out)⟩
end Go.Proofs.Ytaclgcpfcejplaa.Vals
