/- Walks of sprig.coalesce, all, any. -/
import Derived.Test.YtlkfdjnkkooofaaValM
import Derived.Test.YtlkfdjnkkooofaaValE2
namespace Go.Proofs.Ytlkfdjnkkooofaa.Vals
open Go.RowKit Go.Proofs.YtlkfdjnkkooofaaW.PrintWords
set_option linter.unusedVariables false
set_option maxRecDepth 20000

/-- The first that is not empty. -/
def pickV : List V → V
  | [] => V.nil
  | v :: r => if emptyB v = true then pickV r else v
def pickX : List V → List Value → Value
  | v :: r, x :: s => if emptyB v = true then pickX r s else x
  | _, _ => .nilIface
theorem GoVs.pick {w : World} {P : Nat → Prop} : ∀ {l : List V} {xs : List Value}, GoVs w P l xs → GoV w P (pickV l) (pickX l xs)
  | [], xs, h => by unfold GoVs at h; subst h; exact GoV.nil w P
  | v :: l, xs, h => by
    unfold GoVs at h
    obtain ⟨x, r, rfl, h1, h2⟩ := h
    unfold pickV pickX
    split
    · exact GoVs.pick h2
    · exact h1
set_option maxHeartbeats 1000000 in
theorem coalesce_walk (a : Addr) (c : Nat) (l : List V) (xs : List Value) (P : Nat → Prop) (w : World) (hr : Rights l 8) (h : RowIs w P 1 (.slice (some a) l.length c) l.length xs) (hv : GoVs w P l xs) (h60 : l.length ≤ 60) :
    Calls Try.prog 84 #[.slice (some a) l.length c] w fun e w' => e = .returned (pickX l xs) ∧ w' = w := by
  have HE : Hid (∀ i (hi : i < l.length), ∃ b o x, a = ⟨b, o, none⟩ ∧ w.cell? ⟨b, o + i, none⟩ = some x ∧ xs[i]? = some x ∧ Calls Try.prog 99 #[x] w fun e w' => e = .returned (.bool (emptyB l[i])) ∧ w' = w) := Lib.hid fun i hi => by
    obtain ⟨b, o, ha, _, hc⟩ := h.cell1 (by omega)
    obtain ⟨x, hx, hg⟩ := hv.at_ i hi
    exact ⟨b, o, x, ha, hc i x hx, hx, goEmpty_walk _ 8 (hr.at_ i hi) x P w hg⟩
  obtain ⟨n, hn⟩ : ∃ n, n = l.length := ⟨_, rfl⟩
  obtain ⟨z, hz⟩ : ∃ z, z = pickX l xs := ⟨_, rfl⟩
  rw [← hn] at h60 ⊢
  rw [← hz]
  have HN := Lib.hid hn
  have HZ := Lib.hid hz
  have HLX := Lib.hid hv.len
  clear h hv hr hn hz
  go_enter Try.func84, Try.ntmps84
  go_wp2_with fail
  go_loopg [4, 7] n (fun kq v4 v7 wr => ∃ (i : Nat), wr = w ∧ v7 = .int .i64 (i : Int) ∧ i + kq = n ∧ Hid (z = pickX (l.drop i) (xs.drop i)))
  case atStart => exact ⟨0, rfl, rfl, by omega, Lib.hid (by rw [HZ.out]; simp)⟩
  case round =>
    obtain ⟨i, rfl, rfl, hik, HP⟩ := hrel
    cases gk with
    | zero =>
      have hi : ¬ i < n := by omega
      have HIK := Lib.hid hik
      clear hik
      go_wp2_with fail
      go_ret
      have hnn := HN.out
      have hii := HIK.out
      refine ⟨?_, rfl⟩
      rw [HP.out, List.drop_of_length_le (by omega)]
      rfl
    | succ m =>
      have hi : i < n := by omega
      obtain ⟨b, o, x, rfl, g0, hx, hcall⟩ := HE.out i (by rw [← HN.out]; exact hi)
      have HX := Lib.hid hx
      have HC := Lib.hid hcall
      have HIK := Lib.hid hik
      clear hx hcall hik
      obtain ⟨bb, hbb⟩ : ∃ bb, bb = emptyB (l[i]'(by rw [← HN.out]; exact hi)) := ⟨_, rfl⟩
      rw [← hbb] at HC
      have HBB := Lib.hid hbb
      clear hbb
      have HD : Hid (z = if bb = true then pickX (l.drop (i + 1)) (xs.drop (i + 1)) else x) := Lib.hid (by
        have hil : i < l.length := by rw [← HN.out]; exact hi
        have hix : i < xs.length := by rw [HLX.out]; exact hil
        have hxx := HX.out
        rw [List.getElem?_eq_getElem hix] at hxx
        injection hxx with hxx
        rw [HP.out, List.drop_eq_getElem_cons hil, List.drop_eq_getElem_cons hix, pickX, ← HBB.out, hxx])
      go_wp2_with fail
      refine (HC.out).mono ?_
      rintro e w1 ⟨rfl, hw1⟩
      subst w1
      cases bb with
      | true =>
        go_wp2_with fail
        go_roundg m
        case measure => exact Nat.lt_succ_self m
        case rel => exact ⟨i + 1, rfl, by simp, by have := HIK.out; omega, Lib.hid (by have := HD.out; simpa using this)⟩
      | false =>
        go_wp2_with fail
        go_ret
        refine ⟨?_, rfl⟩
        have := HD.out
        simp at this
        rw [this]; rfl
-- ADDED
set_option maxHeartbeats 1000000 in
theorem all_walk (a : Addr) (c : Nat) (l : List V) (xs : List Value) (P : Nat → Prop) (w : World) (hr : Rights l 8) (h : RowIs w P 1 (.slice (some a) l.length c) l.length xs) (hv : GoVs w P l xs) (h60 : l.length ≤ 60) :
    Calls Try.prog 85 #[.slice (some a) l.length c] w fun e w' => e = .returned (.bool (l.all fun v => !emptyB v)) ∧ w' = w := by
  have HE : Hid (∀ i (hi : i < l.length), ∃ b o x, a = ⟨b, o, none⟩ ∧ w.cell? ⟨b, o + i, none⟩ = some x ∧ xs[i]? = some x ∧ Calls Try.prog 99 #[x] w fun e w' => e = .returned (.bool (emptyB l[i])) ∧ w' = w) := Lib.hid fun i hi => by
    obtain ⟨b, o, ha, _, hc⟩ := h.cell1 (by omega)
    obtain ⟨x, hx, hg⟩ := hv.at_ i hi
    exact ⟨b, o, x, ha, hc i x hx, hx, goEmpty_walk _ 8 (hr.at_ i hi) x P w hg⟩
  obtain ⟨n, hn⟩ : ∃ n, n = l.length := ⟨_, rfl⟩
  obtain ⟨z, hz⟩ : ∃ z : Bool, z = l.all fun v => !emptyB v := ⟨_, rfl⟩
  rw [← hn] at h60 ⊢
  rw [← hz]
  have HN := Lib.hid hn
  have HZ := Lib.hid hz
  have HLX := Lib.hid hv.len
  clear h hv hr hn hz
  go_enter Try.func85, Try.ntmps85
  go_wp2_with fail
  go_loopg [4, 7] n (fun kq v4 v7 wr => ∃ (i : Nat), wr = w ∧ v7 = .int .i64 (i : Int) ∧ i + kq = n ∧ Hid (z = (l.drop i).all fun v => !emptyB v))
  case atStart => exact ⟨0, rfl, rfl, by omega, Lib.hid (by rw [HZ.out]; simp)⟩
  case round =>
    obtain ⟨i, rfl, rfl, hik, HP⟩ := hrel
    cases gk with
    | zero =>
      have hi : ¬ i < n := by omega
      have HIK := Lib.hid hik
      clear hik
      go_wp2_with fail
      go_ret
      have hnn := HN.out
      have hii := HIK.out
      refine ⟨?_, rfl⟩
      rw [HP.out, List.drop_of_length_le (by omega)]
      rfl
    | succ m =>
      have hi : i < n := by omega
      obtain ⟨b, o, x, rfl, g0, hx, hcall⟩ := HE.out i (by rw [← HN.out]; exact hi)
      have HX := Lib.hid hx
      have HC := Lib.hid hcall
      have HIK := Lib.hid hik
      clear hx hcall hik
      obtain ⟨bb, hbb⟩ : ∃ bb, bb = emptyB (l[i]'(by rw [← HN.out]; exact hi)) := ⟨_, rfl⟩
      rw [← hbb] at HC
      have HBB := Lib.hid hbb
      clear hbb
      have HD : Hid (z = (!bb && (l.drop (i + 1)).all fun v => !emptyB v)) := Lib.hid (by
        have hil : i < l.length := by rw [← HN.out]; exact hi
        rw [HP.out, List.drop_eq_getElem_cons hil, List.all_cons, ← HBB.out])
      go_wp2_with fail
      refine (HC.out).mono ?_
      rintro e w1 ⟨rfl, hw1⟩
      subst w1
      cases bb with
      | true =>
        go_wp2_with fail
        go_ret
        refine ⟨?_, rfl⟩
        have := HD.out
        simp at this
        rw [this]; rfl
      | false =>
        go_wp2_with fail
        go_roundg m
        case measure => exact Nat.lt_succ_self m
        case rel => exact ⟨i + 1, rfl, by simp, by have := HIK.out; omega, Lib.hid (by have := HD.out; simpa using this)⟩
set_option maxHeartbeats 1000000 in
theorem any_walk (a : Addr) (c : Nat) (l : List V) (xs : List Value) (P : Nat → Prop) (w : World) (hr : Rights l 8) (h : RowIs w P 1 (.slice (some a) l.length c) l.length xs) (hv : GoVs w P l xs) (h60 : l.length ≤ 60) :
    Calls Try.prog 86 #[.slice (some a) l.length c] w fun e w' => e = .returned (.bool (l.any fun v => !emptyB v)) ∧ w' = w := by
  have HE : Hid (∀ i (hi : i < l.length), ∃ b o x, a = ⟨b, o, none⟩ ∧ w.cell? ⟨b, o + i, none⟩ = some x ∧ xs[i]? = some x ∧ Calls Try.prog 99 #[x] w fun e w' => e = .returned (.bool (emptyB l[i])) ∧ w' = w) := Lib.hid fun i hi => by
    obtain ⟨b, o, ha, _, hc⟩ := h.cell1 (by omega)
    obtain ⟨x, hx, hg⟩ := hv.at_ i hi
    exact ⟨b, o, x, ha, hc i x hx, hx, goEmpty_walk _ 8 (hr.at_ i hi) x P w hg⟩
  obtain ⟨n, hn⟩ : ∃ n, n = l.length := ⟨_, rfl⟩
  obtain ⟨z, hz⟩ : ∃ z : Bool, z = l.any fun v => !emptyB v := ⟨_, rfl⟩
  rw [← hn] at h60 ⊢
  rw [← hz]
  have HN := Lib.hid hn
  have HZ := Lib.hid hz
  have HLX := Lib.hid hv.len
  clear h hv hr hn hz
  go_enter Try.func86, Try.ntmps86
  go_wp2_with fail
  go_loopg [4, 7] n (fun kq v4 v7 wr => ∃ (i : Nat), wr = w ∧ v7 = .int .i64 (i : Int) ∧ i + kq = n ∧ Hid (z = (l.drop i).any fun v => !emptyB v))
  case atStart => exact ⟨0, rfl, rfl, by omega, Lib.hid (by rw [HZ.out]; simp)⟩
  case round =>
    obtain ⟨i, rfl, rfl, hik, HP⟩ := hrel
    cases gk with
    | zero =>
      have hi : ¬ i < n := by omega
      have HIK := Lib.hid hik
      clear hik
      go_wp2_with fail
      go_ret
      have hnn := HN.out
      have hii := HIK.out
      refine ⟨?_, rfl⟩
      rw [HP.out, List.drop_of_length_le (by omega)]
      rfl
    | succ m =>
      have hi : i < n := by omega
      obtain ⟨b, o, x, rfl, g0, hx, hcall⟩ := HE.out i (by rw [← HN.out]; exact hi)
      have HX := Lib.hid hx
      have HC := Lib.hid hcall
      have HIK := Lib.hid hik
      clear hx hcall hik
      obtain ⟨bb, hbb⟩ : ∃ bb, bb = emptyB (l[i]'(by rw [← HN.out]; exact hi)) := ⟨_, rfl⟩
      rw [← hbb] at HC
      have HBB := Lib.hid hbb
      clear hbb
      have HD : Hid (z = (!bb || (l.drop (i + 1)).any fun v => !emptyB v)) := Lib.hid (by
        have hil : i < l.length := by rw [← HN.out]; exact hi
        rw [HP.out, List.drop_eq_getElem_cons hil, List.any_cons, ← HBB.out])
      go_wp2_with fail
      refine (HC.out).mono ?_
      rintro e w1 ⟨rfl, hw1⟩
      subst w1
      cases bb with
      | true =>
        go_wp2_with fail
        go_roundg m
        case measure => exact Nat.lt_succ_self m
        case rel => exact ⟨i + 1, rfl, by simp, by have := HIK.out; omega, Lib.hid (by have := HD.out; simpa using this)⟩
      | false =>
        go_wp2_with fail
        go_ret
        refine ⟨?_, rfl⟩
        have := HD.out
        simp at this
        rw [this]; rfl
end Go.Proofs.Ytlkfdjnkkooofaa.Vals
