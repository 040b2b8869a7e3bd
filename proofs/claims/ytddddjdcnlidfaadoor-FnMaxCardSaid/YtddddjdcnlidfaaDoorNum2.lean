/- Walks of sprig's sums, products, greatest and least numbers over lists of boxed integers, and of impl's doors: what they answer. -/
import Derived.Test.YtddddjdcnlidfaaDoorNum
import Derived.Deep.LoopGhost
import Derived.Test.YtddddjdcnlidfaaDoorWMore
namespace Go.Proofs.YtddddjdcnlidfaaDoor.Giv
open Go.RowKit Go.Proofs.YtddddjdcnlidfaaDoorW.PrintWords Go.Proofs.YtddddjdcnlidfaaDoor.Txt
set_option linter.unusedVariables false
set_option maxRecDepth 20000

def boxK : Kd Int := Kd.scalar box (fun _ => rfl)
theorem infoBox : (Tryd.prog.info? 20).map (fun i => (i.zero, i.size, i.bytes)) = some (some .nilIface, 1, 16) := by kernel_rfl
/-- The cells of a row that is read. -/
theorem cells_of {enc : Int → Value} {h1 : ∀ x : Int, (enc x).oneCell' = true} {w : World} {A : Option Addr} {n : Nat} {l : List Int} (h : Kd.C (Kd.scalar enc h1) w A n l) (j : Nat) (hj : j < n) :
    ∃ ad, A = some ad ∧ w.cell? (ad.add j) = some (enc (l.getD j 0)) := by
  obtain ⟨ad, c, e, hs, hk, hc⟩ := Kd.C_get h 0 (j : Int) (by omega) (by omega)
  refine ⟨ad, e, ?_⟩
  have hk' : c = [enc (l.getD j 0)] := hk
  have := hc 0 (enc (l.getD j 0)) (by rw [hk']; rfl)
  have e1 : (Kd.scalar enc h1).sz = 1 := rfl
  rw [Int.toNat_natCast, e1, Nat.mul_one, Nat.add_zero] at this
  exact this
theorem foldl_drop (f : Int → Int → Int) (l : List Int) (i : Nat) (h : i < l.length) (x : Int) : (l.drop i).foldl f x = (l.drop (i + 1)).foldl f (f x (l.getD i 0)) := by
  rw [List.drop_eq_getElem_cons h, List.foldl_cons]
  simp [List.getD, List.getElem?_eq_getElem h]
theorem take_getD (l : List Int) (i : Nat) (h : i < l.length) : l.take (i + 1) = l.take i ++ [l.getD i 0] := by
  rw [List.take_succ_eq_append_getElem h]
  simp [List.getD, List.getElem?_eq_getElem h]

set_option maxHeartbeats 2000000 in
theorem anys_walk (A : Option Addr) (c : Nat) (l : List Int) (w : World) (hr : Kd.C (Kd.int .i64) w A l.length l) (hn : l.length ≤ 1000) :
    Calls Tryd.prog 42 #[.slice A l.length c] w fun e w' => ∃ v, e = .returned v ∧ Kd.R boxK 20 w' w.heap.size (fun _ => True) v l ∧ Below w.heap.size w w' := by
  have HC := Lib.hid hr
  clear hr
  obtain ⟨n, hnn⟩ : ∃ n, n = l.length := ⟨_, rfl⟩
  rw [← hnn] at HC hn ⊢
  have HN := Lib.hid hnn
  clear hnn
  go_enter Tryd.func42, Tryd.ntmps42
  go_wp2_with fail
  go_loopg [3, 5, 8] n (fun kq v3 v5 v8 wr => ∃ (i : Nat), v8 = .int .i64 (i : Int) ∧ i + kq = n ∧ Hid (Kd.R boxK 20 wr w.heap.size (fun _ => True) v3 (l.take i)) ∧ Hid (Below w.heap.size w wr))
  case atStart => exact ⟨0, rfl, by omega, Lib.hid (Kd.R_nil _ _ _ _ _), Lib.hid (Below.refl _ _)⟩
  case round =>
    obtain ⟨i, rfl, hik, H1, HB⟩ := hrel
    cases gk with
    | zero =>
      have hin : i = n := by omega
      subst hin
      go_wp2_with fail
      go_ret
      refine ⟨_, rfl, ?_, HB.out⟩
      have := H1.out
      rw [HN.out, List.take_length] at this
      exact this
    | succ m =>
      have hin : i < n := by omega
      have HIK := Lib.hid hik
      clear hik
      obtain ⟨ad, rfl, hc⟩ := cells_of (Kd.C_below HC.out HB.out) i hin
      obtain ⟨x, hx⟩ : ∃ x, x = l.getD i 0 := ⟨_, rfl⟩
      rw [← hx] at hc
      have HX := Lib.hid hx
      clear hx
      go_wp2_with (first | ((with_reducible refine gate_builtin (b := .append) (xs := #[.tmp 12, .tmp 15]) rfl ?_); at_builtin; refine Kd.R_append boxK (w0 := w) w.heap.size rfl (.tmp 12) (.tmp 15) 58 20 .nilIface 16 rfl Tryd.underlying58 infoBox rfl (by decide) (by omega) _ (l.take i) x [box x] (fun _ => True) (fun _ => False) rfl rfl ?aP (fun _ hk => hk.elim) ?aF ?aO ?aB ?aS ?aL ?_; (case aP => exact rfl); (case aB => exact HB.out); (case aF => exact (fun _ _ => trivial)); (case aO => exact H1.out); (case aS => exact HB.out.size); (case aL => rw [List.length_take]; omega); intro v1 w1 ho hb hg hat; have HO := Lib.hid ho; have HB1 := Lib.hid hb; clear ho hb hg hat))
      go_roundg m
      case measure => exact Nat.lt_succ_self m
      case rel =>
        refine ⟨i + 1, by simp, by (have := HIK.out; omega), Lib.hid ?_, HB1⟩
        rw [take_getD l i (by have := HN.out; omega), ← HX.out]
        exact HO.out

set_option maxHeartbeats 2000000 in
theorem mul_walk (a : Int) (A : Option Addr) (c : Nat) (l : List Int) (w : World) (hr : Kd.C boxK w A l.length l) (hn : l.length ≤ 1000) :
    Calls Tryd.prog 58 #[box a, .slice A l.length c] w fun e w' => e = .returned (.int .i64 (l.foldl (fun x y => wrap64 (x * y)) a)) ∧ Below w.heap.size w w' := by
  have HC := Lib.hid hr
  clear hr
  obtain ⟨n, hnn⟩ : ∃ n, n = l.length := ⟨_, rfl⟩
  rw [← hnn] at HC hn ⊢
  have HN := Lib.hid hnn
  clear hnn
  obtain ⟨R, hR⟩ : ∃ R, R = l.foldl (fun x y => wrap64 (x * y)) a := ⟨_, rfl⟩
  rw [← hR]
  have HRR := Lib.hid hR
  clear hR
  have Ha := Lib.hid (fun w => toInt64_int a w)
  obtain ⟨va, hva⟩ : ∃ v, v = box a := ⟨_, rfl⟩
  rw [← hva] at Ha ⊢
  clear hva
  go_enter Tryd.func58, Tryd.ntmps58
  go_wp2_with fail
  refine (Ha.out _).mono ?_
  rintro e w1 ⟨rfl, ⟨nd0, rfl⟩⟩
  go_wp2_with fail
  go_loopg [5, 7, 12] n (fun kq v5 v7 v12 wr => ∃ (i : Nat) (x : Int), v5 = .int .i64 x ∧ v12 = .int .i64 (i : Int) ∧ i + kq = n ∧ Hid ((l.drop i).foldl (fun x y => wrap64 (x * y)) x = R) ∧ Hid (Below w.heap.size w wr))
  case atStart => exact ⟨0, _, rfl, rfl, by omega, Lib.hid HRR.out.symm, Lib.hid (pw_below_drewN (Below.refl _ _) nd0)⟩
  case round =>
    obtain ⟨i, x, rfl, rfl, hik, H1, HB⟩ := hrel
    cases gk with
    | zero =>
      have hin : i = n := by omega
      subst hin
      have h1 := H1.out
      rw [HN.out, List.drop_length] at h1
      have h2 : x = R := h1
      clear h1
      go_wp2_with fail
      go_ret
      exact ⟨by rw [← h2]; rfl, HB.out⟩
    | succ m =>
      have hin : i < n := by omega
      have HIK := Lib.hid hik
      clear hik
      obtain ⟨ad, rfl, hc⟩ := cells_of (Kd.C_below HC.out HB.out) i hin
      obtain ⟨y, hy⟩ : ∃ y, y = l.getD i 0 := ⟨_, rfl⟩
      rw [← hy] at hc
      have hf := foldl_drop (fun x y => wrap64 (x * y)) l i (by have := HN.out; omega) x
      rw [H1.out, ← hy] at hf
      have HF := Lib.hid hf
      clear hy hf
      have Hy := Lib.hid (fun w => toInt64_int y w)
      obtain ⟨v, hv⟩ : ∃ v, v = box y := ⟨_, rfl⟩
      rw [← hv] at Hy hc
      clear hv
      go_wp2_with fail
      refine (Hy.out _).mono ?_
      rintro e w2 ⟨rfl, ⟨nd, rfl⟩⟩
      go_wp2_with fail
      go_roundg m
      case measure => exact Nat.lt_succ_self m
      case rel => exact ⟨i + 1, _, rfl, by simp, by (have := HIK.out; omega), Lib.hid HF.out.symm, Lib.hid (pw_below_drewN HB.out nd)⟩

set_option maxHeartbeats 2000000 in
theorem add_walk (A : Option Addr) (c : Nat) (l : List Int) (w : World) (hr : Kd.C boxK w A l.length l) (hn : l.length ≤ 1000) :
    Calls Tryd.prog 59 #[.slice A l.length c] w fun e w' => e = .returned (.int .i64 (l.foldl (fun x y => wrap64 (x + y)) 0)) ∧ Below w.heap.size w w' := by
  have HC := Lib.hid hr
  clear hr
  obtain ⟨n, hnn⟩ : ∃ n, n = l.length := ⟨_, rfl⟩
  rw [← hnn] at HC hn ⊢
  have HN := Lib.hid hnn
  clear hnn
  obtain ⟨R, hR⟩ : ∃ R, R = l.foldl (fun x y => wrap64 (x + y)) 0 := ⟨_, rfl⟩
  rw [← hR]
  have HRR := Lib.hid hR
  clear hR
  go_enter Tryd.func59, Tryd.ntmps59
  go_wp2_with fail
  go_loopg [3, 5, 8] n (fun kq v3 v5 v8 wr => ∃ (i : Nat) (x : Int), v3 = .int .i64 x ∧ v8 = .int .i64 (i : Int) ∧ i + kq = n ∧ Hid ((l.drop i).foldl (fun x y => wrap64 (x + y)) x = R) ∧ Hid (Below w.heap.size w wr))
  case atStart => exact ⟨0, _, rfl, rfl, by omega, Lib.hid HRR.out.symm, Lib.hid (Below.refl _ _)⟩
  case round =>
    obtain ⟨i, x, rfl, rfl, hik, H1, HB⟩ := hrel
    cases gk with
    | zero =>
      have hin : i = n := by omega
      subst hin
      have h1 := H1.out
      rw [HN.out, List.drop_length] at h1
      have h2 : x = R := h1
      clear h1
      go_wp2_with fail
      go_ret
      exact ⟨by rw [← h2]; rfl, HB.out⟩
    | succ m =>
      have hin : i < n := by omega
      have HIK := Lib.hid hik
      clear hik
      obtain ⟨ad, rfl, hc⟩ := cells_of (Kd.C_below HC.out HB.out) i hin
      obtain ⟨y, hy⟩ : ∃ y, y = l.getD i 0 := ⟨_, rfl⟩
      rw [← hy] at hc
      have hf := foldl_drop (fun x y => wrap64 (x + y)) l i (by have := HN.out; omega) x
      rw [H1.out, ← hy] at hf
      have HF := Lib.hid hf
      clear hy hf
      have Hy := Lib.hid (fun w => toInt64_int y w)
      obtain ⟨v, hv⟩ : ∃ v, v = box y := ⟨_, rfl⟩
      rw [← hv] at Hy hc
      clear hv
      go_wp2_with fail
      refine (Hy.out _).mono ?_
      rintro e w2 ⟨rfl, ⟨nd, rfl⟩⟩
      go_wp2_with fail
      go_roundg m
      case measure => exact Nat.lt_succ_self m
      case rel => exact ⟨i + 1, _, rfl, by simp, by (have := HIK.out; omega), Lib.hid HF.out.symm, Lib.hid (pw_below_drewN HB.out nd)⟩

set_option maxHeartbeats 2000000 in
theorem max_walk (a : Int) (A : Option Addr) (c : Nat) (l : List Int) (w : World) (hr : Kd.C boxK w A l.length l) (hn : l.length ≤ 1000) :
    Calls Tryd.prog 61 #[box a, .slice A l.length c] w fun e w' => e = .returned (.int .i64 (l.foldl (fun x y => if x < y then y else x) a)) ∧ Below w.heap.size w w' := by
  have HC := Lib.hid hr
  clear hr
  obtain ⟨n, hnn⟩ : ∃ n, n = l.length := ⟨_, rfl⟩
  rw [← hnn] at HC hn ⊢
  have HN := Lib.hid hnn
  clear hnn
  obtain ⟨R, hR⟩ : ∃ R, R = l.foldl (fun x y => if x < y then y else x) a := ⟨_, rfl⟩
  rw [← hR]
  have HRR := Lib.hid hR
  clear hR
  have Ha := Lib.hid (fun w => toInt64_int a w)
  obtain ⟨va, hva⟩ : ∃ v, v = box a := ⟨_, rfl⟩
  rw [← hva] at Ha ⊢
  clear hva
  go_enter Tryd.func61, Tryd.ntmps61
  go_wp2_with fail
  refine (Ha.out _).mono ?_
  rintro e w1 ⟨rfl, ⟨nd0, rfl⟩⟩
  go_wp2_with fail
  go_loopg [5, 7, 8, 13] n (fun kq v5 v7 v8 v13 wr => ∃ (i : Nat) (x : Int), v5 = .int .i64 x ∧ v13 = .int .i64 (i : Int) ∧ i + kq = n ∧ Hid ((l.drop i).foldl (fun x y => if x < y then y else x) x = R) ∧ Hid (Below w.heap.size w wr))
  case atStart => exact ⟨0, _, rfl, rfl, by omega, Lib.hid HRR.out.symm, Lib.hid (pw_below_drewN (Below.refl _ _) nd0)⟩
  case round =>
    obtain ⟨i, x, rfl, rfl, hik, H1, HB⟩ := hrel
    cases gk with
    | zero =>
      have hin : i = n := by omega
      subst hin
      have h1 := H1.out
      rw [HN.out, List.drop_length] at h1
      have h2 : x = R := h1
      clear h1
      go_wp2_with fail
      go_ret
      exact ⟨by rw [← h2]; rfl, HB.out⟩
    | succ m =>
      have hin : i < n := by omega
      have HIK := Lib.hid hik
      clear hik
      obtain ⟨ad, rfl, hc⟩ := cells_of (Kd.C_below HC.out HB.out) i hin
      obtain ⟨y, hy⟩ : ∃ y, y = l.getD i 0 := ⟨_, rfl⟩
      rw [← hy] at hc
      have hf := foldl_drop (fun x y => if x < y then y else x) l i (by have := HN.out; omega) x
      rw [H1.out, ← hy] at hf
      have HF := Lib.hid hf
      clear hy hf
      have Hy := Lib.hid (fun w => toInt64_int y w)
      obtain ⟨v, hv⟩ : ∃ v, v = box y := ⟨_, rfl⟩
      rw [← hv] at Hy hc
      clear hv
      go_wp2_with fail
      refine (Hy.out _).mono ?_
      rintro e w2 ⟨rfl, ⟨nd, rfl⟩⟩
      by_cases hxy : x < y
      · go_wp2_with fail
        go_roundg m
        case measure => exact Nat.lt_succ_self m
        case rel => exact ⟨i + 1, _, rfl, by simp, by (have := HIK.out; omega), Lib.hid (by have := HF.out; rw [if_pos hxy] at this; exact this.symm), Lib.hid (pw_below_drewN HB.out nd)⟩
      · go_wp2_with fail
        go_roundg m
        case measure => exact Nat.lt_succ_self m
        case rel => exact ⟨i + 1, _, rfl, by simp, by (have := HIK.out; omega), Lib.hid (by have := HF.out; rw [if_neg (by omega)] at this; exact this.symm), Lib.hid (pw_below_drewN HB.out nd)⟩

set_option maxHeartbeats 2000000 in
theorem min_walk (a : Int) (A : Option Addr) (c : Nat) (l : List Int) (w : World) (hr : Kd.C boxK w A l.length l) (hn : l.length ≤ 1000) :
    Calls Tryd.prog 62 #[box a, .slice A l.length c] w fun e w' => e = .returned (.int .i64 (l.foldl (fun x y => if y < x then y else x) a)) ∧ Below w.heap.size w w' := by
  have HC := Lib.hid hr
  clear hr
  obtain ⟨n, hnn⟩ : ∃ n, n = l.length := ⟨_, rfl⟩
  rw [← hnn] at HC hn ⊢
  have HN := Lib.hid hnn
  clear hnn
  obtain ⟨R, hR⟩ : ∃ R, R = l.foldl (fun x y => if y < x then y else x) a := ⟨_, rfl⟩
  rw [← hR]
  have HRR := Lib.hid hR
  clear hR
  have Ha := Lib.hid (fun w => toInt64_int a w)
  obtain ⟨va, hva⟩ : ∃ v, v = box a := ⟨_, rfl⟩
  rw [← hva] at Ha ⊢
  clear hva
  go_enter Tryd.func62, Tryd.ntmps62
  go_wp2_with fail
  refine (Ha.out _).mono ?_
  rintro e w1 ⟨rfl, ⟨nd0, rfl⟩⟩
  go_wp2_with fail
  go_loopg [5, 7, 8, 13] n (fun kq v5 v7 v8 v13 wr => ∃ (i : Nat) (x : Int), v5 = .int .i64 x ∧ v13 = .int .i64 (i : Int) ∧ i + kq = n ∧ Hid ((l.drop i).foldl (fun x y => if y < x then y else x) x = R) ∧ Hid (Below w.heap.size w wr))
  case atStart => exact ⟨0, _, rfl, rfl, by omega, Lib.hid HRR.out.symm, Lib.hid (pw_below_drewN (Below.refl _ _) nd0)⟩
  case round =>
    obtain ⟨i, x, rfl, rfl, hik, H1, HB⟩ := hrel
    cases gk with
    | zero =>
      have hin : i = n := by omega
      subst hin
      have h1 := H1.out
      rw [HN.out, List.drop_length] at h1
      have h2 : x = R := h1
      clear h1
      go_wp2_with fail
      go_ret
      exact ⟨by rw [← h2]; rfl, HB.out⟩
    | succ m =>
      have hin : i < n := by omega
      have HIK := Lib.hid hik
      clear hik
      obtain ⟨ad, rfl, hc⟩ := cells_of (Kd.C_below HC.out HB.out) i hin
      obtain ⟨y, hy⟩ : ∃ y, y = l.getD i 0 := ⟨_, rfl⟩
      rw [← hy] at hc
      have hf := foldl_drop (fun x y => if y < x then y else x) l i (by have := HN.out; omega) x
      rw [H1.out, ← hy] at hf
      have HF := Lib.hid hf
      clear hy hf
      have Hy := Lib.hid (fun w => toInt64_int y w)
      obtain ⟨v, hv⟩ : ∃ v, v = box y := ⟨_, rfl⟩
      rw [← hv] at Hy hc
      clear hv
      go_wp2_with fail
      refine (Hy.out _).mono ?_
      rintro e w2 ⟨rfl, ⟨nd, rfl⟩⟩
      by_cases hxy : y < x
      · go_wp2_with fail
        go_roundg m
        case measure => exact Nat.lt_succ_self m
        case rel => exact ⟨i + 1, _, rfl, by simp, by (have := HIK.out; omega), Lib.hid (by have := HF.out; rw [if_pos hxy] at this; exact this.symm), Lib.hid (pw_below_drewN HB.out nd)⟩
      · go_wp2_with fail
        go_roundg m
        case measure => exact Nat.lt_succ_self m
        case rel => exact ⟨i + 1, _, rfl, by simp, by (have := HIK.out; omega), Lib.hid (by have := HF.out; rw [if_neg (by omega)] at this; exact this.symm), Lib.hid (pw_below_drewN HB.out nd)⟩

theorem mul_door (a : Int) (A : Option Addr) (c : Nat) (l : List Int) (w : World) (hr : Kd.C boxK w A l.length l) (hn : l.length ≤ 1000) :
    Calls Tryd.prog 41 #[box a, .slice A l.length c] w fun e w' => e = .returned (.int .i64 (l.foldl (fun x y => wrap64 (x * y)) a)) ∧ Below w.heap.size w w' := by
  have Hm := Lib.hid (mul_walk a A c l w hr hn)
  obtain ⟨R, hR⟩ : ∃ R, R = l.foldl (fun x y => wrap64 (x * y)) a := ⟨_, rfl⟩
  rw [← hR] at Hm ⊢
  clear hR hr
  obtain ⟨va, hva⟩ : ∃ v, v = box a := ⟨_, rfl⟩
  rw [← hva] at Hm ⊢
  clear hva
  go_enter Tryd.func41, Tryd.ntmps41
  go_wp2_with fail
  refine Hm.out.mono ?_
  rintro e w' ⟨rfl, hb⟩
  have HB := Lib.hid hb
  clear hb
  go_wp2_with fail
  go_ret
  exact ⟨rfl, HB.out⟩

theorem add_door (A : Option Addr) (c : Nat) (l : List Int) (w : World) (hr : Kd.C boxK w A l.length l) (hn : l.length ≤ 1000) :
    Calls Tryd.prog 43 #[.slice A l.length c] w fun e w' => e = .returned (.int .i64 (l.foldl (fun x y => wrap64 (x + y)) 0)) ∧ Below w.heap.size w w' := by
  have Hm := Lib.hid (add_walk A c l w hr hn)
  obtain ⟨R, hR⟩ : ∃ R, R = l.foldl (fun x y => wrap64 (x + y)) 0 := ⟨_, rfl⟩
  rw [← hR] at Hm ⊢
  clear hR hr
  go_enter Tryd.func43, Tryd.ntmps43
  go_wp2_with fail
  refine Hm.out.mono ?_
  rintro e w' ⟨rfl, hb⟩
  have HB := Lib.hid hb
  clear hb
  go_wp2_with fail
  go_ret
  exact ⟨rfl, HB.out⟩

theorem max_door (a : Int) (A : Option Addr) (c : Nat) (l : List Int) (w : World) (hr : Kd.C boxK w A l.length l) (hn : l.length ≤ 1000) :
    Calls Tryd.prog 45 #[box a, .slice A l.length c] w fun e w' => e = .returned (.int .i64 (l.foldl (fun x y => if x < y then y else x) a)) ∧ Below w.heap.size w w' := by
  have Hm := Lib.hid (max_walk a A c l w hr hn)
  obtain ⟨R, hR⟩ : ∃ R, R = l.foldl (fun x y => if x < y then y else x) a := ⟨_, rfl⟩
  rw [← hR] at Hm ⊢
  clear hR hr
  obtain ⟨va, hva⟩ : ∃ v, v = box a := ⟨_, rfl⟩
  rw [← hva] at Hm ⊢
  clear hva
  go_enter Tryd.func45, Tryd.ntmps45
  go_wp2_with fail
  refine Hm.out.mono ?_
  rintro e w' ⟨rfl, hb⟩
  have HB := Lib.hid hb
  clear hb
  go_wp2_with fail
  go_ret
  exact ⟨rfl, HB.out⟩

theorem min_door (a : Int) (A : Option Addr) (c : Nat) (l : List Int) (w : World) (hr : Kd.C boxK w A l.length l) (hn : l.length ≤ 1000) :
    Calls Tryd.prog 46 #[box a, .slice A l.length c] w fun e w' => e = .returned (.int .i64 (l.foldl (fun x y => if y < x then y else x) a)) ∧ Below w.heap.size w w' := by
  have Hm := Lib.hid (min_walk a A c l w hr hn)
  obtain ⟨R, hR⟩ : ∃ R, R = l.foldl (fun x y => if y < x then y else x) a := ⟨_, rfl⟩
  rw [← hR] at Hm ⊢
  clear hR hr
  obtain ⟨va, hva⟩ : ∃ v, v = box a := ⟨_, rfl⟩
  rw [← hva] at Hm ⊢
  clear hva
  go_enter Tryd.func46, Tryd.ntmps46
  go_wp2_with fail
  refine Hm.out.mono ?_
  rintro e w' ⟨rfl, hb⟩
  have HB := Lib.hid hb
  clear hb
  go_wp2_with fail
  go_ret
  exact ⟨rfl, HB.out⟩

theorem Mul_impl (a : Int) (A : Option Addr) (c : Nat) (l : List Int) (w : World) (hr : Kd.C (Kd.int .i64) w A l.length l) (hn : l.length ≤ 1000) :
    Calls Tryd.prog 21 #[.int .i64 a, .slice A l.length c] w fun e w' => e = .returned (.int .i64 (l.foldl (fun x y => wrap64 (x * y)) a)) ∧ Below w.heap.size w w' := by
  have Ha := Lib.hid (anys_walk A c l w hr hn)
  have HN := Lib.hid hn
  clear hr hn
  go_enter Tryd.func21, Tryd.ntmps21
  go_wp2_with fail
  refine Ha.out.mono ?_
  rintro e w1 ⟨v, rfl, hR, hb⟩
  obtain ⟨A1, c1, rfl, hl1, hC⟩ := Kd.R_reads hR
  have Hm := Lib.hid (mul_door a A1 c1 l w1 hC HN.out)
  have HB := Lib.hid hb
  clear hR hC hb
  obtain ⟨R, hRR⟩ : ∃ R, R = l.foldl (fun x y => wrap64 (x * y)) a := ⟨_, rfl⟩
  rw [← hRR] at Hm
  have HRR := Lib.hid hRR
  clear hRR
  go_wp2_with fail
  refine Hm.out.mono ?_
  rintro e w2 ⟨rfl, hb2⟩
  have HB2 := Lib.hid hb2
  clear hb2
  go_wp2_with fail
  go_ret
  exact ⟨by rw [← HRR.out]; rfl, HB.out.trans (HB2.out.mono HB.out.size)⟩
def impl_Mul.f (a0 : Int) (l1 : List Int) : Option (Int) := if l1.length ≤ 1000 then some (l1.foldl (fun x y => wrap64 (x * y)) a0) else none
theorem impl_Mul.calls (a0 : Int) (A1 : Option Addr) (c1 : Nat) (l1 : List Int) (r : Int) (w : World) (hr1 : Kd.C (Kd.int .i64) w A1 l1.length l1) (hc1 : l1.length ≤ c1) (h : impl_Mul.f a0 l1 = some r) :
    Calls Tryd.prog 21 #[.int .i64 a0, .slice A1 l1.length c1] w fun e w' => e = .returned (.int .i64 r) ∧ Below w.heap.size w w' := by
  unfold impl_Mul.f at h
  split at h
  · obtain rfl := Option.some.inj h
    exact Mul_impl a0 A1 c1 l1 w hr1 (by assumption)
  · exact absurd h (by simp)

theorem Add_impl (A : Option Addr) (c : Nat) (l : List Int) (w : World) (hr : Kd.C (Kd.int .i64) w A l.length l) (hn : l.length ≤ 1000) :
    Calls Tryd.prog 23 #[.slice A l.length c] w fun e w' => e = .returned (.int .i64 (l.foldl (fun x y => wrap64 (x + y)) 0)) ∧ Below w.heap.size w w' := by
  have Ha := Lib.hid (anys_walk A c l w hr hn)
  have HN := Lib.hid hn
  clear hr hn
  go_enter Tryd.func23, Tryd.ntmps23
  go_wp2_with fail
  refine Ha.out.mono ?_
  rintro e w1 ⟨v, rfl, hR, hb⟩
  obtain ⟨A1, c1, rfl, hl1, hC⟩ := Kd.R_reads hR
  have Hm := Lib.hid (add_door A1 c1 l w1 hC HN.out)
  have HB := Lib.hid hb
  clear hR hC hb
  obtain ⟨R, hRR⟩ : ∃ R, R = l.foldl (fun x y => wrap64 (x + y)) 0 := ⟨_, rfl⟩
  rw [← hRR] at Hm
  have HRR := Lib.hid hRR
  clear hRR
  go_wp2_with fail
  refine Hm.out.mono ?_
  rintro e w2 ⟨rfl, hb2⟩
  have HB2 := Lib.hid hb2
  clear hb2
  go_wp2_with fail
  go_ret
  exact ⟨by rw [← HRR.out]; rfl, HB.out.trans (HB2.out.mono HB.out.size)⟩
def impl_Add.f (l0 : List Int) : Option (Int) := if l0.length ≤ 1000 then some (l0.foldl (fun x y => wrap64 (x + y)) 0) else none
theorem impl_Add.calls (A0 : Option Addr) (c0 : Nat) (l0 : List Int) (r : Int) (w : World) (hr0 : Kd.C (Kd.int .i64) w A0 l0.length l0) (hc0 : l0.length ≤ c0) (h : impl_Add.f l0 = some r) :
    Calls Tryd.prog 23 #[.slice A0 l0.length c0] w fun e w' => e = .returned (.int .i64 r) ∧ Below w.heap.size w w' := by
  unfold impl_Add.f at h
  split at h
  · obtain rfl := Option.some.inj h
    exact Add_impl A0 c0 l0 w hr0 (by assumption)
  · exact absurd h (by simp)

theorem Max_impl (a : Int) (A : Option Addr) (c : Nat) (l : List Int) (w : World) (hr : Kd.C (Kd.int .i64) w A l.length l) (hn : l.length ≤ 1000) :
    Calls Tryd.prog 26 #[.int .i64 a, .slice A l.length c] w fun e w' => e = .returned (.int .i64 (l.foldl (fun x y => if x < y then y else x) a)) ∧ Below w.heap.size w w' := by
  have Ha := Lib.hid (anys_walk A c l w hr hn)
  have HN := Lib.hid hn
  clear hr hn
  go_enter Tryd.func26, Tryd.ntmps26
  go_wp2_with fail
  refine Ha.out.mono ?_
  rintro e w1 ⟨v, rfl, hR, hb⟩
  obtain ⟨A1, c1, rfl, hl1, hC⟩ := Kd.R_reads hR
  have Hm := Lib.hid (max_door a A1 c1 l w1 hC HN.out)
  have HB := Lib.hid hb
  clear hR hC hb
  obtain ⟨R, hRR⟩ : ∃ R, R = l.foldl (fun x y => if x < y then y else x) a := ⟨_, rfl⟩
  rw [← hRR] at Hm
  have HRR := Lib.hid hRR
  clear hRR
  go_wp2_with fail
  refine Hm.out.mono ?_
  rintro e w2 ⟨rfl, hb2⟩
  have HB2 := Lib.hid hb2
  clear hb2
  go_wp2_with fail
  go_ret
  exact ⟨by rw [← HRR.out]; rfl, HB.out.trans (HB2.out.mono HB.out.size)⟩
def impl_Max.f (a0 : Int) (l1 : List Int) : Option (Int) := if l1.length ≤ 1000 then some (l1.foldl (fun x y => if x < y then y else x) a0) else none
theorem impl_Max.calls (a0 : Int) (A1 : Option Addr) (c1 : Nat) (l1 : List Int) (r : Int) (w : World) (hr1 : Kd.C (Kd.int .i64) w A1 l1.length l1) (hc1 : l1.length ≤ c1) (h : impl_Max.f a0 l1 = some r) :
    Calls Tryd.prog 26 #[.int .i64 a0, .slice A1 l1.length c1] w fun e w' => e = .returned (.int .i64 r) ∧ Below w.heap.size w w' := by
  unfold impl_Max.f at h
  split at h
  · obtain rfl := Option.some.inj h
    exact Max_impl a0 A1 c1 l1 w hr1 (by assumption)
  · exact absurd h (by simp)

theorem Biggest_impl (a : Int) (A : Option Addr) (c : Nat) (l : List Int) (w : World) (hr : Kd.C (Kd.int .i64) w A l.length l) (hn : l.length ≤ 1000) :
    Calls Tryd.prog 28 #[.int .i64 a, .slice A l.length c] w fun e w' => e = .returned (.int .i64 (l.foldl (fun x y => if x < y then y else x) a)) ∧ Below w.heap.size w w' := by
  have Ha := Lib.hid (anys_walk A c l w hr hn)
  have HN := Lib.hid hn
  clear hr hn
  go_enter Tryd.func28, Tryd.ntmps28
  go_wp2_with fail
  refine Ha.out.mono ?_
  rintro e w1 ⟨v, rfl, hR, hb⟩
  obtain ⟨A1, c1, rfl, hl1, hC⟩ := Kd.R_reads hR
  have Hm := Lib.hid (max_door a A1 c1 l w1 hC HN.out)
  have HB := Lib.hid hb
  clear hR hC hb
  obtain ⟨R, hRR⟩ : ∃ R, R = l.foldl (fun x y => if x < y then y else x) a := ⟨_, rfl⟩
  rw [← hRR] at Hm
  have HRR := Lib.hid hRR
  clear hRR
  go_wp2_with fail
  refine Hm.out.mono ?_
  rintro e w2 ⟨rfl, hb2⟩
  have HB2 := Lib.hid hb2
  clear hb2
  go_wp2_with fail
  go_ret
  exact ⟨by rw [← HRR.out]; rfl, HB.out.trans (HB2.out.mono HB.out.size)⟩
def impl_Biggest.f (a0 : Int) (l1 : List Int) : Option (Int) := if l1.length ≤ 1000 then some (l1.foldl (fun x y => if x < y then y else x) a0) else none
theorem impl_Biggest.calls (a0 : Int) (A1 : Option Addr) (c1 : Nat) (l1 : List Int) (r : Int) (w : World) (hr1 : Kd.C (Kd.int .i64) w A1 l1.length l1) (hc1 : l1.length ≤ c1) (h : impl_Biggest.f a0 l1 = some r) :
    Calls Tryd.prog 28 #[.int .i64 a0, .slice A1 l1.length c1] w fun e w' => e = .returned (.int .i64 r) ∧ Below w.heap.size w w' := by
  unfold impl_Biggest.f at h
  split at h
  · obtain rfl := Option.some.inj h
    exact Biggest_impl a0 A1 c1 l1 w hr1 (by assumption)
  · exact absurd h (by simp)

theorem Min_impl (a : Int) (A : Option Addr) (c : Nat) (l : List Int) (w : World) (hr : Kd.C (Kd.int .i64) w A l.length l) (hn : l.length ≤ 1000) :
    Calls Tryd.prog 29 #[.int .i64 a, .slice A l.length c] w fun e w' => e = .returned (.int .i64 (l.foldl (fun x y => if y < x then y else x) a)) ∧ Below w.heap.size w w' := by
  have Ha := Lib.hid (anys_walk A c l w hr hn)
  have HN := Lib.hid hn
  clear hr hn
  go_enter Tryd.func29, Tryd.ntmps29
  go_wp2_with fail
  refine Ha.out.mono ?_
  rintro e w1 ⟨v, rfl, hR, hb⟩
  obtain ⟨A1, c1, rfl, hl1, hC⟩ := Kd.R_reads hR
  have Hm := Lib.hid (min_door a A1 c1 l w1 hC HN.out)
  have HB := Lib.hid hb
  clear hR hC hb
  obtain ⟨R, hRR⟩ : ∃ R, R = l.foldl (fun x y => if y < x then y else x) a := ⟨_, rfl⟩
  rw [← hRR] at Hm
  have HRR := Lib.hid hRR
  clear hRR
  go_wp2_with fail
  refine Hm.out.mono ?_
  rintro e w2 ⟨rfl, hb2⟩
  have HB2 := Lib.hid hb2
  clear hb2
  go_wp2_with fail
  go_ret
  exact ⟨by rw [← HRR.out]; rfl, HB.out.trans (HB2.out.mono HB.out.size)⟩
def impl_Min.f (a0 : Int) (l1 : List Int) : Option (Int) := if l1.length ≤ 1000 then some (l1.foldl (fun x y => if y < x then y else x) a0) else none
theorem impl_Min.calls (a0 : Int) (A1 : Option Addr) (c1 : Nat) (l1 : List Int) (r : Int) (w : World) (hr1 : Kd.C (Kd.int .i64) w A1 l1.length l1) (hc1 : l1.length ≤ c1) (h : impl_Min.f a0 l1 = some r) :
    Calls Tryd.prog 29 #[.int .i64 a0, .slice A1 l1.length c1] w fun e w' => e = .returned (.int .i64 r) ∧ Below w.heap.size w w' := by
  unfold impl_Min.f at h
  split at h
  · obtain rfl := Option.some.inj h
    exact Min_impl a0 A1 c1 l1 w hr1 (by assumption)
  · exact absurd h (by simp)

theorem add1_walk (n : Int) (w : World) :
    Calls Tryd.prog 60 #[box n] w fun e w' => e = .returned (.int .i64 (wrap64 (n + 1))) ∧ Drawn0 w w' := by
  have Hc := Lib.hid (fun w => toInt64_int n w)
  obtain ⟨v, hv⟩ : ∃ v, v = box n := ⟨_, rfl⟩
  rw [← hv] at Hc ⊢
  clear hv
  go_enter Tryd.func60, Tryd.ntmps60
  go_wp2_with fail
  refine (Hc.out _).mono ?_
  rintro e w' ⟨rfl, ⟨nd, rfl⟩⟩
  go_wp2_with fail
  go_ret
  exact ⟨rfl, by repeat (first | exact Drawn0.refl _ | apply Drawn0.step)⟩
theorem add1_door (n : Int) (w : World) :
    Calls Tryd.prog 44 #[box n] w fun e w' => e = .returned (.int .i64 (wrap64 (n + 1))) ∧ Drawn0 w w' := by
  have Hc := Lib.hid (fun w => add1_walk n w)
  obtain ⟨v, hv⟩ : ∃ v, v = box n := ⟨_, rfl⟩
  rw [← hv] at Hc ⊢
  clear hv
  go_enter Tryd.func44, Tryd.ntmps44
  go_wp2_with fail
  refine (Hc.out _).mono ?_
  rintro e w' ⟨rfl, ⟨nd, rfl⟩⟩
  go_wp2_with fail
  go_ret
  exact ⟨rfl, by repeat (first | exact Drawn0.refl _ | apply Drawn0.step)⟩
def impl_Add1.f (a0 : Int) : Option (Int) := some (wrap64 (a0 + 1))
theorem impl_Add1.calls (a0 : Int) (r : Int) (w : World) (h : impl_Add1.f a0 = some r) :
    Calls Tryd.prog 25 #[.int .i64 a0] w fun e w' => e = .returned (.int .i64 r) ∧ Drawn0 w w' := by
  obtain rfl := Option.some.inj h
  have Hc := Lib.hid (fun w => add1_door a0 w)
  go_enter Tryd.func25, Tryd.ntmps25
  go_wp2_with fail
  refine (Hc.out _).mono ?_
  rintro e w' ⟨rfl, ⟨nd, rfl⟩⟩
  go_wp2_with fail
  go_ret
  exact ⟨rfl, by repeat (first | exact Drawn0.refl _ | apply Drawn0.step)⟩

end Go.Proofs.YtddddjdcnlidfaaDoor.Giv
