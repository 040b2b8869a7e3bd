/- Walks of sprig's first, last, rest, initial at a list. -/
import Derived.Test.YtlkfdjnkkooofaaValN
import Derived.Deep.OwnRows
namespace Go.Proofs.Ytlkfdjnkkooofaa.Vals
open Go.RowKit Go.Proofs.YtlkfdjnkkooofaaW.PrintWords
set_option linter.unusedVariables false
set_option maxRecDepth 20000

theorem zzList_walk (a : Addr) (n c : Nat) (w : World) : Calls Try.prog 94 #[.iface 64 (.slice (some a) n c)] w fun e w' => e = .returned (.tuple #[.slice (some a) n c, .bool true]) ∧ w' = w := by
  have ta5 : ∀ w, (Instr.typeAssert (.iface 64 (.slice (some a) n c)) 20 64 true).run Try.prog w = .ok (.tuple #[.slice (some a) n c, .bool true]) w := fun w => by kernel_rfl
  go_enter Try.func94, Try.ntmps94
  go_wp2_with fail
  go_ret2
  exact ⟨rfl, rfl⟩
theorem RowIs.cell1 {w : World} {P : Nat → Prop} {a : Addr} {n c : Nat} {xs : List Value} (h : RowIs w P 1 (.slice (some a) n c) n xs) (hn : 0 < n) : ∃ b o, a = ⟨b, o, none⟩ ∧ b < w.heap.size ∧ ∀ j u, xs[j]? = some u → w.cell? ⟨b, o + j, none⟩ = some u := by
  obtain ⟨A, c', _, _, _, hx, _⟩ := id h
  obtain ⟨b, o, hA, _, hc⟩ := h.elem hn
  injection hA with hA
  obtain ⟨u, hu⟩ : ∃ u, xs[0]? = some u := ⟨xs[0], List.getElem?_eq_getElem (by omega)⟩
  exact ⟨b, o, hA, World.block_lt_of_cell? w _ (hc 0 u hu), hc⟩
theorem GoVs.drop {w : World} {P : Nat → Prop} : ∀ (k : Nat) {l : List V} {xs : List Value}, GoVs w P l xs → GoVs w P (l.drop k) (xs.drop k)
  | 0, l, xs, h => by simpa using h
  | k + 1, [], xs, h => by unfold GoVs at h; subst h; simp; unfold GoVs; rfl
  | k + 1, v :: l, xs, h => by
    unfold GoVs at h
    obtain ⟨x, xr, rfl, _, h⟩ := h
    exact GoVs.drop k h
theorem GoVs.take {w : World} {P : Nat → Prop} : ∀ (k : Nat) {l : List V} {xs : List Value}, GoVs w P l xs → GoVs w P (l.take k) (xs.take k)
  | 0, l, xs, h => by simp; unfold GoVs; rfl
  | k + 1, [], xs, h => by unfold GoVs at h; subst h; simp; unfold GoVs; rfl
  | k + 1, v :: l, xs, h => by
    unfold GoVs at h
    obtain ⟨x, xr, rfl, h1, h⟩ := h
    simp only [List.take_succ_cons]
    unfold GoVs
    exact ⟨x, _, rfl, h1, GoVs.take k h⟩
/-- A value of an interface's type. -/
def Face (x : Value) : Prop := x = .nilIface ∨ ∃ t y, x = .iface t y
theorem GoV.face {w : World} {P : Nat → Prop} {v : V} {x : Value} (h : GoV w P v x) : Face x := by
  cases v; unfold GoV at h
  rcases h with ⟨_, rfl⟩ | ⟨_, rfl⟩ | ⟨_, rfl⟩ | ⟨_, rfl⟩ | ⟨_, rfl⟩ | ⟨_, rfl⟩ | ⟨_, a, c, xs, rfl, _⟩ | ⟨_, b, es, clk, xs, rfl, _⟩
  · exact .inl rfl
  all_goals exact .inr ⟨_, _, rfl⟩
theorem GoVs.face {w : World} {P : Nat → Prop} : ∀ {l : List V} {xs : List Value}, GoVs w P l xs → ∀ x ∈ xs, Face x
  | [], xs, h => by unfold GoVs at h; subst h; intro x hx; cases hx
  | v :: l, xs, h => by
    unfold GoVs at h
    obtain ⟨y, r, rfl, h1, h2⟩ := h
    intro x hx
    rcases List.mem_cons.1 hx with rfl | hx
    · exact h1.face
    · exact h2.face x hx
theorem faceInfo : (Try.prog.info? 20).map (fun i => (i.zero, i.size, i.bytes)) = some (some .nilIface, 1, 16) := by kernel_rfl
theorem take_set {arr : Array Value} {ys : List Value} {i : Nat} {v : Value} (h : arr.toList.take i = ys.take i) (hi : i < arr.size) (hv : ys[i]? = some v) : (arr.set! i v).toList.take (i + 1) = ys.take (i + 1) := by
  have hy : i < ys.length := by rw [List.getElem?_eq_some_iff] at hv; exact hv.1
  apply List.ext_getElem?
  intro j
  rcases Nat.lt_trichotomy j i with hj | rfl | hj
  · have h1 := congrArg (fun l => l[j]?) h
    simp only [List.getElem?_take_of_lt hj] at h1
    rw [List.getElem?_take_of_lt (by omega), List.getElem?_take_of_lt (by omega), ← h1]
    simp [Array.set!, Array.setIfInBounds, hi, show ¬ i = j by omega]
  · rw [List.getElem?_take_of_lt (by omega), List.getElem?_take_of_lt (by omega), hv]
    simp [Array.set!, Array.setIfInBounds, hi]
  · rw [List.getElem?_take_eq_none (by omega), List.getElem?_take_eq_none (by omega)]

theorem mustFirst_walk (a : Addr) (n c : Nat) (xs : List Value) (P : Nat → Prop) (w : World) (h : RowIs w P 1 (.slice (some a) n c) n xs) (h3 : n ≤ 100000) :
    Calls Try.prog 88 #[.iface 64 (.slice (some a) n c)] w fun e w' => e = .returned (.tuple #[xs.headD .nilIface, .nilIface]) ∧ w' = w := by
  have hxl : xs.length = n := by obtain ⟨A, c', _, _, _, hx, _⟩ := id h; omega
  have hz := zzList_walk a n c
  by_cases h0 : n = 0
  · subst h0
    obtain rfl : xs = [] := List.eq_nil_of_length_eq_zero hxl
    clear h hxl
    go_enter Try.func88, Try.ntmps88
    go_wp2_with (go_at_call 94; refine (hz _).mono ?_; rintro e w' ⟨rfl, hw'⟩; subst w')
    go_ret2
    exact ⟨rfl, rfl⟩
  · obtain ⟨b, o, rfl, _, hc⟩ := h.cell1 (by omega)
    obtain ⟨m, rfl⟩ : ∃ m, n = m + 1 := ⟨n - 1, by omega⟩
    obtain ⟨u, hu⟩ : ∃ u, xs[0]? = some u := ⟨xs[0], List.getElem?_eq_getElem (by omega)⟩
    have hcu := hc 0 u hu
    have hm1 : (0 : Int) < (m : Int) + 1 := by omega
    have hm2 : (0 : Int) ≤ (m : Int) := by omega
    have hm3 : (m : Int) < (m : Int) + 1 := by omega
    have hm4 : ¬ ((m : Int) + 1 = 0) := by omega
    rw [Nat.add_zero] at hcu
    have hres : xs.headD .nilIface = u := by cases xs with | nil => simp at hu | cons y r => simpa using hu
    rw [hres]
    clear h hxl hc hu hres h0
    go_enter Try.func88, Try.ntmps88
    go_wp2_with (go_at_call 94; refine (hz _).mono ?_; rintro e w' ⟨rfl, hw'⟩; subst w')
    go_ret2
    exact ⟨rfl, rfl⟩
theorem sprigFirst_walk (a : Addr) (n c : Nat) (xs : List Value) (P : Nat → Prop) (w : World) (h : RowIs w P 1 (.slice (some a) n c) n xs) (h3 : n ≤ 100000) :
    Calls Try.prog 69 #[.iface 64 (.slice (some a) n c)] w fun e w' => e = .returned (.tuple #[xs.headD .nilIface, .nilIface]) ∧ w' = w := by
  have hm := mustFirst_walk a n c xs P w h h3
  obtain ⟨u, hu⟩ : ∃ u, u = xs.headD .nilIface := ⟨_, rfl⟩
  rw [← hu] at hm ⊢
  clear h hu
  go_enter Try.func69, Try.ntmps69
  go_wp2_with (go_at_call 88; refine hm.mono ?_; rintro e w' ⟨rfl, hw'⟩; subst w')
  go_ret2
  exact ⟨rfl, rfl⟩

theorem mustLast_walk (a : Addr) (n c : Nat) (xs : List Value) (P : Nat → Prop) (w : World) (h : RowIs w P 1 (.slice (some a) n c) n xs) (h3 : n ≤ 100000) :
    Calls Try.prog 89 #[.iface 64 (.slice (some a) n c)] w fun e w' => e = .returned (.tuple #[xs.getLastD .nilIface, .nilIface]) ∧ w' = w := by
  have hxl : xs.length = n := by obtain ⟨A, c', _, _, _, hx, _⟩ := id h; omega
  have hz := zzList_walk a n c
  by_cases h0 : n = 0
  · subst h0
    obtain rfl : xs = [] := List.eq_nil_of_length_eq_zero hxl
    clear h hxl
    go_enter Try.func89, Try.ntmps89
    go_wp2_with (go_at_call 94; refine (hz _).mono ?_; rintro e w' ⟨rfl, hw'⟩; subst w')
    go_ret2
    exact ⟨rfl, rfl⟩
  · obtain ⟨b, o, rfl, _, hc⟩ := h.cell1 (by omega)
    obtain ⟨m, rfl⟩ : ∃ m, n = m + 1 := ⟨n - 1, by omega⟩
    obtain ⟨u, hu⟩ : ∃ u, xs[m]? = some u := ⟨xs[m], List.getElem?_eq_getElem (by omega)⟩
    have hcu := hc m u hu
    have hm1 : (0 : Int) < (m : Int) + 1 := by omega
    have hm2 : (0 : Int) ≤ (m : Int) := by omega
    have hm3 : (m : Int) < (m : Int) + 1 := by omega
    have hm4 : ¬ ((m : Int) + 1 = 0) := by omega
    have hres : xs.getLastD .nilIface = u := by rw [List.getLastD_eq_getLast?, List.getLast?_eq_getElem?, hxl]; simpa using congrArg (fun o => o.getD .nilIface) hu
    rw [hres]
    clear h hxl hc hu hres h0
    go_enter Try.func89, Try.ntmps89
    go_wp2_with (go_at_call 94; refine (hz _).mono ?_; rintro e w' ⟨rfl, hw'⟩; subst w')
    go_ret2
    exact ⟨rfl, rfl⟩
theorem sprigLast_walk (a : Addr) (n c : Nat) (xs : List Value) (P : Nat → Prop) (w : World) (h : RowIs w P 1 (.slice (some a) n c) n xs) (h3 : n ≤ 100000) :
    Calls Try.prog 70 #[.iface 64 (.slice (some a) n c)] w fun e w' => e = .returned (.tuple #[xs.getLastD .nilIface, .nilIface]) ∧ w' = w := by
  have hm := mustLast_walk a n c xs P w h h3
  obtain ⟨u, hu⟩ : ∃ u, u = xs.getLastD .nilIface := ⟨_, rfl⟩
  rw [← hu] at hm ⊢
  clear h hu
  go_enter Try.func70, Try.ntmps70
  go_wp2_with (go_at_call 89; refine hm.mono ?_; rintro e w' ⟨rfl, hw'⟩; subst w')
  go_ret2
  exact ⟨rfl, rfl⟩

def RestRes (n : Nat) (xs : List Value) (w : World) (e : Ending) (w' : World) : Prop := ∃ A c, e = .returned (.tuple #[.slice A (n - 1) c, .nilIface]) ∧ Hid (RowIs w' (fun b => w.heap.size ≤ b) 1 (.slice A (n - 1) c) (n - 1) (xs.drop 1)) ∧ Hid (Below w.heap.size w w')
set_option maxHeartbeats 4000000 in
theorem mustRest_walk (a : Addr) (n c : Nat) (xs : List Value) (P : Nat → Prop) (w : World) (h : RowIs w P 1 (.slice (some a) n c) n xs) (h3 : n ≤ 100000) (h1 : ∀ x ∈ xs, Face x) :
    Calls Try.prog 90 #[.iface 64 (.slice (some a) n c)] w (RestRes n xs w) := by
  have hxl : xs.length = n := by obtain ⟨A, c', _, _, _, hx, _⟩ := id h; omega
  have hz := zzList_walk a n c
  have hnc := h.sizes
  by_cases h0 : n = 0
  · subst h0
    obtain rfl : xs = [] := List.eq_nil_of_length_eq_zero hxl
    clear h hxl hnc
    go_enter Try.func90, Try.ntmps90
    go_wp2_with (go_at_call 94; refine (hz _).mono ?_; rintro e w' ⟨rfl, hw'⟩; subst w')
    go_ret2
    exact ⟨none, 0, rfl, Lib.hid ⟨none, 0, rfl, by simp, by unfold maxLen; omega, by simp, fun h => absurd h (by simp)⟩, Lib.hid (Below.refl _ _)⟩
  · obtain ⟨b, o, rfl, hbs, hc⟩ := h.cell1 (by omega)
    obtain ⟨m, rfl⟩ : ∃ m, n = m + 1 := ⟨n - 1, by omega⟩
    obtain ⟨ys, hys⟩ : ∃ ys, ys = xs.drop 1 := ⟨_, rfl⟩
    have hyl : ys.length = m := by rw [hys]; simp; omega
    have hcy : ∀ i u, ys[i]? = some u → w.cell? ⟨b, o + (i + 1), none⟩ = some u := fun i u hu => hc _ u (by rw [hys, List.getElem?_drop] at hu; rw [Nat.add_comm]; exact hu)
    obtain ⟨j0, hj0, jz0, jz1, jz2⟩ := info_parts faceInfo
    have hmk := fun W => run_make_row (P := Try.prog) 64 20 j0 .nilIface Try.underlying64 hj0 jz0 jz1 rfl .i64 .i64 m (by rw [jz2]; omega) (by omega) W
    have HYL := Lib.hid hyl
    have HONE : Hid (∀ x ∈ ys, Face x) := Lib.hid (fun x hx => h1 x (by rw [hys] at hx; exact List.mem_of_mem_drop hx))
    have HYS := Lib.hid hys
    have HCY := Lib.hid hcy
    have HBS := Lib.hid hbs
    clear h hxl hc h0 h1 hyl hys hcy hbs hj0 jz0 jz1 jz2 hnc
    have hm1 : (0 : Int) ≤ (m : Int) := by omega
    have hm4 : ¬ ((m : Int) + 1 = 0) := by omega
    go_enter Try.func90, Try.ntmps90
    go_wp2_with (go_at_call 94; refine (hz _).mono ?_; rintro e w' ⟨rfl, hw'⟩; subst w')
    go_loopg [8] m (fun kq v8 wr => ∃ (i : Nat) (arr : Array Value), v8 = .int .i64 ((i : Int) + 1) ∧ i + kq = m ∧ Hid (wr.heap[w.heap.size]? = some (.cells arr 20 (0, 0)) ∧ arr.size = m ∧ arr.toList.take i = ys.take i) ∧ Hid (Below w.heap.size w wr))
    case atStart => exact ⟨0, madeCells #[.nilIface] m, rfl, by omega, Lib.hid ⟨heap_alloc_new w _, size_madeCells _ _, by simp⟩, Lib.hid ((Below.refl _ _).alloc (Nat.le_refl _) _)⟩
    case round =>
      obtain ⟨i, arr, rfl, hik, HA, HB⟩ := hrel
      cases gk with
      | zero =>
        have hi : ¬ i < m := by omega
        have HIN := Lib.hid hik
        clear hik
        go_wp2_with fail
        go_ret2
        obtain ⟨q1, q2, q3⟩ := HA.out
        have hin : i = m := by have := HIN.out; omega
        rw [hin, List.take_of_length_le (by simp; omega), List.take_of_length_le (by rw [HYL.out]; exact Nat.le_refl _)] at q3
        refine ⟨some ⟨w.heap.size, 0, none⟩, m, by simp, Lib.hid ⟨_, m, rfl, by simp, by unfold maxLen; omega, by rw [← HYS.out, HYL.out]; simp, fun _ => ⟨w.heap.size, 0, rfl, Nat.le_refl _, fun j u hu => ?_⟩⟩, HB⟩
        rw [← HYS.out, ← q3] at hu
        rw [blk_cell q1, Nat.zero_add]
        simpa using hu
      | succ mm =>
        have hi : i < m := by omega
        obtain ⟨u, hu⟩ : ∃ u, ys[i]? = some u := ⟨ys[i]'(by rw [HYL.out]; exact hi), List.getElem?_eq_getElem _⟩
        have g0 : wr.cell? ⟨b, o + (i + 1), none⟩ = some u := (HB.out.cell (p := ⟨b, o + (i + 1), none⟩) HBS.out).trans (HCY.out i u hu)
        obtain ⟨z, hz0⟩ : ∃ z, wr.cell? ⟨w.heap.size, i, none⟩ = some z := by
          obtain ⟨q1, q2, q3⟩ := HA.out
          exact ⟨arr[i]'(by omega), by rw [blk_cell q1]; exact Array.getElem?_eq_getElem _⟩
        have fz : wr.frozen? ⟨w.heap.size, i, none⟩ = false := by simp [World.frozen?, HA.out.1]
        have hface := HONE.out u (List.mem_of_getElem? hu)
        have HU := Lib.hid hu
        have HIK := Lib.hid hik
        have hii0 : (0 : Int) ≤ (i : Int) := by omega
        have hii1 : (i : Int) < (m : Int) := by omega
        have hii2 : (i : Int) < (m : Int) + 1 := by omega
        have hii3 : (i : Int) + 1 < (m : Int) + 1 := by omega
        have hii4 : (0 : Int) ≤ (i : Int) + 1 := by omega
        have htn : ((i : Int) + 1).toNat = i + 1 := by omega
        clear hu hik
        rcases hface with rfl | ⟨ft, fv, rfl⟩
        all_goals (
          go_wp2_with fail
          go_roundg mm
          case measure => exact Nat.lt_succ_self mm
          case rel =>
            obtain ⟨q1, q2, q3⟩ := HA.out
            have hb := fun v => blk_set q1 i v
            refine ⟨i + 1, arr.set! i _, by simp, by have := HIK.out; omega, Lib.hid ⟨by simpa using hb _, by simp; exact q2, take_set q3 (by omega) HU.out⟩, Lib.hid (HB.out.setCell (p := ⟨w.heap.size, i, none⟩) (Nat.le_refl _) _)⟩)
theorem sprigRest_walk (a : Addr) (n c : Nat) (xs : List Value) (P : Nat → Prop) (w : World) (h : RowIs w P 1 (.slice (some a) n c) n xs) (h3 : n ≤ 100000) (h1 : ∀ x ∈ xs, Face x) :
    Calls Try.prog 71 #[.iface 64 (.slice (some a) n c)] w (RestRes n xs w) := by
  have hm := mustRest_walk a n c xs P w h h3 h1
  clear h
  go_enter Try.func71, Try.ntmps71
  go_wp2_with fail
  refine hm.mono ?_
  rintro e w' ⟨A, c', rfl, h1, h2⟩
  go_wp2_with fail
  go_ret2
  exact ⟨A, c', rfl, h1, h2⟩

def InitialRes (n : Nat) (xs : List Value) (w : World) (e : Ending) (w' : World) : Prop := ∃ A c, e = .returned (.tuple #[.slice A (n - 1) c, .nilIface]) ∧ Hid (RowIs w' (fun b => w.heap.size ≤ b) 1 (.slice A (n - 1) c) (n - 1) (xs.take (n - 1))) ∧ Hid (Below w.heap.size w w')
set_option maxHeartbeats 4000000 in
theorem mustInitial_walk (a : Addr) (n c : Nat) (xs : List Value) (P : Nat → Prop) (w : World) (h : RowIs w P 1 (.slice (some a) n c) n xs) (h3 : n ≤ 100000) (h1 : ∀ x ∈ xs, Face x) :
    Calls Try.prog 91 #[.iface 64 (.slice (some a) n c)] w (InitialRes n xs w) := by
  have hxl : xs.length = n := by obtain ⟨A, c', _, _, _, hx, _⟩ := id h; omega
  have hz := zzList_walk a n c
  have hnc := h.sizes
  by_cases h0 : n = 0
  · subst h0
    obtain rfl : xs = [] := List.eq_nil_of_length_eq_zero hxl
    clear h hxl hnc
    go_enter Try.func91, Try.ntmps91
    go_wp2_with (go_at_call 94; refine (hz _).mono ?_; rintro e w' ⟨rfl, hw'⟩; subst w')
    go_ret2
    exact ⟨none, 0, rfl, Lib.hid ⟨none, 0, rfl, by simp, by unfold maxLen; omega, by simp, fun h => absurd h (by simp)⟩, Lib.hid (Below.refl _ _)⟩
  · obtain ⟨b, o, rfl, hbs, hc⟩ := h.cell1 (by omega)
    obtain ⟨m, rfl⟩ : ∃ m, n = m + 1 := ⟨n - 1, by omega⟩
    obtain ⟨ys, hys⟩ : ∃ ys, ys = xs.take (m + 1 - 1) := ⟨_, rfl⟩
    have hyl : ys.length = m := by rw [hys]; simp; omega
    have hcy : ∀ i u, ys[i]? = some u → w.cell? ⟨b, o + i, none⟩ = some u := fun i u hu => hc _ u (by rw [hys, List.getElem?_take] at hu; split at hu; exact hu; cases hu)
    obtain ⟨j0, hj0, jz0, jz1, jz2⟩ := info_parts faceInfo
    have hmk := fun W => run_make_row (P := Try.prog) 64 20 j0 .nilIface Try.underlying64 hj0 jz0 jz1 rfl .i64 .i64 m (by rw [jz2]; omega) (by omega) W
    have HYL := Lib.hid hyl
    have HONE : Hid (∀ x ∈ ys, Face x) := Lib.hid (fun x hx => h1 x (by rw [hys] at hx; exact List.mem_of_mem_take hx))
    have HYS := Lib.hid hys
    have HCY := Lib.hid hcy
    have HBS := Lib.hid hbs
    clear h hxl hc h0 h1 hyl hys hcy hbs hj0 jz0 jz1 jz2 hnc
    have hm1 : (0 : Int) ≤ (m : Int) := by omega
    have hm4 : ¬ ((m : Int) + 1 = 0) := by omega
    go_enter Try.func91, Try.ntmps91
    go_wp2_with (go_at_call 94; refine (hz _).mono ?_; rintro e w' ⟨rfl, hw'⟩; subst w')
    go_loopg [8] m (fun kq v8 wr => ∃ (i : Nat) (arr : Array Value), v8 = .int .i64 ((i : Int)) ∧ i + kq = m ∧ Hid (wr.heap[w.heap.size]? = some (.cells arr 20 (0, 0)) ∧ arr.size = m ∧ arr.toList.take i = ys.take i) ∧ Hid (Below w.heap.size w wr))
    case atStart => exact ⟨0, madeCells #[.nilIface] m, rfl, by omega, Lib.hid ⟨heap_alloc_new w _, size_madeCells _ _, by simp⟩, Lib.hid ((Below.refl _ _).alloc (Nat.le_refl _) _)⟩
    case round =>
      obtain ⟨i, arr, rfl, hik, HA, HB⟩ := hrel
      cases gk with
      | zero =>
        have hi : ¬ i < m := by omega
        have HIN := Lib.hid hik
        clear hik
        go_wp2_with fail
        go_ret2
        obtain ⟨q1, q2, q3⟩ := HA.out
        have hin : i = m := by have := HIN.out; omega
        rw [hin, List.take_of_length_le (by simp; omega), List.take_of_length_le (by rw [HYL.out]; exact Nat.le_refl _)] at q3
        refine ⟨some ⟨w.heap.size, 0, none⟩, m, by simp, Lib.hid ⟨_, m, rfl, by simp, by unfold maxLen; omega, by rw [← HYS.out, HYL.out]; simp, fun _ => ⟨w.heap.size, 0, rfl, Nat.le_refl _, fun j u hu => ?_⟩⟩, HB⟩
        rw [← HYS.out, ← q3] at hu
        rw [blk_cell q1, Nat.zero_add]
        simpa using hu
      | succ mm =>
        have hi : i < m := by omega
        obtain ⟨u, hu⟩ : ∃ u, ys[i]? = some u := ⟨ys[i]'(by rw [HYL.out]; exact hi), List.getElem?_eq_getElem _⟩
        have g0 : wr.cell? ⟨b, o + i, none⟩ = some u := (HB.out.cell (p := ⟨b, o + i, none⟩) HBS.out).trans (HCY.out i u hu)
        obtain ⟨z, hz0⟩ : ∃ z, wr.cell? ⟨w.heap.size, i, none⟩ = some z := by
          obtain ⟨q1, q2, q3⟩ := HA.out
          exact ⟨arr[i]'(by omega), by rw [blk_cell q1]; exact Array.getElem?_eq_getElem _⟩
        have fz : wr.frozen? ⟨w.heap.size, i, none⟩ = false := by simp [World.frozen?, HA.out.1]
        have hface := HONE.out u (List.mem_of_getElem? hu)
        have HU := Lib.hid hu
        have HIK := Lib.hid hik
        have hii0 : (0 : Int) ≤ (i : Int) := by omega
        have hii1 : (i : Int) < (m : Int) := by omega
        have hii2 : (i : Int) < (m : Int) + 1 := by omega
        have hii3 : (i : Int) + 1 < (m : Int) + 1 := by omega
        have hii4 : (0 : Int) ≤ (i : Int) + 1 := by omega
        have htn : ((i : Int) + 1).toNat = i + 1 := by omega
        clear hu hik
        rcases hface with rfl | ⟨ft, fv, rfl⟩
        all_goals (
          go_wp2_with fail
          go_roundg mm
          case measure => exact Nat.lt_succ_self mm
          case rel =>
            obtain ⟨q1, q2, q3⟩ := HA.out
            have hb := fun v => blk_set q1 i v
            refine ⟨i + 1, arr.set! i _, by simp, by have := HIK.out; omega, Lib.hid ⟨by simpa using hb _, by simp; exact q2, take_set q3 (by omega) HU.out⟩, Lib.hid (HB.out.setCell (p := ⟨w.heap.size, i, none⟩) (Nat.le_refl _) _)⟩)
theorem sprigInitial_walk (a : Addr) (n c : Nat) (xs : List Value) (P : Nat → Prop) (w : World) (h : RowIs w P 1 (.slice (some a) n c) n xs) (h3 : n ≤ 100000) (h1 : ∀ x ∈ xs, Face x) :
    Calls Try.prog 72 #[.iface 64 (.slice (some a) n c)] w (InitialRes n xs w) := by
  have hm := mustInitial_walk a n c xs P w h h3 h1
  clear h
  go_enter Try.func72, Try.ntmps72
  go_wp2_with fail
  refine hm.mono ?_
  rintro e w' ⟨A, c', rfl, h1, h2⟩
  go_wp2_with fail
  go_ret2
  exact ⟨A, c', rfl, h1, h2⟩
end Go.Proofs.Ytlkfdjnkkooofaa.Vals
