/- Walks of sprig's first, last, rest, initial at a list. -/
import Derived.Test.YtaclgcpfcejplaaGreatDoorValN
import Derived.Deep.OwnRows
namespace Go.Proofs.YtaclgcpfcejplaaGreatDoor.Vals
open Go.RowKit Go.Proofs.YtaclgcpfcejplaaGreatDoorW.PrintWords
set_option linter.unusedVariables false
set_option maxRecDepth 20000

theorem zzList_walk (a : Addr) (n c : Nat) (w : World) : Calls Tryz.prog 44 #[.iface 39 (.slice (some a) n c)] w fun e w' => e = .returned (.tuple #[.slice (some a) n c, .bool true]) ∧ w' = w := by
  have ta5 : ∀ w, (Instr.typeAssert (.iface 39 (.slice (some a) n c)) 20 39 true).run Tryz.prog w = .ok (.tuple #[.slice (some a) n c, .bool true]) w := fun w => by kernel_rfl
  go_enter Tryz.func44, Tryz.ntmps44
  go_wp2_with fail
  go_ret2
  exact ⟨rfl, rfl⟩
theorem RowIs.cell1 {w : World} {P : Nat → Prop} {a : Addr} {n c : Nat} {xs : List Value} (h : RowIs w P 1 (.slice (some a) n c) n xs) (hn : 0 < n) : ∃ b o, a = ⟨b, o, none⟩ ∧ b < w.heap.size ∧ ∀ j u, xs[j]? = some u → w.cell? ⟨b, o + j, none⟩ = some u := by
  obtain ⟨A, c', _, _, _, hx, _⟩ := id h
  obtain ⟨b, o, hA, _, hc⟩ := h.elem hn
  injection hA with hA
  obtain ⟨u, hu⟩ : ∃ u, xs[0]? = some u := ⟨xs[0], List.getElem?_eq_getElem (by omega)⟩
  exact ⟨b, o, hA, World.block_lt_of_cell? w _ (hc 0 u hu), hc⟩
theorem GoVs.drop {w : World} {P : Nat → Prop} : ∀ (k : Nat) {l : List V} {xs : List Value}, GoVs w P l xs → GoVs w P (l.drop k) (xs.drop k)
  | 0, l, xs, h => by simpa using h
  | k + 1, [], xs, h => by unfold GoVs at h; subst h; simp; unfold GoVs; rfl
  | k + 1, v :: l, xs, h => by
    unfold GoVs at h
    obtain ⟨x, xr, rfl, _, h⟩ := h
    exact GoVs.drop k h
theorem GoVs.take {w : World} {P : Nat → Prop} : ∀ (k : Nat) {l : List V} {xs : List Value}, GoVs w P l xs → GoVs w P (l.take k) (xs.take k)
  | 0, l, xs, h => by simp; unfold GoVs; rfl
  | k + 1, [], xs, h => by unfold GoVs at h; subst h; simp; unfold GoVs; rfl
  | k + 1, v :: l, xs, h => by
    unfold GoVs at h
    obtain ⟨x, xr, rfl, h1, h⟩ := h
    simp only [List.take_succ_cons]
    unfold GoVs
    exact ⟨x, _, rfl, h1, GoVs.take k h⟩
/-- A value of an interface's type. -/
def Face (x : Value) : Prop := x = .nilIface ∨ ∃ t y, x = .iface t y
theorem GoV.face {w : World} {P : Nat → Prop} {v : V} {x : Value} (h : GoV w P v x) : Face x := by
  cases v; unfold GoV at h
  rcases h with ⟨_, rfl⟩ | ⟨_, rfl⟩ | ⟨_, rfl⟩ | ⟨_, rfl⟩ | ⟨_, rfl⟩ | ⟨_, rfl⟩ | ⟨_, a, c, xs, rfl, _⟩ | ⟨_, b, es, clk, xs, rfl, _⟩
  · exact .inl rfl
  all_goals exact .inr ⟨_, _, rfl⟩
theorem GoVs.face {w : World} {P : Nat → Prop} : ∀ {l : List V} {xs : List Value}, GoVs w P l xs → ∀ x ∈ xs, Face x
  | [], xs, h => by unfold GoVs at h; subst h; intro x hx; cases hx
  | v :: l, xs, h => by
    unfold GoVs at h
    obtain ⟨y, r, rfl, h1, h2⟩ := h
    intro x hx
    rcases List.mem_cons.1 hx with rfl | hx
    · exact h1.face
    · exact h2.face x hx
theorem faceInfo : (Tryz.prog.info? 20).map (fun i => (i.zero, i.size, i.bytes)) = some (some .nilIface, 1, 16) := by kernel_rfl
theorem take_set {arr : Array Value} {ys : List Value} {i : Nat} {v : Value} (h : arr.toList.take i = ys.take i) (hi : i < arr.size) (hv : ys[i]? = some v) : (arr.set! i v).toList.take (i + 1) = ys.take (i + 1) := by
  have hy : i < ys.length := by rw [List.getElem?_eq_some_iff] at hv; exact hv.1
  apply List.ext_getElem?
  intro j
  rcases Nat.lt_trichotomy j i with hj | rfl | hj
  · have h1 := congrArg (fun l => l[j]?) h
    simp only [List.getElem?_take_of_lt hj] at h1
    rw [List.getElem?_take_of_lt (by omega), List.getElem?_take_of_lt (by omega), ← h1]
    simp [Array.set!, Array.setIfInBounds, hi, show ¬ i = j by omega]
  · rw [List.getElem?_take_of_lt (by omega), List.getElem?_take_of_lt (by omega), hv]
    simp [Array.set!, Array.setIfInBounds, hi]
  · rw [List.getElem?_take_eq_none (by omega), List.getElem?_take_eq_none (by omega)]

def RestRes (n : Nat) (xs : List Value) (w : World) (e : Ending) (w' : World) : Prop := ∃ A c, e = .returned (.tuple #[.slice A (n - 1) c, .nilIface]) ∧ Hid (RowIs w' (fun b => w.heap.size ≤ b) 1 (.slice A (n - 1) c) (n - 1) (xs.drop 1)) ∧ Hid (Below w.heap.size w w')
def InitialRes (n : Nat) (xs : List Value) (w : World) (e : Ending) (w' : World) : Prop := ∃ A c, e = .returned (.tuple #[.slice A (n - 1) c, .nilIface]) ∧ Hid (RowIs w' (fun b => w.heap.size ≤ b) 1 (.slice A (n - 1) c) (n - 1) (xs.take (n - 1))) ∧ Hid (Below w.heap.size w w')
end Go.Proofs.YtaclgcpfcejplaaGreatDoor.Vals
