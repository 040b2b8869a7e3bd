/- Walk of the law FnSquote: it answers true. -/
import Derived.Test.YtkikkeegdooenaaGreatDoorValSs
import Derived.Test.YtkikkeegdooenaaGreatDoorValSm
import Derived.Laws.OwnMore
namespace Go.Proofs.YtkikkeegdooenaaGreatDoor.Vals
open Go.RowKit Go.ChangeMaps Go.Proofs.YtkikkeegdooenaaGreatDoorW.PrintWords Go.Proofs.YtkikkeegdooenaaGreatDoor.Txt Go.Proofs.YtkikkeegdooenaaGreatDoor.Giv
set_option linter.unusedVariables false
set_option maxRecDepth 20000

/-- The first so many in apostrophes. -/
def quoN (l : List ByteArray) (i : Nat) : List ByteArray := (l.take i).map quoT ++ l.drop i
theorem quoN_len (l : List ByteArray) (i : Nat) : (quoN l i).length = l.length := by unfold quoN; simp; omega
theorem quoN_get (l : List ByteArray) (i : Nat) (hi : i < l.length) : (quoN l i)[i]? = some l[i] := by
  unfold quoN
  rw [List.getElem?_append_right (by simp; omega)]
  simp [Nat.min_eq_left (Nat.le_of_lt hi), hi]
theorem quoN_set (l : List ByteArray) (i : Nat) (hi : i < l.length) : (quoN l i).set i (quoT l[i]) = quoN l (i + 1) := by
  unfold quoN
  rw [List.set_append_right _ _ (by simp; omega)]
  have e : i - ((l.take i).map quoT).length = 0 := by simp; omega
  rw [e, List.drop_eq_getElem_cons hi, List.set_cons_zero, List.take_succ_eq_append_getElem hi, List.map_append]
  simp
theorem quoN_all (l : List ByteArray) : quoN l l.length = l.map quoT := by unfold quoN; simp
theorem joinT_list (l : List ByteArray) (p : ByteArray) : (joinT l p).toList = Pure.joinL p.toList (l.map ByteArray.toList) := by
  unfold joinT
  rw [tl_mk]
  have e1 : (l.map fun x => x.data.toList) = l.map ByteArray.toList := List.map_congr_left fun x _ => (Lib.toList_data x).symm
  rw [e1, ← Lib.toList_data p]
  generalize l.map ByteArray.toList = m
  induction m with
  | nil => rfl
  | cons x m ih =>
    cases m with
    | nil => simp [Lib.join, Pure.joinL]
    | cons y m =>
      rw [Pure.joinL, ← ih]
      simp [Lib.join, List.intercalate]
theorem tailL_len (p : List UInt8) (l : List (List UInt8)) (h : ∀ x ∈ l, x.length ≤ 502) : (Pure.tailL p l).length ≤ l.length * (p.length + 502) := by
  induction l with
  | nil => simp [Pure.tailL]
  | cons x l ih =>
    have := ih fun y hy => h y (List.mem_cons_of_mem _ hy)
    have hx := h x (List.mem_cons_self ..)
    have e : Pure.tailL p (x :: l) = p ++ x ++ Pure.tailL p l := by simp [Pure.tailL]
    rw [e, List.length_append, List.length_append, List.length_cons, Nat.succ_mul]
    omega
theorem quo_sizes {l : List V} (h : ∀ v ∈ l, Simp v) : ∀ x ∈ quoL l, x.size ≤ 502 := by
  intro x hx
  unfold quoL at hx
  obtain ⟨s, hs, rfl⟩ := List.mem_map.1 hx
  unfold shownL at hs
  obtain ⟨v, hv, rfl⟩ := List.mem_map.1 hs
  have := shown_size (h v ((List.mem_filter.1 hv).1))
  unfold quoT
  rw [size_append, size_append]
  show 1 + _ + 1 ≤ 502
  omega
theorem quo_small {l : List V} (h : ∀ v ∈ l, Simp v) (hl : l.length ≤ 1000) : (joinT (quoL l) ⟨#[32]⟩).size ≤ 140737488355328 := by
  have hq := quoL_len l
  rw [len_eq, joinT_list]
  have hz : ∀ x ∈ (quoL l).map ByteArray.toList, x.length ≤ 502 := fun x hx => by
    obtain ⟨s, hs, rfl⟩ := List.mem_map.1 hx
    have := quo_sizes h s hs
    have := len_eq s
    omega
  have hp : (⟨#[32]⟩ : ByteArray).toList.length = 1 := by rw [Lib.toList_data]; rfl
  cases hm : (quoL l).map ByteArray.toList with
  | nil => simp [Pure.joinL]
  | cons x m =>
    have hlm : m.length + 1 = (quoL l).length := by rw [← List.length_map (f := ByteArray.toList), hm]; rfl
    rw [hm] at hz
    have := tailL_len (⟨#[32]⟩ : ByteArray).toList m fun y hy => hz y (List.mem_cons_of_mem _ hy)
    have hx := hz x (List.mem_cons_self ..)
    rw [Pure.joinL_cons, List.length_append, hp] at *
    have : m.length * (1 + 502) ≤ 1000 * 503 := Nat.mul_le_mul (by omega) (by omega)
    omega
theorem joined_calls (l : List ByteArray) (hn : l.length ≤ 100000) (hl : ∀ x ∈ l, x.size ≤ 100000) (A : Option Addr) (c : Nat) (hc : l.length ≤ c) (W : World) (hC : Kd.C Kd.string W A l.length l) :
    Calls Tryz.prog 14 #[.string ⟨#[32]⟩, .slice A l.length c] W fun e w' => e = .returned (.string (joinT l ⟨#[32]⟩)) ∧ Drawn0 W w' := by
  obtain ⟨r, h1, h2⟩ := Pure.joined_ev ⟨#[32]⟩ l (by decide) hn hl
  have e : r = joinT l ⟨#[32]⟩ := ext_eq (by rw [h2, joinT_list])
  rw [e] at h1
  obtain ⟨k, hk⟩ := Ev.rounds h1
  exact PFnSquote.spec_Joined.calls k _ A c l _ W hC hc hk
theorem C_of_own {w : World} {base g cap : Nat} {l : List ByteArray} (hl : l.length ≤ 1000000) (h : w.ownsRow base 9 1 (.slice (some ⟨g, 0, none⟩) l.length cap) l.length (l.map Value.string)) : Kd.C Kd.string w (some ⟨g, 0, none⟩) l.length l := by
  refine ⟨rfl, by omega, fun _ => ⟨_, rfl, fun j p hj => ⟨[.string p], rfl, rfl, fun i u hu => ?_⟩⟩⟩
  have h1 : Kd.string.sz = 1 := rfl
  rw [h1]
  have hi : i = 0 := by
    rcases i with _ | i
    · rfl
    · simp at hu
  subst hi
  have hup : u = .string p := by simpa using hu.symm
  subst hup
  have := h.cells (g := g) rfl j (.string p) (by rw [List.getElem?_map, hj]; rfl)
  simpa using this
end Go.Proofs.YtkikkeegdooenaaGreatDoor.Vals
