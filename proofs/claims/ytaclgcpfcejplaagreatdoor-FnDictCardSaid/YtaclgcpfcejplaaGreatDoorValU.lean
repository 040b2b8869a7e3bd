/- Walks of sprig.inList, sprig.Uniq, impl.Uniq, spec.Uniq: each value of a list once. -/
import Derived.Test.YtaclgcpfcejplaaGreatDoorValH
namespace Go.Proofs.YtaclgcpfcejplaaGreatDoor.Vals
open Go.RowKit Go.Proofs.YtaclgcpfcejplaaGreatDoorW.PrintWords Go.Proofs.YtaclgcpfcejplaaGreatDoor.Txt
set_option linter.unusedVariables false
set_option maxRecDepth 20000

/-- One value more, if it isn't there. -/
noncomputable def uniqStep (m : List V) (v : V) : List V := if hasB v m = true then m else m ++ [v]
/-- Each value once, where it stands first. -/
noncomputable def uniqV (l : List V) : List V := l.foldl uniqStep []
theorem uniqV_snoc (l : List V) (v : V) : uniqV (l ++ [v]) = uniqStep (uniqV l) v := by unfold uniqV; rw [List.foldl_append]; rfl
theorem uniqV_mem : ∀ (N : Nat) (l : List V), l.length < N → ∀ v ∈ uniqV l, v ∈ l := by
  intro N
  induction N with
  | zero => intro l h; omega
  | succ N ih =>
    intro l hN v hv
    rcases List.eq_nil_or_concat l with rfl | ⟨r, u, rfl⟩
    · exact hv
    · rw [List.concat_eq_append] at hv hN ⊢
      rw [uniqV_snoc] at hv
      have hr := ih r (by rw [List.length_append, List.length_singleton] at hN; omega)
      unfold uniqStep at hv
      split at hv
      · exact List.mem_append_left _ (hr v hv)
      · rcases List.mem_append.1 hv with hv | hv
        · exact List.mem_append_left _ (hr v hv)
        · exact List.mem_append_right _ hv
theorem Rights.uniq {l : List V} {d : Int} (h : Rights l d) : Rights (uniqV l) d := Rights.mk fun i hi => by
  obtain ⟨j, hj, e⟩ := List.mem_iff_getElem.1 (uniqV_mem _ l (Nat.lt_succ_self _) _ (List.getElem_mem hi))
  rw [← e]; exact h.at_ j hj
theorem uniqV_len (l : List V) (i : Nat) : (uniqV (l.take i)).length ≤ i := by
  induction i with
  | zero => simp [uniqV]
  | succ i ih =>
    rw [List.take_add_one]
    cases h : l[i]? with
    | none => simp only [Option.toList_none, List.append_nil]; omega
    | some v =>
      simp only [Option.toList_some]
      rw [uniqV_snoc]
      unfold uniqStep
      split
      · omega
      · rw [List.length_append, List.length_singleton]; omega

/-- A list that a function of lists hands back, and no error. -/
def GoLRes (m : List V) (w : World) (e : Ending) (w' : World) : Prop := ∃ A c ys, e = .returned (.tuple #[.slice A m.length c, .nilIface]) ∧
  Hid (RowIs w' (fun _ => True) 1 (.slice A m.length c) m.length ys ∧ GoVs w' (fun _ => True) m ys) ∧ Hid (Below w.heap.size w w')

theorem Rights.fines {l : List V} {d : Int} {w : World} {P : Nat → Prop} (hr : Rights l d) (hv : Fines l) : Fines (uniqV l) := Fines.mk fun i hi => by
  obtain ⟨j, hj, e⟩ := List.mem_iff_getElem.1 (uniqV_mem _ l (Nat.lt_succ_self _) _ (List.getElem_mem hi))
  rw [← e]; exact hv.at_ j hj
theorem uniqV_le (l : List V) : (uniqV l).length ≤ l.length := by have := uniqV_len l l.length; rw [List.take_length] at this; exact this
/-- A list of values that a function of the reference hands back. -/
def SpecLRes (m : List V) (w : World) (e : Ending) (w' : World) : Prop := ∃ A c ys, e = .returned (.slice A m.length c) ∧
  Hid (RowIs w' (fun _ => True) 6 (.slice A m.length c) m.length ys ∧ IsVs w' (fun _ => True) m ys) ∧ Hid (Below w.heap.size w w')
end Go.Proofs.YtaclgcpfcejplaaGreatDoor.Vals
