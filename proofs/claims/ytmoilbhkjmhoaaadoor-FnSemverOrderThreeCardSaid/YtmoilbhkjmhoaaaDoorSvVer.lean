/- Semantic versions: NewVersion at the text of a version. -/
import Derived.Test.YtmoilbhkjmhoaaaDoorSvLw
namespace Go.Proofs.YtmoilbhkjmhoaaaDoor.Sv
open Go.RowKit Go.Proofs.YtmoilbhkjmhoaaaDoor.PFnSemverOrderThree Go.Proofs.YtmoilbhkjmhoaaaDoorW.PrintWords Go.Proofs.YtmoilbhkjmhoaaaDoor.Txt Go.Proofs.YtmoilbhkjmhoaaaDoor
set_option linter.unusedVariables false
set_option linter.unusedSimpArgs false
set_option maxRecDepth 20000

theorem sg_pre (c : UInt8) (l m : List UInt8) : ((sg c l ++ m).drop 1).take ((sg c l).length - 1) = l := by
  unfold sg
  split
  · rename_i h; rw [h]; simp
  · simp
theorem zzLoose_walk (t : Tx) (h : t.Ok) (v : ByteArray) (hv : v.toList = t.text) (hs : v.size ≤ 256) (w : World) :
    ∃ p1 p2 p3 p4, Calls Tryd.prog 41 #[.string v] w (LooseRes v p1 p2 p3 p4 w) ∧ (v.extract 0 p1).toList = t.d1 ∧ (v.extract p1 p2).toList = sg 46 t.d2 ∧ (v.extract p2 p3).toList = sg 46 t.d3 ∧ (v.extract (p3 + 1) p4).toList = t.pre ∧ (v.extract (p4 + 1) v.size).toList = t.meta_ ∧ (v.extract p3 p4).toList = sg 45 t.pre ∧ (v.extract p4 v.size).toList = sg 43 t.meta_ := by
  have hl := len_eq v
  have hC := cuts_of t h v hv (by omega)
  have hsz : v.size = t.d1.length + (sg 46 t.d2).length + (sg 46 t.d3).length + (sg 45 t.pre).length + (sg 43 t.meta_).length := by
    rw [hl, hv]; unfold Tx.text; simp only [List.length_append]; omega
  have sgd : ∀ (c : UInt8) (l : List UInt8), (sg c l).drop 1 = l := fun c l => by unfold sg; split <;> simp_all
  refine ⟨t.d1.length, t.d1.length + (sg 46 t.d2).length, t.d1.length + (sg 46 t.d2).length + (sg 46 t.d3).length, t.d1.length + (sg 46 t.d2).length + (sg 46 t.d3).length + (sg 45 t.pre).length, ?_, ?_, ?_, ?_, ?_, ?_, ?_, ?_⟩
  rotate_left
  · exact (by rw [tl_extract, hv]; unfold Tx.text; simp : (v.extract 0 t.d1.length).toList = t.d1)
  · exact (by rw [tl_extract, hv]; unfold Tx.text; simp : (v.extract t.d1.length (t.d1.length + (sg 46 t.d2).length)).toList = sg 46 t.d2)
  · refine (?_ : (v.extract (t.d1.length + (sg 46 t.d2).length) (t.d1.length + (sg 46 t.d2).length + (sg 46 t.d3).length)).toList = sg 46 t.d3)
    rw [tl_extract, hv]; unfold Tx.text
    rw [← List.append_assoc t.d1, List.drop_left' (by simp)]
    simp
  · refine (?_ : (v.extract (t.d1.length + (sg 46 t.d2).length + (sg 46 t.d3).length + 1) (t.d1.length + (sg 46 t.d2).length + (sg 46 t.d3).length + (sg 45 t.pre).length)).toList = t.pre)
    rw [tl_extract, hv]; unfold Tx.text
    rw [← List.append_assoc t.d1, ← List.append_assoc (t.d1 ++ sg 46 t.d2), ← List.drop_drop, List.drop_left' (by simp; omega)]
    rw [show ∀ n m : Nat, n + m - (n + 1) = m - 1 from fun n m => by omega]
    exact sg_pre 45 t.pre _
  · rw [extract_self, hv]; unfold Tx.text
    rw [← List.append_assoc t.d1, ← List.append_assoc (t.d1 ++ sg 46 t.d2), ← List.append_assoc (t.d1 ++ sg 46 t.d2 ++ sg 46 t.d3), ← List.drop_drop, List.drop_left' (by simp; omega)]
    exact sgd 43 t.meta_
  · refine (?_ : (v.extract (t.d1.length + (sg 46 t.d2).length + (sg 46 t.d3).length) (t.d1.length + (sg 46 t.d2).length + (sg 46 t.d3).length + (sg 45 t.pre).length)).toList = sg 45 t.pre)
    rw [tl_extract, hv]; unfold Tx.text
    rw [← List.append_assoc t.d1, ← List.append_assoc (t.d1 ++ sg 46 t.d2), List.drop_left' (by simp; omega)]
    simp
  · rw [extract_self, hv]; unfold Tx.text
    rw [← List.append_assoc t.d1, ← List.append_assoc (t.d1 ++ sg 46 t.d2), ← List.append_assoc (t.d1 ++ sg 46 t.d2 ++ sg 46 t.d3), List.drop_left' (by simp; omega)]
  · by_cases h2 : t.d2 = []
    · have h3 := h.h23 h2
      rw [decide_eq_false (by simpa using h2), decide_eq_false (by simpa using h3)] at hC
      exact zzLoose_1 v hs _ _ _ _ _ _ hC w
    · rw [decide_eq_true h2] at hC
      by_cases h3 : t.d3 = []
      · rw [decide_eq_false (by simpa using h3)] at hC
        exact zzLoose_2 v hs _ _ _ _ _ _ hC w
      · rw [decide_eq_true h3] at hC
        exact zzLoose_3 v hs _ _ _ _ _ _ hC w
/-- As texts by their lists. -/
theorem zzLoose_any (t : Tx) (h : t.Ok) (v : ByteArray) (hv : v.toList = t.text) (hs : v.size ≤ 256) (w : World) :
    Calls Tryd.prog 41 #[.string v] w fun e w' => ∃ b, e = .returned (.slice (some ⟨b, 0, none⟩) 9 9) ∧ w.heap.size ≤ b ∧
      Hid (Nine w' b (.string v) (.string ⟨t.d1.toArray⟩) (.string ⟨(sg 46 t.d2).toArray⟩) (.string ⟨(sg 46 t.d3).toArray⟩) (.string ⟨(sg 45 t.pre).toArray⟩) (.string ⟨t.pre.toArray⟩) E0 (.string ⟨(sg 43 t.meta_).toArray⟩) (.string ⟨t.meta_.toArray⟩)) ∧ Hid (Below w.heap.size w w') := by
  obtain ⟨p1, p2, p3, p4, hc, x1, x2, x3, x4, x5, x6, x7⟩ := zzLoose_walk t h v hv hs w
  refine hc.mono fun e w' ⟨b, he, hb, hn, hbb⟩ => ⟨b, he, hb, ?_, hbb⟩
  have y : ∀ {s : ByteArray} {l : List UInt8}, s.toList = l → s = ⟨l.toArray⟩ := fun {s l} h => ext_eq (by rw [h, tl_mk])
  rw [← y x1, ← y x2, ← y x3, ← y x4, ← y x5, ← y x6, ← y x7]
  exact hn
end Go.Proofs.YtmoilbhkjmhoaaaDoor.Sv
