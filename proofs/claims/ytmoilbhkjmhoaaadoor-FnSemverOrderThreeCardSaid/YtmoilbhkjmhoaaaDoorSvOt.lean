/- Semantic versions: impl.SemverOrder at two of the law's versions: cver. -/
import Derived.Test.YtmoilbhkjmhoaaaDoorSvCm
import Derived.Test.YtmoilbhkjmhoaaaDoorSvV9
namespace Go.Proofs.YtmoilbhkjmhoaaaDoor.Sv
open Go.RowKit Go.Proofs.YtmoilbhkjmhoaaaDoor.PFnSemverOrderThree Go.Proofs.YtmoilbhkjmhoaaaDoorW.PrintWords Go.Proofs.YtmoilbhkjmhoaaaDoor.Txt Go.Proofs.YtmoilbhkjmhoaaaDoor
set_option linter.unusedVariables false
set_option maxRecDepth 20000

/-- A text's version. -/
def verOf (t : Tx) : Ver := ⟨val 0 t.d1, val 0 t.d2, val 0 t.d3, t.ps⟩
def TxOk (s : ByteArray) (t : Tx) : Prop := s.size ≤ 100 ∧ Num9 t.d1 ∧ Num9 t.d2 ∧ Num9 t.d3 ∧ (t.ps = [] ∨ PartsOk t.ps) ∧ (∀ p ∈ t.ps, IdOk p) ∧ (t.ms = [] ∨ PartsOk t.ms) ∧ s.toList = t.text
theorem TxOk.lens {s : ByteArray} {t : Tx} (h : TxOk s t) : t.pre.length ≤ 100 ∧ t.meta_.length ≤ 100 := by
  obtain ⟨h0, _, _, _, _, _, _, h7⟩ := h
  have hl := len_eq s
  rw [h7] at hl
  unfold Tx.text at hl
  simp only [List.length_append] at hl
  have g : ∀ (c : UInt8) (l : List UInt8), l.length ≤ (sg c l).length := fun c l => by unfold sg; split <;> simp_all
  have := g 45 t.pre; have := g 43 t.meta_
  omega
theorem num9_parse {d : List UInt8} (h : Num9 d) : Lib.parseUintB 64 d = .ok (val 0 d) := parse_val h.1 h.2.1 (by have := h.2.2; omega)
theorem new_of {s : ByteArray} {t : Tx} (h : TxOk s t) (w : World) :
    Calls Tryd.prog 22 #[.string s] w (VerRes (val 0 t.d1) (val 0 t.d2) (val 0 t.d3) (ba t.pre) (ba t.meta_) s w) := by
  have hn := h.lens
  obtain ⟨h0, h1, h2, h3, h4, h5, h6, h7⟩ := h
  refine newVersion_walk t ⟨h1.1, h1.2.1, h2.2.1, h3.2.1, fun e => absurd e h2.1, h4, h6⟩ s h7 (by omega) _ _ _ (num9_parse h1) (.inr ⟨h2.1, num9_parse h2⟩) (.inr ⟨h3.1, num9_parse h3⟩) (fun hh W => ?_) (fun hh W => ?_) w
  · have hne : t.ps ≠ [] := fun e => hh (by unfold Tx.pre; rw [e]; rfl)
    exact validatePrerelease_walk ⟨hne, h5⟩ (by have := hn.1; unfold Tx.pre at this; omega) W
  · have hne : t.ms ≠ [] := fun e => hh (by unfold Tx.meta_; rw [e]; rfl)
    exact validateMetadata_walk (h6.resolve_left hne) (by have := hn.2; unfold Tx.meta_ at this; omega) W
theorem getD_len {ps : List (List UInt8)} (h : ∀ p ∈ ps, p.length ≤ 1000) (i : Nat) : (ps.getD i []).length ≤ 1000 := by
  rw [List.getD_eq_getElem?_getD]
  cases hx : ps[i]? with
  | none => simp
  | some x => exact h x (List.mem_of_getElem? hx)
theorem order_of {s s' : ByteArray} {t t' : Tx} (h : TxOk s t) (h' : TxOk s' t') (w : World)
    (U : ∀ a : ByteArray, a.size ≤ 1000 → ∀ W, Below w.heap.size w W → Calls Tryd.prog 42 #[.string a, .int .i64 10, .int .i64 64] W (PuSays a W)) :
    Calls Tryd.prog 12 #[.string s, .string s'] w fun e w' => e = .returned (.tuple #[.int .i64 (cver (verOf t) (verOf t')), .bool true]) ∧ Below w.heap.size w w' := by
  have e : cver (verOf t) (verOf t') = cmpV (val 0 t.d1) (val 0 t.d2) (val 0 t.d3) (val 0 t'.d1) (val 0 t'.d2) (val 0 t'.d3) (ba (dots t.ps)) (ba (dots t'.ps)) (cls t.ps t'.ps) := (cmp_cver _ _ _ _ _ _ _ _ h.2.2.2.2.1 h'.2.2.2.2.1).symm
  rw [e]
  have hn := h.lens
  have hn' := h'.lens
  have hps := h.2.2.2.2.1
  have hps' := h'.2.2.2.2.1
  refine semverOrder_walk s s' _ _ _ _ _ _ _ _ _ _ w _ (fun W => new_of h W) (fun W => new_of h' W) fun b c W hv hw hB => ?_
  refine compare_walk b c _ _ _ _ _ _ _ _ _ _ _ _ W hv hw _ fun g g' W2 hB2 => ?_
  have hB3 := hB.trans (hB2.mono hB.size)
  have q : PartsOk t.ps := hps.resolve_left fun e => absurd (g.symm.trans ((dots_emp hps).2 e)) (by simp)
  have q' : PartsOk t'.ps := hps'.resolve_left fun e => absurd (g'.symm.trans ((dots_emp hps').2 e)) (by simp)
  have z : (dots t.ps).length ≤ 1000 := by have := hn.1; unfold Tx.pre at this; omega
  have z' : (dots t'.ps).length ≤ 1000 := by have := hn'.1; unfold Tx.pre at this; omega
  refine comparePrerelease_walk q q' z z' W2 fun i W3 hB4 => ?_
  have hB5 := hB3.trans (hB4.mono hB3.size)
  have l1 := getD_len (fun p hp => Nat.le_trans (dots_big hp) z) i
  have l2 := getD_len (fun p hp => Nat.le_trans (dots_big hp) z') i
  have k := comparePrePart_walk (ba (t.ps.getD i [])) (ba (t'.ps.getD i [])) (by rw [ba_size]; exact l1) (by rw [ba_size]; exact l2) W3
    (fun W hW => U _ (by rw [ba_size]; exact l1) W (hB5.trans (hW.mono hB5.size))) (fun W hW => U _ (by rw [ba_size]; exact l2) W (hB5.trans (hW.mono hB5.size)))
  rw [tl_ba, tl_ba] at k
  exact k
end Go.Proofs.YtmoilbhkjmhoaaaDoor.Sv
