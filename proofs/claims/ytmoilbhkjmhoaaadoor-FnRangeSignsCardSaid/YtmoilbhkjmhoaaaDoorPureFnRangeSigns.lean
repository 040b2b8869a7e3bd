/- FnRangeSigns: signs that mean the same: the law's walk. Printed by gen_signs.py. -/
import Derived.Test.YtmoilbhkjmhoaaaDoorSvC18
namespace Go.Proofs.YtmoilbhkjmhoaaaDoor.Pure
/-- Nothing more is asked. -/
theorem FnRangeSigns : True := trivial
end Go.Proofs.YtmoilbhkjmhoaaaDoor.Pure
namespace Go.Proofs.YtmoilbhkjmhoaaaDoor.PFnRangeSigns
open Go.RowKit Go.Proofs.YtmoilbhkjmhoaaaDoor.Vals Go.Proofs.YtmoilbhkjmhoaaaDoorW.PrintWords Go.Proofs.YtmoilbhkjmhoaaaDoor.Txt Go.Proofs.YtmoilbhkjmhoaaaDoor Go.Proofs.YtmoilbhkjmhoaaaDoor.Sv
set_option linter.unusedVariables false
set_option linter.unusedSimpArgs false
set_option maxRecDepth 20000
/-- The texts of the six pairs, and the cells in which they lie. -/
def sgL (s : ByteArray) : Nat → ByteArray
  | 0 => (⟨#[61, 62]⟩ : ByteArray) ++ s
  | 1 => (⟨#[61, 60]⟩ : ByteArray) ++ s
  | 2 => (⟨#[126, 62]⟩ : ByteArray) ++ s
  | 3 => (⟨#[62, 61, 32]⟩ : ByteArray) ++ s
  | 4 => ((⟨#[62, 61]⟩ : ByteArray) ++ s) ++ (⟨#[32, 33, 61]⟩ : ByteArray) ++ s
  | _ => ((⟨#[62, 61]⟩ : ByteArray) ++ s) ++ (⟨#[44, 60, 61]⟩ : ByteArray) ++ s
def sgR (s : ByteArray) : Nat → ByteArray
  | 0 => (⟨#[62, 61]⟩ : ByteArray) ++ s
  | 1 => (⟨#[60, 61]⟩ : ByteArray) ++ s
  | 2 => (⟨#[126]⟩ : ByteArray) ++ s
  | 3 => (⟨#[62, 61]⟩ : ByteArray) ++ s
  | 4 => (⟨#[62]⟩ : ByteArray) ++ s
  | _ => (⟨#[61]⟩ : ByteArray) ++ s
def sgCells (s : ByteArray) : Array Value := #[.string ((⟨#[61, 62]⟩ : ByteArray) ++ s), .string ((⟨#[62, 61]⟩ : ByteArray) ++ s), .string ((⟨#[61, 60]⟩ : ByteArray) ++ s), .string ((⟨#[60, 61]⟩ : ByteArray) ++ s), .string ((⟨#[126, 62]⟩ : ByteArray) ++ s), .string ((⟨#[126]⟩ : ByteArray) ++ s), .string ((⟨#[62, 61, 32]⟩ : ByteArray) ++ s), .string ((⟨#[62, 61]⟩ : ByteArray) ++ s), .string (((⟨#[62, 61]⟩ : ByteArray) ++ s) ++ (⟨#[32, 33, 61]⟩ : ByteArray) ++ s), .string ((⟨#[62]⟩ : ByteArray) ++ s), .string (((⟨#[62, 61]⟩ : ByteArray) ++ s) ++ (⟨#[44, 60, 61]⟩ : ByteArray) ++ s), .string ((⟨#[61]⟩ : ByteArray) ++ s)]
def Sgs (w : World) (b : Nat) (s : ByteArray) : Prop := w.heap[b]? = some (.cells (sgCells s) 40 (0, 0))
theorem Sgs.below {w w' : World} {b : Nat} {s : ByteArray} (h : Sgs w b s) (hb : Below w.heap.size w w') : Sgs w' b s := (hb.block _ (blk_lt h)).trans h
theorem Sgs.left {w : World} {b : Nat} {s : ByteArray} (h : Sgs w b s) {i : Nat} (hi : i < 6) : w.cell? ⟨b, i * 2, none⟩ = some (.string (sgL s i)) := by
  rw [blk_cell h]
  match i, hi with
  | 0, _ | 1, _ | 2, _ | 3, _ | 4, _ | 5, _ => rfl
theorem Sgs.right {w : World} {b : Nat} {s : ByteArray} (h : Sgs w b s) {i : Nat} (hi : i < 6) : w.cell? ⟨b, i * 2 + 1, none⟩ = some (.string (sgR s i)) := by
  rw [blk_cell h]
  match i, hi with
  | 0, _ | 1, _ | 2, _ | 3, _ | 4, _ | 5, _ => rfl
theorem lit_tl (l : List UInt8) : (⟨l.toArray⟩ : ByteArray).toList = l := by rw [Lib.toList_data]
theorem cn3_text (o bl : List UInt8) (a m p : Nat) : (cn3 o bl a m p).text = o ++ (bl ++ (text3 a m p).toList) := by
  rw [text3_sg]; rfl
/-- Each pair answers alike. -/
theorem sg_pair (a m p x y z : Nat) (ha : a < 1000) (hm : m < 1000) (hp : p < 1000) (hx : x < 1000) (hy : y < 1000) (hz : z < 1000) (i : Nat) (hi : i < 6) : ∃ b : Bool,
    (∀ W, Calls Tryd.prog 15 #[.string (sgL (text3 a m p) i), .string (text3 x y z)] W fun e w' => e = .returned (.tuple #[.bool b, .bool true]) ∧ Below W.heap.size W w') ∧
    (∀ W, Calls Tryd.prog 15 #[.string (sgR (text3 a m p) i), .string (text3 x y z)] W fun e w' => e = .returned (.tuple #[.bool b, .bool true]) ∧ Below W.heap.size W w') := by
  have lA := dec9 (n := a) (by omega)
  have lM := dec9 (n := m) (by omega)
  have lP := dec9 (n := p) (by omega)
  have zs : (text3 a m p).size ≤ 29 := by rw [text3_size]; omega
  have one : ∀ (o bl : List UInt8) (ho : o ∈ opsLL) (hb : bl = [] ∨ bl = [32]) (s : ByteArray), s.toList = o ++ (bl ++ (text3 a m p).toList) → ∀ W, Calls Tryd.prog 15 #[.string s, .string (text3 x y z)] W fun e w' => e = .returned (.tuple #[.bool (askC x y z (cn3 o bl a m p)), .bool true]) ∧ Below W.heap.size W w' := fun o bl ho hb s hs W =>
    compare_one s (cn3 o bl a m p) (cn3_ok ho hb a m p) (cn3_small (by omega) (by omega) (by omega)) (cn3_dirty ho a m p) (by
      have h1 : o.length ≤ 2 := (show ∀ o ∈ opsLL, o.length ≤ 2 by decide) o ho
      have h2 : bl.length ≤ 1 := by rcases hb with e | e <;> rw [e] <;> decide
      rw [len_eq, hs]; simp only [List.length_append]; rw [← len_eq]; omega) (by rw [hs, cn3_text]) x y z (by omega) (by omega) (by omega) W
  have two : ∀ (j o : List UInt8) (ho : o ∈ opsLL) (hne : o ≠ []) (hj : j = [44] ∨ j = [32]) (s : ByteArray), s.toList = [62, 61] ++ ((text3 a m p).toList ++ (j ++ (o ++ (text3 a m p).toList))) → ∀ W, Calls Tryd.prog 15 #[.string s, .string (text3 x y z)] W fun e w' => e = .returned (.tuple #[.bool (askC x y z (cn3 [62, 61] [] a m p) && askC x y z (cn3 o [] a m p)), .bool true]) ∧ Below W.heap.size W w' := fun j o ho hne hj s hs W => by
    have hG : GOk [([], cn3 [62, 61] [] a m p), (j, cn3 o [] a m p)] := ⟨([], cn3 [62, 61] [] a m p), [(j, cn3 o [] a m p)], rfl, cn3_ok (by decide) (.inl rfl) a m p, cn3_small (by omega) (by omega) (by omega), .inl rfl, fun q hq => by
      rw [List.mem_singleton.1 hq]
      refine ⟨cn3_ok ho (.inl rfl) a m p, cn3_small (by omega) (by omega) (by omega), ?_⟩
      rcases hj with e | e
      · exact .inl e
      · exact .inr (.inr ⟨e, hne⟩)⟩
    have := compare_group s [([], cn3 [62, 61] [] a m p), (j, cn3 o [] a m p)] hG (fun q hq => by
      rcases List.mem_cons.1 hq with e | e
      · rw [e]; exact cn3_dirty (by decide) a m p
      · rw [List.mem_singleton.1 e]; exact cn3_dirty ho a m p) (by
      have h1 : o.length ≤ 2 := (show ∀ o ∈ opsLL, o.length ≤ 2 by decide) o ho
      have h2 : j.length ≤ 1 := by rcases hj with e | e <;> rw [e] <;> decide
      rw [len_eq, hs]; simp only [List.length_append]; rw [← len_eq]; simp; omega) (by
      rw [hs]; unfold gtext; unfold gtext; unfold gtext; rw [cn3_text, cn3_text]; simp) x y z (by omega) (by omega) (by omega) W
    simp only [List.all_cons, List.all_nil, Bool.and_true] at this
    exact this
  match i, hi with
  | 0, _ => exact ⟨askC x y z (cn3 [62, 61] [] a m p), by rw [← sign_ge]; exact one [61, 62] [] (by decide) (.inl rfl) _ (by simp only [sgL]; rw [tl_append, Lib.toList_data]; rfl), one [62, 61] [] (by decide) (.inl rfl) _ (by simp only [sgR]; rw [tl_append, Lib.toList_data]; rfl)⟩
  | 1, _ => exact ⟨askC x y z (cn3 [60, 61] [] a m p), by rw [← sign_le]; exact one [61, 60] [] (by decide) (.inl rfl) _ (by simp only [sgL]; rw [tl_append, Lib.toList_data]; rfl), one [60, 61] [] (by decide) (.inl rfl) _ (by simp only [sgR]; rw [tl_append, Lib.toList_data]; rfl)⟩
  | 2, _ => exact ⟨askC x y z (cn3 [126] [] a m p), by rw [← sign_tilde]; exact one [126, 62] [] (by decide) (.inl rfl) _ (by simp only [sgL]; rw [tl_append, Lib.toList_data]; rfl), one [126] [] (by decide) (.inl rfl) _ (by simp only [sgR]; rw [tl_append, Lib.toList_data]; rfl)⟩
  | 3, _ => exact ⟨askC x y z (cn3 [62, 61] [] a m p), by rw [← sign_ge x y z a m p [], sign_ge x y z a m p [32]]; exact one [62, 61] [32] (by decide) (.inr rfl) _ (by simp only [sgL]; rw [tl_append, Lib.toList_data]; rfl), one [62, 61] [] (by decide) (.inl rfl) _ (by simp only [sgR]; rw [tl_append, Lib.toList_data]; rfl)⟩
  | 4, _ => exact ⟨askC x y z (cn3 [62] [] a m p), by rw [← sign_gt]; exact two [32] [33, 61] (by decide) (by decide) (.inr rfl) _ (by simp only [sgL]; rw [tl_append, tl_append, tl_append, Lib.toList_data (⟨#[62, 61]⟩ : ByteArray), Lib.toList_data (⟨#[32, 33, 61]⟩ : ByteArray)]; simp), one [62] [] (by decide) (.inl rfl) _ (by simp only [sgR]; rw [tl_append, Lib.toList_data]; rfl)⟩
  | 5, _ => exact ⟨askC x y z (cn3 [61] [] a m p), by rw [← sign_eq]; exact two [44] [60, 61] (by decide) (by decide) (.inl rfl) _ (by simp only [sgL]; rw [tl_append, tl_append, tl_append, Lib.toList_data (⟨#[62, 61]⟩ : ByteArray), Lib.toList_data (⟨#[44, 60, 61]⟩ : ByteArray)]; simp), one [61] [] (by decide) (.inl rfl) _ (by simp only [sgR]; rw [tl_append, Lib.toList_data]; rfl)⟩
set_option maxHeartbeats 8000000 in
theorem laws_FnRangeSigns.walk (_P : True) (a0 a1 a2 a3 a4 a5 : Int) (w : World) (w0 : (Lit.int .u16 a0).wf = true) (w1 : (Lit.int .u16 a1).wf = true) (w2 : (Lit.int .u16 a2).wf = true) (w3 : (Lit.int .u16 a3).wf = true) (w4 : (Lit.int .u16 a4).wf = true) (w5 : (Lit.int .u16 a5).wf = true) :
    Calls Tryd.prog 7 #[.int .u16 a0, .int .u16 a1, .int .u16 a2, .int .u16 a3, .int .u16 a4, .int .u16 a5] w fun e w' => e = .returned (.bool true) ∧ Below w.heap.size w w' := by
  obtain ⟨A, M, P, hA, hM, hP, HW⟩ := v16_call a0 a1 a2 w0 w1 w2
  obtain ⟨x, y, z, hx, hy, hz, HV⟩ := v16_call a3 a4 a5 w3 w4 w5
  have HW1 := Lib.hid HW
  have HV1 := Lib.hid HV
  obtain ⟨s, hs⟩ : ∃ s, s = text3 A M P := ⟨_, rfl⟩
  obtain ⟨t, ht⟩ : ∃ s, s = text3 x y z := ⟨_, rfl⟩
  have HT1 : Hid (∀ W, Calls Tryd.prog 9 #[.agg #[.int .u64 (A : Int), .int .u64 (M : Int), .int .u64 (P : Int), .string ⟨#[]⟩, .string ⟨#[]⟩]] W fun e w' => e = .returned (.string s) ∧ Below W.heap.size W w') := Lib.hid fun W => by rw [hs]; exact textOf_walk A M P (by omega) (by omega) (by omega) W
  have HT2 : Hid (∀ W, Calls Tryd.prog 9 #[.agg #[.int .u64 (x : Int), .int .u64 (y : Int), .int .u64 (z : Int), .string ⟨#[]⟩, .string ⟨#[]⟩]] W fun e w' => e = .returned (.string t) ∧ Below W.heap.size W w') := Lib.hid fun W => by rw [ht]; exact textOf_walk x y z (by omega) (by omega) (by omega) W
  have lA := dec9 (n := A) (by omega)
  have lM := dec9 (n := M) (by omega)
  have lP := dec9 (n := P) (by omega)
  have HP : Hid (∀ i, i < 6 → ∃ b : Bool, (∀ W, Calls Tryd.prog 15 #[.string (sgL s i), .string t] W fun e w' => e = .returned (.tuple #[.bool b, .bool true]) ∧ Below W.heap.size W w') ∧ (∀ W, Calls Tryd.prog 15 #[.string (sgR s i), .string t] W fun e w' => e = .returned (.tuple #[.bool b, .bool true]) ∧ Below W.heap.size W w')) := Lib.hid (by rw [hs, ht]; exact sg_pair A M P x y z hA hM hP hx hy hz)
  have zs : s.size ≤ 29 := by rw [hs, text3_size]; omega
  have z1 : (9223372036854775807 < 1 + s.size) = False := eq_false (by omega)
  have z2 : (9223372036854775807 < 2 + s.size) = False := eq_false (by omega)
  have z3 : (9223372036854775807 < 3 + s.size) = False := eq_false (by omega)
  have z5 : (9223372036854775807 < 2 + s.size + 3) = False := eq_false (by omega)
  have z6 : (9223372036854775807 < 2 + s.size + 3 + s.size) = False := eq_false (by omega)
  clear HW HV w0 w1 w2 w3 w4 w5
  clear hs ht lA lM lP hA hM hP hx hy hz
  go_enter Tryd.func7, Tryd.ntmps7
  go_wp2_with fail
  refine (HW1.out _).mono ?_
  rintro e w1 ⟨rfl, hb1⟩
  go_wp2_with fail
  refine (HT1.out _).mono ?_
  rintro e w2 ⟨rfl, hb2⟩
  go_wp2_with fail
  refine (HV1.out _).mono ?_
  rintro e w3 ⟨rfl, hb3⟩
  go_wp2_with fail
  refine (HT2.out _).mono ?_
  rintro e w4 ⟨rfl, hb4⟩
  have HB4 := Lib.hid (hb1.trans ((hb2.trans ((hb3.trans (hb4.mono hb3.size)).mono hb2.size)).mono hb1.size))
  clear hb1 hb2 hb3 hb4 HW1 HT1 HV1 HT2
  go_wp2_with fail
  obtain ⟨b, hb⟩ : ∃ b, b = w4.heap.size := ⟨_, rfl⟩
  have hQ : Sgs (w4.alloc (.cells (sgCells s) 40)) b s := by rw [hb]; exact heap_alloc_new w4 _
  have hB5 : Below w.heap.size w (w4.alloc (.cells (sgCells s) 40)) := HB4.out.alloc HB4.out.size _
  rw [← hb]
  have HQ := Lib.hid hQ
  have HB5 := Lib.hid hB5
  clear hQ hB5 hb HB4
  go_loopg [16, 17, 18, 19, 20] 6 (fun kq v16 v17 v18 v19 v20 wr => ∃ (i : Nat) (x17 x18 x19 x20 : Value), v16 = .int .i64 (i : Int) ∧ v17 = x17 ∧ v18 = x18 ∧ v19 = x19 ∧ v20 = x20 ∧ i + kq = 6 ∧ Hid (Sgs wr b s) ∧ Hid (Below w.heap.size w wr))
  case atStart => exact ⟨0, _, _, _, _, rfl, rfl, rfl, rfl, rfl, rfl, HQ, HB5⟩
  case round =>
    obtain ⟨i, x17, x18, x19, x20, rfl, rfl, rfl, rfl, rfl, hik, HQ, HB⟩ := hrel
    cases gk with
    | zero =>
      have hd : decide ((i : Int) < 6) = false := by simp; omega
      have hd' : decide (i < 6) = false := by simp; omega
      go_wp2_with fail
      go_ret
      exact ⟨rfl, HB.out⟩
    | succ m =>
      have hi : i < 6 := by omega
      have hd : decide ((i : Int) < 6) = true := by simp; omega
      have hd' : decide (i < 6) = true := by simp; omega
      obtain ⟨bb, h1, h2⟩ := HP.out i hi
      have H1 := Lib.hid h1
      have H2 := Lib.hid h2
      have u0 := HQ.out.left hi
      clear h1 h2
      go_wp2_with fail
      refine (H1.out _).mono ?_
      rintro e w7 ⟨rfl, hb7⟩
      have HQ7 := Lib.hid (HQ.out.below (hb7))
      have HB7 := Lib.hid (HB.out.trans (hb7.mono HB.out.size))
      have u1 := HQ7.out.right hi
      clear hb7 u0
      go_wp2_with fail
      refine (H2.out _).mono ?_
      rintro e w8 ⟨rfl, hb8⟩
      have HQ8 := Lib.hid (HQ7.out.below (hb8))
      have HB8 := Lib.hid (HB7.out.trans (hb8.mono HB7.out.size))
      clear hb8 u1
      have hbb : (bb != bb) = false := by cases bb <;> rfl
      go_wp2_with fail
      go_roundg m
      case measure => exact Nat.lt_succ_self m
      case rel => exact ⟨i + 1, _, _, _, _, by simp, rfl, rfl, rfl, rfl, by omega, HQ8, HB8⟩
end Go.Proofs.YtmoilbhkjmhoaaaDoor.PFnRangeSigns
