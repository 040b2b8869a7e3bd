/- FnCastText: the law's walk. Printed by gen_ctext.py. -/
import Derived.Test.YtakogidcjjmihaaDoorCForm
namespace Go.Proofs.YtakogidcjjmihaaDoor.Pure
/-- Nothing more is asked. -/
theorem FnCastText : True := trivial
end Go.Proofs.YtakogidcjjmihaaDoor.Pure
namespace Go.Proofs.YtakogidcjjmihaaDoor.Pu
open Go.RowKit Go.Proofs.YtakogidcjjmihaaDoorW.PrintWords Go.Proofs.YtakogidcjjmihaaDoor.Txt
set_option linter.unusedVariables false
set_option linter.unusedSimpArgs false
set_option maxRecDepth 100000
theorem ne_empty {l : List UInt8} (h : l ≠ []) : (ba l).toList.isEmpty = false := by
  rw [ba_tl]; cases l with | nil => exact absurd rfl h | cons a b => rfl
/-- What impl.ToInt and impl.ToInt64 answer of a text. -/
def Casts (s : ByteArray) (v : Int) : Prop := (∀ W, Calls Tryd.prog 5 #[txV s] W fun e w' => e = .returned (.int .i64 v) ∧ Below W.heap.size W w') ∧ (∀ W, Calls Tryd.prog 6 #[txV s] W fun e w' => e = .returned (.int .i64 v) ∧ Below W.heap.size W w')
theorem FormOk.casts {s u : List UInt8} {n : Nat} (h : FormOk s u n) (hn : n < 18014398509481984) : Casts (ba s) (n : Int) := by
  have hp := List.length_pos_iff.2 h.une
  have hp' : 0 < (ba u).size := by rw [ba_size]; exact hp
  have PI : ∀ W, Calls Tryd.prog 24 #[.string (ba u), .int .i64 0, .int .i64 0] W (Says W (.int .i64 (n : Int))) := fun W => pub_int _ _ _ _ (fun W => pint_pos (ba u) 0 0 (.inl rfl) hp' (h.head hp) n hn h.pu W) W
  exact ⟨fun W => implTo_int _ (ne_empty h.ne) _ (fun W => parseInt_int _ _ _ h.trim PI W) (i64w _ (by omega) (by omega)) W, fun W => implTo_int64 _ (ne_empty h.ne) _ (fun W => parseInt_int64 _ _ _ h.trim PI W) (i64w _ (by omega) (by omega)) W⟩
theorem FormOk.castsN {s u : List UInt8} {n : Nat} (h : FormOk s u n) (hn : n < 18014398509481984) : Casts (ba (45 :: s)) (-(n : Int)) := by
  have PI : ∀ W, Calls Tryd.prog 24 #[.string (ba (45 :: u)), .int .i64 0, .int .i64 0] W (Says W (.int .i64 (-(n : Int)))) := fun W => pub_int _ _ _ _ (fun W => pint_neg (ba (45 :: u)) (ba u) 0 0 (.inl rfl) (by rw [ba_tl, ba_tl]) n hn h.pu W) W
  exact ⟨fun W => implTo_int _ (ne_empty (by simp)) _ (fun W => parseInt_int _ _ _ h.trimN PI W) (i64w _ (by omega) (by omega)) W, fun W => implTo_int64 _ (ne_empty (by simp)) _ (fun W => parseInt_int64 _ _ _ h.trimN PI W) (i64w _ (by omega) (by omega)) W⟩
end Go.Proofs.YtakogidcjjmihaaDoor.Pu
namespace Go.Proofs.YtakogidcjjmihaaDoor.PFnCastText
open Go.RowKit Go.Proofs.YtakogidcjjmihaaDoorW.PrintWords Go.Proofs.YtakogidcjjmihaaDoor.Txt Go.Proofs.YtakogidcjjmihaaDoor.Pu
set_option linter.unusedVariables false
set_option linter.unusedSimpArgs false
set_option maxRecDepth 100000
set_option maxHeartbeats 8000000 in
theorem laws_FnCastText.walk (_P : True) (a0 a1 : Int) (a2 : Bool) (w : World) (w0 : (Lit.int .u64 a0).wf = true) (w1 : (Lit.int .u8 a1).wf = true) :
    Calls Tryd.prog 3 #[.int .u64 a0, .int .u8 a1, .bool a2] w fun e w' => e = .returned (.bool true) ∧ Below w.heap.size w w' := by
  obtain ⟨n, rfl⟩ : ∃ n : Nat, a0 = (n : Int) := ⟨a0.toNat, by
    have h : 0 ≤ a0 := by
      simp [Lit.wf] at w0
      have e : IntKind.u64.min = 0 := by decide
      omega
    omega⟩
  have hf : 0 ≤ a1 ∧ a1 ≤ 255 := by
    simp [Lit.wf] at w1
    have e : IntKind.u8.min = 0 := by decide
    have e2 : IntKind.u8.max = 255 := by decide
    omega
  clear w0 w1
  by_cases hbig : 9007199254740992 ≤ n
  · have h1 : (9007199254740992 : Int) ≤ (n : Int) := by omega
    go_enter Tryd.func3, Tryd.ntmps3
    go_wp2_with fail
    go_ret
    exact ⟨rfl, Below.refl _ _⟩
  have h1 : ((9007199254740992 : Int) ≤ (n : Int)) = False := eq_false (by omega)
  have h2 : (9007199254740992 ≤ n) = False := eq_false (by omega)
  have hn : n < 18014398509481984 := by omega
  have B10 : Hid (∀ W, Calls Tryd.prog 4 #[.int .u64 (n : Int), .int .u64 10] W fun e w' => e = .returned (.string (ba (digs 10 n))) ∧ Below W.heap.size W w') := Lib.hid fun W => base7_call 10 n (by decide) (by decide) hn W
  have B16 : Hid (∀ W, Calls Tryd.prog 4 #[.int .u64 (n : Int), .int .u64 16] W fun e w' => e = .returned (.string (ba (digs 16 n))) ∧ Below W.heap.size W w') := Lib.hid fun W => base7_call 16 n (by decide) (by decide) hn W
  have B8 : Hid (∀ W, Calls Tryd.prog 4 #[.int .u64 (n : Int), .int .u64 8] W fun e w' => e = .returned (.string (ba (digs 8 n))) ∧ Below W.heap.size W w') := Lib.hid fun W => base7_call 8 n (by decide) (by decide) hn W
  have B2 : Hid (∀ W, Calls Tryd.prog 4 #[.int .u64 (n : Int), .int .u64 2] W fun e w' => e = .returned (.string (ba (digs 2 n))) ∧ Below W.heap.size W w') := Lib.hid fun W => base7_call 2 n (by decide) (by decide) hn W
  have hz : ∀ b, 2 ≤ b → (ba (digs b n)).size ≤ 55 := fun b hb => by rw [ba_size]; exact digs_len b hb 54 n (by omega)
  have hz10 := hz 10 (by decide)
  have hz16 := hz 16 (by decide)
  have hz8 := hz 8 (by decide)
  have hz2 := hz 2 (by decide)
  have c1 : (9223372036854775807 < 2 + (ba (digs 16 n)).size) = False := eq_false (by omega)
  have c2 : (9223372036854775807 < 2 + (ba (digs 8 n)).size) = False := eq_false (by omega)
  have c3 : (9223372036854775807 < 2 + (ba (digs 2 n)).size) = False := eq_false (by omega)
  have c4 : (9223372036854775807 < 1 + (ba (digs 8 n)).size) = False := eq_false (by omega)
  have c5 : (9223372036854775807 < (ba (digs 10 n)).size + 3) = False := eq_false (by omega)
  have F7 := (form_dec 7 (by decide)).casts (by decide)
  have e7 : digs 10 7 = [55] := by rw [digs_small (by decide)]; rfl
  rw [e7] at F7
  have HF7 := Lib.hid F7.1
  have HNN := Lib.hid hn
  have hi := i64w (n : Int) (by omega) (by omega)
  have hj := i64w (-(n : Int)) (by omega) (by omega)
  obtain ⟨r, hr⟩ : ∃ r : Nat, r = (a1.tmod 6).toNat := ⟨_, rfl⟩
  have hr6 : r < 6 ∧ a1.tmod 6 = (r : Int) := by
    rw [hr, Int.tmod_eq_emod_of_nonneg hf.1]; omega
  have hr7 : a1 % 6 = (r : Int) := by rw [← hr6.2, Int.tmod_eq_emod_of_nonneg hf.1]
  obtain ⟨hr6, hr8⟩ := hr6
  have hsf : ∀ (W : World) (a : Addr), (store a (.float .f64 0)).run Tryd.prog W = stored Tryd.prog W a (.float .f64 0) .plain := fun W a => run_store _ W a _ _ rfl
  have hwr : wrap64 a1 = a1 := w64 (by omega) (by omega)
  clear hz hz10 hz16 hz8 hz2 F7 e7 hbig hr hn hf
  rcases (by omega : r = 0 ∨ r = 1 ∨ r = 2 ∨ r = 3 ∨ r = 4 ∨ r = 5) with rfl | rfl | rfl | rfl | rfl | rfl
  · have e1 : (ba (digs 10 n)) = ba (digs 10 n) := by first | rfl | exact ba_app _ _
    have HCP : Hid (Casts (ba (digs 10 n)) (n : Int)) := Lib.hid (by rw [e1]; exact (form_dec n HNN.out).casts HNN.out)
    have HCN : Hid (Casts (⟨#[45]⟩ ++ (ba (digs 10 n))) (-(n : Int))) := Lib.hid (by rw [e1, show (⟨#[45]⟩ : ByteArray) ++ ba (digs 10 n) = ba (45 :: (digs 10 n)) from ba_app [45] _]; exact (form_dec n HNN.out).castsN HNN.out)
    have c6 : (9223372036854775807 < 1 + (ba (digs 10 n)).size) = False := eq_false (by rw [e1, ba_size]; have := (form_dec n HNN.out).len; omega)
    have c7 : (9223372036854775807 < 1 + (ba (digs 10 n)).size) = False := eq_false (by have h := digs_len 10 (by decide) 54 n (by have := HNN.out; omega); rw [ba_size]; omega)
    clear e1
    have hr9 : a1.tmod 6 = 0 := hr8
    clear hr8 hr7 hr6
    have HB0 := Lib.hid (Below.refl w.heap.size w)
    go_enter Tryd.func3, Tryd.ntmps3
    go_wp2_with fail
    refine (B10.out _).mono ?_
    rintro e w1 ⟨rfl, hb1⟩
    have HB1 := Lib.hid (HB0.out.trans (hb1.mono HB0.out.size))
    clear hb1
    go_wp2_with fail
    refine (B16.out _).mono ?_
    rintro e w2 ⟨rfl, hb2⟩
    have HB2 := Lib.hid (HB1.out.trans (hb2.mono HB1.out.size))
    clear hb2
    go_wp2_with fail
    refine (B8.out _).mono ?_
    rintro e w3 ⟨rfl, hb3⟩
    have HB3 := Lib.hid (HB2.out.trans (hb3.mono HB2.out.size))
    clear hb3
    go_wp2_with fail
    refine (B2.out _).mono ?_
    rintro e w4 ⟨rfl, hb4⟩
    have HB4 := Lib.hid (HB3.out.trans (hb4.mono HB3.out.size))
    clear hb4
    go_wp2_with fail
    refine (B8.out _).mono ?_
    rintro e w5 ⟨rfl, hb5⟩
    have HB5 := Lib.hid (HB4.out.trans (hb5.mono HB4.out.size))
    clear hb5
    go_wp2_with fail
    refine (B10.out _).mono ?_
    rintro e w6 ⟨rfl, hb6⟩
    have HB6 := Lib.hid (HB5.out.trans (hb6.mono HB5.out.size))
    clear hb6
    cases a2 with
    | false =>
      go_wp2_with fail
      refine (HCP.out.1 _).mono ?_
      rintro e w7 ⟨rfl, hb7⟩
      have k0 : w7.cell? ⟨w6.heap.size + 1, 0, none⟩ = some (.int .i64 5) := (hb7.cell (p := ⟨w6.heap.size + 1, 0, none⟩) (by simp)).trans (by simp)
      have k1 : w7.cell? ⟨w6.heap.size + 1, 1, none⟩ = some (.int .i64 0) := (hb7.cell (p := ⟨w6.heap.size + 1, 1, none⟩) (by simp)).trans (by simp)
      have k2 : w7.cell? ⟨w6.heap.size + 1, 2, none⟩ = some (.float .f64 0) := (hb7.cell (p := ⟨w6.heap.size + 1, 2, none⟩) (by simp)).trans (by simp)
      have k3 : w7.cell? ⟨w6.heap.size + 1, 3, none⟩ = some (.string (ba (digs 10 n))) := (hb7.cell (p := ⟨w6.heap.size + 1, 3, none⟩) (by simp)).trans (by simp)
      have k4 : w7.cell? ⟨w6.heap.size + 1, 4, none⟩ = some (.slice none 0 0) := (hb7.cell (p := ⟨w6.heap.size + 1, 4, none⟩) (by simp)).trans (by simp)
      have k5 : w7.cell? ⟨w6.heap.size + 1, 5, none⟩ = some (.slice none 0 0) := (hb7.cell (p := ⟨w6.heap.size + 1, 5, none⟩) (by simp)).trans (by simp)
      have HB7 : Hid (Below w.heap.size w w7) := Lib.hid (Below.trans ((HB6.out.alloc HB6.out.size _).alloc (by have := HB6.out.size; rw [World.size_alloc]; omega) _) (hb7.mono (by have := HB6.out.size; simp only [World.size_alloc]; omega)))
      clear hb7
      go_wp2_with fail
      refine (HCP.out.2 _).mono ?_
      rintro e w8 ⟨rfl, hb8⟩
      have HB8 := Lib.hid (HB7.out.trans (hb8.mono HB7.out.size))
      clear hb8 k0 k1 k2 k3 k4 k5
      go_wp2_with fail
      refine (HF7.out _).mono ?_
      rintro e w9 ⟨rfl, hb9⟩
      have HB9 := Lib.hid (HB8.out.trans (hb9.mono HB8.out.size))
      clear hb9
      go_wp2_with fail
      go_ret
      exact ⟨rfl, HB9.out⟩
    | true =>
      by_cases hp : 0 < n
      · have hp1 : (0 : Int) < (n : Int) := by omega
        go_wp2_with fail
        refine (HCN.out.1 _).mono ?_
        rintro e w7 ⟨rfl, hb7⟩
        have k0 : w7.cell? ⟨w6.heap.size + 1, 0, none⟩ = some (.int .i64 5) := (hb7.cell (p := ⟨w6.heap.size + 1, 0, none⟩) (by simp)).trans (by simp)
        have k1 : w7.cell? ⟨w6.heap.size + 1, 1, none⟩ = some (.int .i64 0) := (hb7.cell (p := ⟨w6.heap.size + 1, 1, none⟩) (by simp)).trans (by simp)
        have k2 : w7.cell? ⟨w6.heap.size + 1, 2, none⟩ = some (.float .f64 0) := (hb7.cell (p := ⟨w6.heap.size + 1, 2, none⟩) (by simp)).trans (by simp)
        have k3 : w7.cell? ⟨w6.heap.size + 1, 3, none⟩ = some (.string (⟨#[45]⟩ ++ (ba (digs 10 n)))) := (hb7.cell (p := ⟨w6.heap.size + 1, 3, none⟩) (by simp)).trans (by simp)
        have k4 : w7.cell? ⟨w6.heap.size + 1, 4, none⟩ = some (.slice none 0 0) := (hb7.cell (p := ⟨w6.heap.size + 1, 4, none⟩) (by simp)).trans (by simp)
        have k5 : w7.cell? ⟨w6.heap.size + 1, 5, none⟩ = some (.slice none 0 0) := (hb7.cell (p := ⟨w6.heap.size + 1, 5, none⟩) (by simp)).trans (by simp)
        have HB7 : Hid (Below w.heap.size w w7) := Lib.hid (Below.trans ((HB6.out.alloc HB6.out.size _).alloc (by have := HB6.out.size; rw [World.size_alloc]; omega) _) (hb7.mono (by have := HB6.out.size; simp only [World.size_alloc]; omega)))
        clear hb7
        go_wp2_with fail
        refine (HCN.out.2 _).mono ?_
        rintro e w8 ⟨rfl, hb8⟩
        have HB8 := Lib.hid (HB7.out.trans (hb8.mono HB7.out.size))
        clear hb8 k0 k1 k2 k3 k4 k5
        go_wp2_with fail
        refine (HF7.out _).mono ?_
        rintro e w9 ⟨rfl, hb9⟩
        have HB9 := Lib.hid (HB8.out.trans (hb9.mono HB8.out.size))
        clear hb9
        go_wp2_with fail
        go_ret
        exact ⟨rfl, HB9.out⟩
      · have hp1 : ((0 : Int) < (n : Int)) = False := eq_false (by omega)
        go_wp2_with fail
        refine (HCP.out.1 _).mono ?_
        rintro e w7 ⟨rfl, hb7⟩
        have k0 : w7.cell? ⟨w6.heap.size + 1, 0, none⟩ = some (.int .i64 5) := (hb7.cell (p := ⟨w6.heap.size + 1, 0, none⟩) (by simp)).trans (by simp)
        have k1 : w7.cell? ⟨w6.heap.size + 1, 1, none⟩ = some (.int .i64 0) := (hb7.cell (p := ⟨w6.heap.size + 1, 1, none⟩) (by simp)).trans (by simp)
        have k2 : w7.cell? ⟨w6.heap.size + 1, 2, none⟩ = some (.float .f64 0) := (hb7.cell (p := ⟨w6.heap.size + 1, 2, none⟩) (by simp)).trans (by simp)
        have k3 : w7.cell? ⟨w6.heap.size + 1, 3, none⟩ = some (.string (ba (digs 10 n))) := (hb7.cell (p := ⟨w6.heap.size + 1, 3, none⟩) (by simp)).trans (by simp)
        have k4 : w7.cell? ⟨w6.heap.size + 1, 4, none⟩ = some (.slice none 0 0) := (hb7.cell (p := ⟨w6.heap.size + 1, 4, none⟩) (by simp)).trans (by simp)
        have k5 : w7.cell? ⟨w6.heap.size + 1, 5, none⟩ = some (.slice none 0 0) := (hb7.cell (p := ⟨w6.heap.size + 1, 5, none⟩) (by simp)).trans (by simp)
        have HB7 : Hid (Below w.heap.size w w7) := Lib.hid (Below.trans ((HB6.out.alloc HB6.out.size _).alloc (by have := HB6.out.size; rw [World.size_alloc]; omega) _) (hb7.mono (by have := HB6.out.size; simp only [World.size_alloc]; omega)))
        clear hb7
        go_wp2_with fail
        refine (HCP.out.2 _).mono ?_
        rintro e w8 ⟨rfl, hb8⟩
        have HB8 := Lib.hid (HB7.out.trans (hb8.mono HB7.out.size))
        clear hb8 k0 k1 k2 k3 k4 k5
        go_wp2_with fail
        refine (HF7.out _).mono ?_
        rintro e w9 ⟨rfl, hb9⟩
        have HB9 := Lib.hid (HB8.out.trans (hb9.mono HB8.out.size))
        clear hb9
        go_wp2_with fail
        go_ret
        exact ⟨rfl, HB9.out⟩
  · have e1 : (⟨#[48, 120]⟩ ++ ba (digs 16 n)) = ba (48 :: 120 :: digs 16 n) := by first | rfl | exact ba_app _ _
    have HCP : Hid (Casts (⟨#[48, 120]⟩ ++ ba (digs 16 n)) (n : Int)) := Lib.hid (by rw [e1]; exact (form_hex n HNN.out).casts HNN.out)
    have HCN : Hid (Casts (⟨#[45]⟩ ++ (⟨#[48, 120]⟩ ++ ba (digs 16 n))) (-(n : Int))) := Lib.hid (by rw [e1, show (⟨#[45]⟩ : ByteArray) ++ ba (48 :: 120 :: digs 16 n) = ba (45 :: (48 :: 120 :: digs 16 n)) from ba_app [45] _]; exact (form_hex n HNN.out).castsN HNN.out)
    have c6 : (9223372036854775807 < 1 + (⟨#[48, 120]⟩ ++ ba (digs 16 n)).size) = False := eq_false (by rw [e1, ba_size]; have := (form_hex n HNN.out).len; omega)
    have c7 : (9223372036854775807 < 1 + (2 + (ba (digs 16 n)).size)) = False := eq_false (by have h := digs_len 16 (by decide) 54 n (by have := HNN.out; omega); rw [ba_size]; omega)
    clear e1
    have hr9 : a1.tmod 6 = 1 := hr8
    clear hr8 hr7 hr6
    have HB0 := Lib.hid (Below.refl w.heap.size w)
    go_enter Tryd.func3, Tryd.ntmps3
    go_wp2_with fail
    refine (B10.out _).mono ?_
    rintro e w1 ⟨rfl, hb1⟩
    have HB1 := Lib.hid (HB0.out.trans (hb1.mono HB0.out.size))
    clear hb1
    go_wp2_with fail
    refine (B16.out _).mono ?_
    rintro e w2 ⟨rfl, hb2⟩
    have HB2 := Lib.hid (HB1.out.trans (hb2.mono HB1.out.size))
    clear hb2
    go_wp2_with fail
    refine (B8.out _).mono ?_
    rintro e w3 ⟨rfl, hb3⟩
    have HB3 := Lib.hid (HB2.out.trans (hb3.mono HB2.out.size))
    clear hb3
    go_wp2_with fail
    refine (B2.out _).mono ?_
    rintro e w4 ⟨rfl, hb4⟩
    have HB4 := Lib.hid (HB3.out.trans (hb4.mono HB3.out.size))
    clear hb4
    go_wp2_with fail
    refine (B8.out _).mono ?_
    rintro e w5 ⟨rfl, hb5⟩
    have HB5 := Lib.hid (HB4.out.trans (hb5.mono HB4.out.size))
    clear hb5
    go_wp2_with fail
    refine (B10.out _).mono ?_
    rintro e w6 ⟨rfl, hb6⟩
    have HB6 := Lib.hid (HB5.out.trans (hb6.mono HB5.out.size))
    clear hb6
    cases a2 with
    | false =>
      go_wp2_with fail
      refine (HCP.out.1 _).mono ?_
      rintro e w7 ⟨rfl, hb7⟩
      have k0 : w7.cell? ⟨w6.heap.size + 1, 0, none⟩ = some (.int .i64 5) := (hb7.cell (p := ⟨w6.heap.size + 1, 0, none⟩) (by simp)).trans (by simp)
      have k1 : w7.cell? ⟨w6.heap.size + 1, 1, none⟩ = some (.int .i64 0) := (hb7.cell (p := ⟨w6.heap.size + 1, 1, none⟩) (by simp)).trans (by simp)
      have k2 : w7.cell? ⟨w6.heap.size + 1, 2, none⟩ = some (.float .f64 0) := (hb7.cell (p := ⟨w6.heap.size + 1, 2, none⟩) (by simp)).trans (by simp)
      have k3 : w7.cell? ⟨w6.heap.size + 1, 3, none⟩ = some (.string (⟨#[48, 120]⟩ ++ ba (digs 16 n))) := (hb7.cell (p := ⟨w6.heap.size + 1, 3, none⟩) (by simp)).trans (by simp)
      have k4 : w7.cell? ⟨w6.heap.size + 1, 4, none⟩ = some (.slice none 0 0) := (hb7.cell (p := ⟨w6.heap.size + 1, 4, none⟩) (by simp)).trans (by simp)
      have k5 : w7.cell? ⟨w6.heap.size + 1, 5, none⟩ = some (.slice none 0 0) := (hb7.cell (p := ⟨w6.heap.size + 1, 5, none⟩) (by simp)).trans (by simp)
      have HB7 : Hid (Below w.heap.size w w7) := Lib.hid (Below.trans ((HB6.out.alloc HB6.out.size _).alloc (by have := HB6.out.size; rw [World.size_alloc]; omega) _) (hb7.mono (by have := HB6.out.size; simp only [World.size_alloc]; omega)))
      clear hb7
      go_wp2_with fail
      refine (HCP.out.2 _).mono ?_
      rintro e w8 ⟨rfl, hb8⟩
      have HB8 := Lib.hid (HB7.out.trans (hb8.mono HB7.out.size))
      clear hb8 k0 k1 k2 k3 k4 k5
      go_wp2_with fail
      refine (HF7.out _).mono ?_
      rintro e w9 ⟨rfl, hb9⟩
      have HB9 := Lib.hid (HB8.out.trans (hb9.mono HB8.out.size))
      clear hb9
      go_wp2_with fail
      go_ret
      exact ⟨rfl, HB9.out⟩
    | true =>
      by_cases hp : 0 < n
      · have hp1 : (0 : Int) < (n : Int) := by omega
        go_wp2_with fail
        refine (HCN.out.1 _).mono ?_
        rintro e w7 ⟨rfl, hb7⟩
        have k0 : w7.cell? ⟨w6.heap.size + 1, 0, none⟩ = some (.int .i64 5) := (hb7.cell (p := ⟨w6.heap.size + 1, 0, none⟩) (by simp)).trans (by simp)
        have k1 : w7.cell? ⟨w6.heap.size + 1, 1, none⟩ = some (.int .i64 0) := (hb7.cell (p := ⟨w6.heap.size + 1, 1, none⟩) (by simp)).trans (by simp)
        have k2 : w7.cell? ⟨w6.heap.size + 1, 2, none⟩ = some (.float .f64 0) := (hb7.cell (p := ⟨w6.heap.size + 1, 2, none⟩) (by simp)).trans (by simp)
        have k3 : w7.cell? ⟨w6.heap.size + 1, 3, none⟩ = some (.string (⟨#[45]⟩ ++ (⟨#[48, 120]⟩ ++ ba (digs 16 n)))) := (hb7.cell (p := ⟨w6.heap.size + 1, 3, none⟩) (by simp)).trans (by simp)
        have k4 : w7.cell? ⟨w6.heap.size + 1, 4, none⟩ = some (.slice none 0 0) := (hb7.cell (p := ⟨w6.heap.size + 1, 4, none⟩) (by simp)).trans (by simp)
        have k5 : w7.cell? ⟨w6.heap.size + 1, 5, none⟩ = some (.slice none 0 0) := (hb7.cell (p := ⟨w6.heap.size + 1, 5, none⟩) (by simp)).trans (by simp)
        have HB7 : Hid (Below w.heap.size w w7) := Lib.hid (Below.trans ((HB6.out.alloc HB6.out.size _).alloc (by have := HB6.out.size; rw [World.size_alloc]; omega) _) (hb7.mono (by have := HB6.out.size; simp only [World.size_alloc]; omega)))
        clear hb7
        go_wp2_with fail
        refine (HCN.out.2 _).mono ?_
        rintro e w8 ⟨rfl, hb8⟩
        have HB8 := Lib.hid (HB7.out.trans (hb8.mono HB7.out.size))
        clear hb8 k0 k1 k2 k3 k4 k5
        go_wp2_with fail
        refine (HF7.out _).mono ?_
        rintro e w9 ⟨rfl, hb9⟩
        have HB9 := Lib.hid (HB8.out.trans (hb9.mono HB8.out.size))
        clear hb9
        go_wp2_with fail
        go_ret
        exact ⟨rfl, HB9.out⟩
      · have hp1 : ((0 : Int) < (n : Int)) = False := eq_false (by omega)
        go_wp2_with fail
        refine (HCP.out.1 _).mono ?_
        rintro e w7 ⟨rfl, hb7⟩
        have k0 : w7.cell? ⟨w6.heap.size + 1, 0, none⟩ = some (.int .i64 5) := (hb7.cell (p := ⟨w6.heap.size + 1, 0, none⟩) (by simp)).trans (by simp)
        have k1 : w7.cell? ⟨w6.heap.size + 1, 1, none⟩ = some (.int .i64 0) := (hb7.cell (p := ⟨w6.heap.size + 1, 1, none⟩) (by simp)).trans (by simp)
        have k2 : w7.cell? ⟨w6.heap.size + 1, 2, none⟩ = some (.float .f64 0) := (hb7.cell (p := ⟨w6.heap.size + 1, 2, none⟩) (by simp)).trans (by simp)
        have k3 : w7.cell? ⟨w6.heap.size + 1, 3, none⟩ = some (.string (⟨#[48, 120]⟩ ++ ba (digs 16 n))) := (hb7.cell (p := ⟨w6.heap.size + 1, 3, none⟩) (by simp)).trans (by simp)
        have k4 : w7.cell? ⟨w6.heap.size + 1, 4, none⟩ = some (.slice none 0 0) := (hb7.cell (p := ⟨w6.heap.size + 1, 4, none⟩) (by simp)).trans (by simp)
        have k5 : w7.cell? ⟨w6.heap.size + 1, 5, none⟩ = some (.slice none 0 0) := (hb7.cell (p := ⟨w6.heap.size + 1, 5, none⟩) (by simp)).trans (by simp)
        have HB7 : Hid (Below w.heap.size w w7) := Lib.hid (Below.trans ((HB6.out.alloc HB6.out.size _).alloc (by have := HB6.out.size; rw [World.size_alloc]; omega) _) (hb7.mono (by have := HB6.out.size; simp only [World.size_alloc]; omega)))
        clear hb7
        go_wp2_with fail
        refine (HCP.out.2 _).mono ?_
        rintro e w8 ⟨rfl, hb8⟩
        have HB8 := Lib.hid (HB7.out.trans (hb8.mono HB7.out.size))
        clear hb8 k0 k1 k2 k3 k4 k5
        go_wp2_with fail
        refine (HF7.out _).mono ?_
        rintro e w9 ⟨rfl, hb9⟩
        have HB9 := Lib.hid (HB8.out.trans (hb9.mono HB8.out.size))
        clear hb9
        go_wp2_with fail
        go_ret
        exact ⟨rfl, HB9.out⟩
  · have e1 : (⟨#[48, 111]⟩ ++ ba (digs 8 n)) = ba (48 :: 111 :: digs 8 n) := by first | rfl | exact ba_app _ _
    have HCP : Hid (Casts (⟨#[48, 111]⟩ ++ ba (digs 8 n)) (n : Int)) := Lib.hid (by rw [e1]; exact (form_oct n HNN.out).casts HNN.out)
    have HCN : Hid (Casts (⟨#[45]⟩ ++ (⟨#[48, 111]⟩ ++ ba (digs 8 n))) (-(n : Int))) := Lib.hid (by rw [e1, show (⟨#[45]⟩ : ByteArray) ++ ba (48 :: 111 :: digs 8 n) = ba (45 :: (48 :: 111 :: digs 8 n)) from ba_app [45] _]; exact (form_oct n HNN.out).castsN HNN.out)
    have c6 : (9223372036854775807 < 1 + (⟨#[48, 111]⟩ ++ ba (digs 8 n)).size) = False := eq_false (by rw [e1, ba_size]; have := (form_oct n HNN.out).len; omega)
    have c7 : (9223372036854775807 < 1 + (2 + (ba (digs 8 n)).size)) = False := eq_false (by have h := digs_len 8 (by decide) 54 n (by have := HNN.out; omega); rw [ba_size]; omega)
    clear e1
    have hr9 : a1.tmod 6 = 2 := hr8
    clear hr8 hr7 hr6
    have HB0 := Lib.hid (Below.refl w.heap.size w)
    go_enter Tryd.func3, Tryd.ntmps3
    go_wp2_with fail
    refine (B10.out _).mono ?_
    rintro e w1 ⟨rfl, hb1⟩
    have HB1 := Lib.hid (HB0.out.trans (hb1.mono HB0.out.size))
    clear hb1
    go_wp2_with fail
    refine (B16.out _).mono ?_
    rintro e w2 ⟨rfl, hb2⟩
    have HB2 := Lib.hid (HB1.out.trans (hb2.mono HB1.out.size))
    clear hb2
    go_wp2_with fail
    refine (B8.out _).mono ?_
    rintro e w3 ⟨rfl, hb3⟩
    have HB3 := Lib.hid (HB2.out.trans (hb3.mono HB2.out.size))
    clear hb3
    go_wp2_with fail
    refine (B2.out _).mono ?_
    rintro e w4 ⟨rfl, hb4⟩
    have HB4 := Lib.hid (HB3.out.trans (hb4.mono HB3.out.size))
    clear hb4
    go_wp2_with fail
    refine (B8.out _).mono ?_
    rintro e w5 ⟨rfl, hb5⟩
    have HB5 := Lib.hid (HB4.out.trans (hb5.mono HB4.out.size))
    clear hb5
    go_wp2_with fail
    refine (B10.out _).mono ?_
    rintro e w6 ⟨rfl, hb6⟩
    have HB6 := Lib.hid (HB5.out.trans (hb6.mono HB5.out.size))
    clear hb6
    cases a2 with
    | false =>
      go_wp2_with fail
      refine (HCP.out.1 _).mono ?_
      rintro e w7 ⟨rfl, hb7⟩
      have k0 : w7.cell? ⟨w6.heap.size + 1, 0, none⟩ = some (.int .i64 5) := (hb7.cell (p := ⟨w6.heap.size + 1, 0, none⟩) (by simp)).trans (by simp)
      have k1 : w7.cell? ⟨w6.heap.size + 1, 1, none⟩ = some (.int .i64 0) := (hb7.cell (p := ⟨w6.heap.size + 1, 1, none⟩) (by simp)).trans (by simp)
      have k2 : w7.cell? ⟨w6.heap.size + 1, 2, none⟩ = some (.float .f64 0) := (hb7.cell (p := ⟨w6.heap.size + 1, 2, none⟩) (by simp)).trans (by simp)
      have k3 : w7.cell? ⟨w6.heap.size + 1, 3, none⟩ = some (.string (⟨#[48, 111]⟩ ++ ba (digs 8 n))) := (hb7.cell (p := ⟨w6.heap.size + 1, 3, none⟩) (by simp)).trans (by simp)
      have k4 : w7.cell? ⟨w6.heap.size + 1, 4, none⟩ = some (.slice none 0 0) := (hb7.cell (p := ⟨w6.heap.size + 1, 4, none⟩) (by simp)).trans (by simp)
      have k5 : w7.cell? ⟨w6.heap.size + 1, 5, none⟩ = some (.slice none 0 0) := (hb7.cell (p := ⟨w6.heap.size + 1, 5, none⟩) (by simp)).trans (by simp)
      have HB7 : Hid (Below w.heap.size w w7) := Lib.hid (Below.trans ((HB6.out.alloc HB6.out.size _).alloc (by have := HB6.out.size; rw [World.size_alloc]; omega) _) (hb7.mono (by have := HB6.out.size; simp only [World.size_alloc]; omega)))
      clear hb7
      go_wp2_with fail
      refine (HCP.out.2 _).mono ?_
      rintro e w8 ⟨rfl, hb8⟩
      have HB8 := Lib.hid (HB7.out.trans (hb8.mono HB7.out.size))
      clear hb8 k0 k1 k2 k3 k4 k5
      go_wp2_with fail
      refine (HF7.out _).mono ?_
      rintro e w9 ⟨rfl, hb9⟩
      have HB9 := Lib.hid (HB8.out.trans (hb9.mono HB8.out.size))
      clear hb9
      go_wp2_with fail
      go_ret
      exact ⟨rfl, HB9.out⟩
    | true =>
      by_cases hp : 0 < n
      · have hp1 : (0 : Int) < (n : Int) := by omega
        go_wp2_with fail
        refine (HCN.out.1 _).mono ?_
        rintro e w7 ⟨rfl, hb7⟩
        have k0 : w7.cell? ⟨w6.heap.size + 1, 0, none⟩ = some (.int .i64 5) := (hb7.cell (p := ⟨w6.heap.size + 1, 0, none⟩) (by simp)).trans (by simp)
        have k1 : w7.cell? ⟨w6.heap.size + 1, 1, none⟩ = some (.int .i64 0) := (hb7.cell (p := ⟨w6.heap.size + 1, 1, none⟩) (by simp)).trans (by simp)
        have k2 : w7.cell? ⟨w6.heap.size + 1, 2, none⟩ = some (.float .f64 0) := (hb7.cell (p := ⟨w6.heap.size + 1, 2, none⟩) (by simp)).trans (by simp)
        have k3 : w7.cell? ⟨w6.heap.size + 1, 3, none⟩ = some (.string (⟨#[45]⟩ ++ (⟨#[48, 111]⟩ ++ ba (digs 8 n)))) := (hb7.cell (p := ⟨w6.heap.size + 1, 3, none⟩) (by simp)).trans (by simp)
        have k4 : w7.cell? ⟨w6.heap.size + 1, 4, none⟩ = some (.slice none 0 0) := (hb7.cell (p := ⟨w6.heap.size + 1, 4, none⟩) (by simp)).trans (by simp)
        have k5 : w7.cell? ⟨w6.heap.size + 1, 5, none⟩ = some (.slice none 0 0) := (hb7.cell (p := ⟨w6.heap.size + 1, 5, none⟩) (by simp)).trans (by simp)
        have HB7 : Hid (Below w.heap.size w w7) := Lib.hid (Below.trans ((HB6.out.alloc HB6.out.size _).alloc (by have := HB6.out.size; rw [World.size_alloc]; omega) _) (hb7.mono (by have := HB6.out.size; simp only [World.size_alloc]; omega)))
        clear hb7
        go_wp2_with fail
        refine (HCN.out.2 _).mono ?_
        rintro e w8 ⟨rfl, hb8⟩
        have HB8 := Lib.hid (HB7.out.trans (hb8.mono HB7.out.size))
        clear hb8 k0 k1 k2 k3 k4 k5
        go_wp2_with fail
        refine (HF7.out _).mono ?_
        rintro e w9 ⟨rfl, hb9⟩
        have HB9 := Lib.hid (HB8.out.trans (hb9.mono HB8.out.size))
        clear hb9
        go_wp2_with fail
        go_ret
        exact ⟨rfl, HB9.out⟩
      · have hp1 : ((0 : Int) < (n : Int)) = False := eq_false (by omega)
        go_wp2_with fail
        refine (HCP.out.1 _).mono ?_
        rintro e w7 ⟨rfl, hb7⟩
        have k0 : w7.cell? ⟨w6.heap.size + 1, 0, none⟩ = some (.int .i64 5) := (hb7.cell (p := ⟨w6.heap.size + 1, 0, none⟩) (by simp)).trans (by simp)
        have k1 : w7.cell? ⟨w6.heap.size + 1, 1, none⟩ = some (.int .i64 0) := (hb7.cell (p := ⟨w6.heap.size + 1, 1, none⟩) (by simp)).trans (by simp)
        have k2 : w7.cell? ⟨w6.heap.size + 1, 2, none⟩ = some (.float .f64 0) := (hb7.cell (p := ⟨w6.heap.size + 1, 2, none⟩) (by simp)).trans (by simp)
        have k3 : w7.cell? ⟨w6.heap.size + 1, 3, none⟩ = some (.string (⟨#[48, 111]⟩ ++ ba (digs 8 n))) := (hb7.cell (p := ⟨w6.heap.size + 1, 3, none⟩) (by simp)).trans (by simp)
        have k4 : w7.cell? ⟨w6.heap.size + 1, 4, none⟩ = some (.slice none 0 0) := (hb7.cell (p := ⟨w6.heap.size + 1, 4, none⟩) (by simp)).trans (by simp)
        have k5 : w7.cell? ⟨w6.heap.size + 1, 5, none⟩ = some (.slice none 0 0) := (hb7.cell (p := ⟨w6.heap.size + 1, 5, none⟩) (by simp)).trans (by simp)
        have HB7 : Hid (Below w.heap.size w w7) := Lib.hid (Below.trans ((HB6.out.alloc HB6.out.size _).alloc (by have := HB6.out.size; rw [World.size_alloc]; omega) _) (hb7.mono (by have := HB6.out.size; simp only [World.size_alloc]; omega)))
        clear hb7
        go_wp2_with fail
        refine (HCP.out.2 _).mono ?_
        rintro e w8 ⟨rfl, hb8⟩
        have HB8 := Lib.hid (HB7.out.trans (hb8.mono HB7.out.size))
        clear hb8 k0 k1 k2 k3 k4 k5
        go_wp2_with fail
        refine (HF7.out _).mono ?_
        rintro e w9 ⟨rfl, hb9⟩
        have HB9 := Lib.hid (HB8.out.trans (hb9.mono HB8.out.size))
        clear hb9
        go_wp2_with fail
        go_ret
        exact ⟨rfl, HB9.out⟩
  · have e1 : (⟨#[48, 98]⟩ ++ ba (digs 2 n)) = ba (48 :: 98 :: digs 2 n) := by first | rfl | exact ba_app _ _
    have HCP : Hid (Casts (⟨#[48, 98]⟩ ++ ba (digs 2 n)) (n : Int)) := Lib.hid (by rw [e1]; exact (form_bin n HNN.out).casts HNN.out)
    have HCN : Hid (Casts (⟨#[45]⟩ ++ (⟨#[48, 98]⟩ ++ ba (digs 2 n))) (-(n : Int))) := Lib.hid (by rw [e1, show (⟨#[45]⟩ : ByteArray) ++ ba (48 :: 98 :: digs 2 n) = ba (45 :: (48 :: 98 :: digs 2 n)) from ba_app [45] _]; exact (form_bin n HNN.out).castsN HNN.out)
    have c6 : (9223372036854775807 < 1 + (⟨#[48, 98]⟩ ++ ba (digs 2 n)).size) = False := eq_false (by rw [e1, ba_size]; have := (form_bin n HNN.out).len; omega)
    have c7 : (9223372036854775807 < 1 + (2 + (ba (digs 2 n)).size)) = False := eq_false (by have h := digs_len 2 (by decide) 54 n (by have := HNN.out; omega); rw [ba_size]; omega)
    clear e1
    have hr9 : a1.tmod 6 = 3 := hr8
    clear hr8 hr7 hr6
    have HB0 := Lib.hid (Below.refl w.heap.size w)
    go_enter Tryd.func3, Tryd.ntmps3
    go_wp2_with fail
    refine (B10.out _).mono ?_
    rintro e w1 ⟨rfl, hb1⟩
    have HB1 := Lib.hid (HB0.out.trans (hb1.mono HB0.out.size))
    clear hb1
    go_wp2_with fail
    refine (B16.out _).mono ?_
    rintro e w2 ⟨rfl, hb2⟩
    have HB2 := Lib.hid (HB1.out.trans (hb2.mono HB1.out.size))
    clear hb2
    go_wp2_with fail
    refine (B8.out _).mono ?_
    rintro e w3 ⟨rfl, hb3⟩
    have HB3 := Lib.hid (HB2.out.trans (hb3.mono HB2.out.size))
    clear hb3
    go_wp2_with fail
    refine (B2.out _).mono ?_
    rintro e w4 ⟨rfl, hb4⟩
    have HB4 := Lib.hid (HB3.out.trans (hb4.mono HB3.out.size))
    clear hb4
    go_wp2_with fail
    refine (B8.out _).mono ?_
    rintro e w5 ⟨rfl, hb5⟩
    have HB5 := Lib.hid (HB4.out.trans (hb5.mono HB4.out.size))
    clear hb5
    go_wp2_with fail
    refine (B10.out _).mono ?_
    rintro e w6 ⟨rfl, hb6⟩
    have HB6 := Lib.hid (HB5.out.trans (hb6.mono HB5.out.size))
    clear hb6
    cases a2 with
    | false =>
      go_wp2_with fail
      refine (HCP.out.1 _).mono ?_
      rintro e w7 ⟨rfl, hb7⟩
      have k0 : w7.cell? ⟨w6.heap.size + 1, 0, none⟩ = some (.int .i64 5) := (hb7.cell (p := ⟨w6.heap.size + 1, 0, none⟩) (by simp)).trans (by simp)
      have k1 : w7.cell? ⟨w6.heap.size + 1, 1, none⟩ = some (.int .i64 0) := (hb7.cell (p := ⟨w6.heap.size + 1, 1, none⟩) (by simp)).trans (by simp)
      have k2 : w7.cell? ⟨w6.heap.size + 1, 2, none⟩ = some (.float .f64 0) := (hb7.cell (p := ⟨w6.heap.size + 1, 2, none⟩) (by simp)).trans (by simp)
      have k3 : w7.cell? ⟨w6.heap.size + 1, 3, none⟩ = some (.string (⟨#[48, 98]⟩ ++ ba (digs 2 n))) := (hb7.cell (p := ⟨w6.heap.size + 1, 3, none⟩) (by simp)).trans (by simp)
      have k4 : w7.cell? ⟨w6.heap.size + 1, 4, none⟩ = some (.slice none 0 0) := (hb7.cell (p := ⟨w6.heap.size + 1, 4, none⟩) (by simp)).trans (by simp)
      have k5 : w7.cell? ⟨w6.heap.size + 1, 5, none⟩ = some (.slice none 0 0) := (hb7.cell (p := ⟨w6.heap.size + 1, 5, none⟩) (by simp)).trans (by simp)
      have HB7 : Hid (Below w.heap.size w w7) := Lib.hid (Below.trans ((HB6.out.alloc HB6.out.size _).alloc (by have := HB6.out.size; rw [World.size_alloc]; omega) _) (hb7.mono (by have := HB6.out.size; simp only [World.size_alloc]; omega)))
      clear hb7
      go_wp2_with fail
      refine (HCP.out.2 _).mono ?_
      rintro e w8 ⟨rfl, hb8⟩
      have HB8 := Lib.hid (HB7.out.trans (hb8.mono HB7.out.size))
      clear hb8 k0 k1 k2 k3 k4 k5
      go_wp2_with fail
      refine (HF7.out _).mono ?_
      rintro e w9 ⟨rfl, hb9⟩
      have HB9 := Lib.hid (HB8.out.trans (hb9.mono HB8.out.size))
      clear hb9
      go_wp2_with fail
      go_ret
      exact ⟨rfl, HB9.out⟩
    | true =>
      by_cases hp : 0 < n
      · have hp1 : (0 : Int) < (n : Int) := by omega
        go_wp2_with fail
        refine (HCN.out.1 _).mono ?_
        rintro e w7 ⟨rfl, hb7⟩
        have k0 : w7.cell? ⟨w6.heap.size + 1, 0, none⟩ = some (.int .i64 5) := (hb7.cell (p := ⟨w6.heap.size + 1, 0, none⟩) (by simp)).trans (by simp)
        have k1 : w7.cell? ⟨w6.heap.size + 1, 1, none⟩ = some (.int .i64 0) := (hb7.cell (p := ⟨w6.heap.size + 1, 1, none⟩) (by simp)).trans (by simp)
        have k2 : w7.cell? ⟨w6.heap.size + 1, 2, none⟩ = some (.float .f64 0) := (hb7.cell (p := ⟨w6.heap.size + 1, 2, none⟩) (by simp)).trans (by simp)
        have k3 : w7.cell? ⟨w6.heap.size + 1, 3, none⟩ = some (.string (⟨#[45]⟩ ++ (⟨#[48, 98]⟩ ++ ba (digs 2 n)))) := (hb7.cell (p := ⟨w6.heap.size + 1, 3, none⟩) (by simp)).trans (by simp)
        have k4 : w7.cell? ⟨w6.heap.size + 1, 4, none⟩ = some (.slice none 0 0) := (hb7.cell (p := ⟨w6.heap.size + 1, 4, none⟩) (by simp)).trans (by simp)
        have k5 : w7.cell? ⟨w6.heap.size + 1, 5, none⟩ = some (.slice none 0 0) := (hb7.cell (p := ⟨w6.heap.size + 1, 5, none⟩) (by simp)).trans (by simp)
        have HB7 : Hid (Below w.heap.size w w7) := Lib.hid (Below.trans ((HB6.out.alloc HB6.out.size _).alloc (by have := HB6.out.size; rw [World.size_alloc]; omega) _) (hb7.mono (by have := HB6.out.size; simp only [World.size_alloc]; omega)))
        clear hb7
        go_wp2_with fail
        refine (HCN.out.2 _).mono ?_
        rintro e w8 ⟨rfl, hb8⟩
        have HB8 := Lib.hid (HB7.out.trans (hb8.mono HB7.out.size))
        clear hb8 k0 k1 k2 k3 k4 k5
        go_wp2_with fail
        refine (HF7.out _).mono ?_
        rintro e w9 ⟨rfl, hb9⟩
        have HB9 := Lib.hid (HB8.out.trans (hb9.mono HB8.out.size))
        clear hb9
        go_wp2_with fail
        go_ret
        exact ⟨rfl, HB9.out⟩
      · have hp1 : ((0 : Int) < (n : Int)) = False := eq_false (by omega)
        go_wp2_with fail
        refine (HCP.out.1 _).mono ?_
        rintro e w7 ⟨rfl, hb7⟩
        have k0 : w7.cell? ⟨w6.heap.size + 1, 0, none⟩ = some (.int .i64 5) := (hb7.cell (p := ⟨w6.heap.size + 1, 0, none⟩) (by simp)).trans (by simp)
        have k1 : w7.cell? ⟨w6.heap.size + 1, 1, none⟩ = some (.int .i64 0) := (hb7.cell (p := ⟨w6.heap.size + 1, 1, none⟩) (by simp)).trans (by simp)
        have k2 : w7.cell? ⟨w6.heap.size + 1, 2, none⟩ = some (.float .f64 0) := (hb7.cell (p := ⟨w6.heap.size + 1, 2, none⟩) (by simp)).trans (by simp)
        have k3 : w7.cell? ⟨w6.heap.size + 1, 3, none⟩ = some (.string (⟨#[48, 98]⟩ ++ ba (digs 2 n))) := (hb7.cell (p := ⟨w6.heap.size + 1, 3, none⟩) (by simp)).trans (by simp)
        have k4 : w7.cell? ⟨w6.heap.size + 1, 4, none⟩ = some (.slice none 0 0) := (hb7.cell (p := ⟨w6.heap.size + 1, 4, none⟩) (by simp)).trans (by simp)
        have k5 : w7.cell? ⟨w6.heap.size + 1, 5, none⟩ = some (.slice none 0 0) := (hb7.cell (p := ⟨w6.heap.size + 1, 5, none⟩) (by simp)).trans (by simp)
        have HB7 : Hid (Below w.heap.size w w7) := Lib.hid (Below.trans ((HB6.out.alloc HB6.out.size _).alloc (by have := HB6.out.size; rw [World.size_alloc]; omega) _) (hb7.mono (by have := HB6.out.size; simp only [World.size_alloc]; omega)))
        clear hb7
        go_wp2_with fail
        refine (HCP.out.2 _).mono ?_
        rintro e w8 ⟨rfl, hb8⟩
        have HB8 := Lib.hid (HB7.out.trans (hb8.mono HB7.out.size))
        clear hb8 k0 k1 k2 k3 k4 k5
        go_wp2_with fail
        refine (HF7.out _).mono ?_
        rintro e w9 ⟨rfl, hb9⟩
        have HB9 := Lib.hid (HB8.out.trans (hb9.mono HB8.out.size))
        clear hb9
        go_wp2_with fail
        go_ret
        exact ⟨rfl, HB9.out⟩
  · have e1 : (⟨#[48]⟩ ++ ba (digs 8 n)) = ba (48 :: digs 8 n) := by first | rfl | exact ba_app _ _
    have HCP : Hid (Casts (⟨#[48]⟩ ++ ba (digs 8 n)) (n : Int)) := Lib.hid (by rw [e1]; exact (form_old n HNN.out).casts HNN.out)
    have HCN : Hid (Casts (⟨#[45]⟩ ++ (⟨#[48]⟩ ++ ba (digs 8 n))) (-(n : Int))) := Lib.hid (by rw [e1, show (⟨#[45]⟩ : ByteArray) ++ ba (48 :: digs 8 n) = ba (45 :: (48 :: digs 8 n)) from ba_app [45] _]; exact (form_old n HNN.out).castsN HNN.out)
    have c6 : (9223372036854775807 < 1 + (⟨#[48]⟩ ++ ba (digs 8 n)).size) = False := eq_false (by rw [e1, ba_size]; have := (form_old n HNN.out).len; omega)
    have c7 : (9223372036854775807 < 1 + (1 + (ba (digs 8 n)).size)) = False := eq_false (by have h := digs_len 8 (by decide) 54 n (by have := HNN.out; omega); rw [ba_size]; omega)
    clear e1
    have hr9 : a1.tmod 6 = 4 := hr8
    clear hr8 hr7 hr6
    have HB0 := Lib.hid (Below.refl w.heap.size w)
    go_enter Tryd.func3, Tryd.ntmps3
    go_wp2_with fail
    refine (B10.out _).mono ?_
    rintro e w1 ⟨rfl, hb1⟩
    have HB1 := Lib.hid (HB0.out.trans (hb1.mono HB0.out.size))
    clear hb1
    go_wp2_with fail
    refine (B16.out _).mono ?_
    rintro e w2 ⟨rfl, hb2⟩
    have HB2 := Lib.hid (HB1.out.trans (hb2.mono HB1.out.size))
    clear hb2
    go_wp2_with fail
    refine (B8.out _).mono ?_
    rintro e w3 ⟨rfl, hb3⟩
    have HB3 := Lib.hid (HB2.out.trans (hb3.mono HB2.out.size))
    clear hb3
    go_wp2_with fail
    refine (B2.out _).mono ?_
    rintro e w4 ⟨rfl, hb4⟩
    have HB4 := Lib.hid (HB3.out.trans (hb4.mono HB3.out.size))
    clear hb4
    go_wp2_with fail
    refine (B8.out _).mono ?_
    rintro e w5 ⟨rfl, hb5⟩
    have HB5 := Lib.hid (HB4.out.trans (hb5.mono HB4.out.size))
    clear hb5
    go_wp2_with fail
    refine (B10.out _).mono ?_
    rintro e w6 ⟨rfl, hb6⟩
    have HB6 := Lib.hid (HB5.out.trans (hb6.mono HB5.out.size))
    clear hb6
    cases a2 with
    | false =>
      go_wp2_with fail
      refine (HCP.out.1 _).mono ?_
      rintro e w7 ⟨rfl, hb7⟩
      have k0 : w7.cell? ⟨w6.heap.size + 1, 0, none⟩ = some (.int .i64 5) := (hb7.cell (p := ⟨w6.heap.size + 1, 0, none⟩) (by simp)).trans (by simp)
      have k1 : w7.cell? ⟨w6.heap.size + 1, 1, none⟩ = some (.int .i64 0) := (hb7.cell (p := ⟨w6.heap.size + 1, 1, none⟩) (by simp)).trans (by simp)
      have k2 : w7.cell? ⟨w6.heap.size + 1, 2, none⟩ = some (.float .f64 0) := (hb7.cell (p := ⟨w6.heap.size + 1, 2, none⟩) (by simp)).trans (by simp)
      have k3 : w7.cell? ⟨w6.heap.size + 1, 3, none⟩ = some (.string (⟨#[48]⟩ ++ ba (digs 8 n))) := (hb7.cell (p := ⟨w6.heap.size + 1, 3, none⟩) (by simp)).trans (by simp)
      have k4 : w7.cell? ⟨w6.heap.size + 1, 4, none⟩ = some (.slice none 0 0) := (hb7.cell (p := ⟨w6.heap.size + 1, 4, none⟩) (by simp)).trans (by simp)
      have k5 : w7.cell? ⟨w6.heap.size + 1, 5, none⟩ = some (.slice none 0 0) := (hb7.cell (p := ⟨w6.heap.size + 1, 5, none⟩) (by simp)).trans (by simp)
      have HB7 : Hid (Below w.heap.size w w7) := Lib.hid (Below.trans ((HB6.out.alloc HB6.out.size _).alloc (by have := HB6.out.size; rw [World.size_alloc]; omega) _) (hb7.mono (by have := HB6.out.size; simp only [World.size_alloc]; omega)))
      clear hb7
      go_wp2_with fail
      refine (HCP.out.2 _).mono ?_
      rintro e w8 ⟨rfl, hb8⟩
      have HB8 := Lib.hid (HB7.out.trans (hb8.mono HB7.out.size))
      clear hb8 k0 k1 k2 k3 k4 k5
      go_wp2_with fail
      refine (HF7.out _).mono ?_
      rintro e w9 ⟨rfl, hb9⟩
      have HB9 := Lib.hid (HB8.out.trans (hb9.mono HB8.out.size))
      clear hb9
      go_wp2_with fail
      go_ret
      exact ⟨rfl, HB9.out⟩
    | true =>
      by_cases hp : 0 < n
      · have hp1 : (0 : Int) < (n : Int) := by omega
        go_wp2_with fail
        refine (HCN.out.1 _).mono ?_
        rintro e w7 ⟨rfl, hb7⟩
        have k0 : w7.cell? ⟨w6.heap.size + 1, 0, none⟩ = some (.int .i64 5) := (hb7.cell (p := ⟨w6.heap.size + 1, 0, none⟩) (by simp)).trans (by simp)
        have k1 : w7.cell? ⟨w6.heap.size + 1, 1, none⟩ = some (.int .i64 0) := (hb7.cell (p := ⟨w6.heap.size + 1, 1, none⟩) (by simp)).trans (by simp)
        have k2 : w7.cell? ⟨w6.heap.size + 1, 2, none⟩ = some (.float .f64 0) := (hb7.cell (p := ⟨w6.heap.size + 1, 2, none⟩) (by simp)).trans (by simp)
        have k3 : w7.cell? ⟨w6.heap.size + 1, 3, none⟩ = some (.string (⟨#[45]⟩ ++ (⟨#[48]⟩ ++ ba (digs 8 n)))) := (hb7.cell (p := ⟨w6.heap.size + 1, 3, none⟩) (by simp)).trans (by simp)
        have k4 : w7.cell? ⟨w6.heap.size + 1, 4, none⟩ = some (.slice none 0 0) := (hb7.cell (p := ⟨w6.heap.size + 1, 4, none⟩) (by simp)).trans (by simp)
        have k5 : w7.cell? ⟨w6.heap.size + 1, 5, none⟩ = some (.slice none 0 0) := (hb7.cell (p := ⟨w6.heap.size + 1, 5, none⟩) (by simp)).trans (by simp)
        have HB7 : Hid (Below w.heap.size w w7) := Lib.hid (Below.trans ((HB6.out.alloc HB6.out.size _).alloc (by have := HB6.out.size; rw [World.size_alloc]; omega) _) (hb7.mono (by have := HB6.out.size; simp only [World.size_alloc]; omega)))
        clear hb7
        go_wp2_with fail
        refine (HCN.out.2 _).mono ?_
        rintro e w8 ⟨rfl, hb8⟩
        have HB8 := Lib.hid (HB7.out.trans (hb8.mono HB7.out.size))
        clear hb8 k0 k1 k2 k3 k4 k5
        go_wp2_with fail
        refine (HF7.out _).mono ?_
        rintro e w9 ⟨rfl, hb9⟩
        have HB9 := Lib.hid (HB8.out.trans (hb9.mono HB8.out.size))
        clear hb9
        go_wp2_with fail
        go_ret
        exact ⟨rfl, HB9.out⟩
      · have hp1 : ((0 : Int) < (n : Int)) = False := eq_false (by omega)
        go_wp2_with fail
        refine (HCP.out.1 _).mono ?_
        rintro e w7 ⟨rfl, hb7⟩
        have k0 : w7.cell? ⟨w6.heap.size + 1, 0, none⟩ = some (.int .i64 5) := (hb7.cell (p := ⟨w6.heap.size + 1, 0, none⟩) (by simp)).trans (by simp)
        have k1 : w7.cell? ⟨w6.heap.size + 1, 1, none⟩ = some (.int .i64 0) := (hb7.cell (p := ⟨w6.heap.size + 1, 1, none⟩) (by simp)).trans (by simp)
        have k2 : w7.cell? ⟨w6.heap.size + 1, 2, none⟩ = some (.float .f64 0) := (hb7.cell (p := ⟨w6.heap.size + 1, 2, none⟩) (by simp)).trans (by simp)
        have k3 : w7.cell? ⟨w6.heap.size + 1, 3, none⟩ = some (.string (⟨#[48]⟩ ++ ba (digs 8 n))) := (hb7.cell (p := ⟨w6.heap.size + 1, 3, none⟩) (by simp)).trans (by simp)
        have k4 : w7.cell? ⟨w6.heap.size + 1, 4, none⟩ = some (.slice none 0 0) := (hb7.cell (p := ⟨w6.heap.size + 1, 4, none⟩) (by simp)).trans (by simp)
        have k5 : w7.cell? ⟨w6.heap.size + 1, 5, none⟩ = some (.slice none 0 0) := (hb7.cell (p := ⟨w6.heap.size + 1, 5, none⟩) (by simp)).trans (by simp)
        have HB7 : Hid (Below w.heap.size w w7) := Lib.hid (Below.trans ((HB6.out.alloc HB6.out.size _).alloc (by have := HB6.out.size; rw [World.size_alloc]; omega) _) (hb7.mono (by have := HB6.out.size; simp only [World.size_alloc]; omega)))
        clear hb7
        go_wp2_with fail
        refine (HCP.out.2 _).mono ?_
        rintro e w8 ⟨rfl, hb8⟩
        have HB8 := Lib.hid (HB7.out.trans (hb8.mono HB7.out.size))
        clear hb8 k0 k1 k2 k3 k4 k5
        go_wp2_with fail
        refine (HF7.out _).mono ?_
        rintro e w9 ⟨rfl, hb9⟩
        have HB9 := Lib.hid (HB8.out.trans (hb9.mono HB8.out.size))
        clear hb9
        go_wp2_with fail
        go_ret
        exact ⟨rfl, HB9.out⟩
  · have e1 : (ba (digs 10 n) ++ ⟨#[46, 50, 53]⟩) = ba (digs 10 n ++ [46, 50, 53]) := by first | rfl | exact ba_app _ _
    have HCP : Hid (Casts (ba (digs 10 n) ++ ⟨#[46, 50, 53]⟩) (n : Int)) := Lib.hid (by rw [e1]; exact (form_cut n HNN.out).casts HNN.out)
    have HCN : Hid (Casts (⟨#[45]⟩ ++ (ba (digs 10 n) ++ ⟨#[46, 50, 53]⟩)) (-(n : Int))) := Lib.hid (by rw [e1, show (⟨#[45]⟩ : ByteArray) ++ ba (digs 10 n ++ [46, 50, 53]) = ba (45 :: (digs 10 n ++ [46, 50, 53])) from ba_app [45] _]; exact (form_cut n HNN.out).castsN HNN.out)
    have c6 : (9223372036854775807 < 1 + (ba (digs 10 n) ++ ⟨#[46, 50, 53]⟩).size) = False := eq_false (by rw [e1, ba_size]; have := (form_cut n HNN.out).len; omega)
    have c7 : (9223372036854775807 < 1 + ((ba (digs 10 n)).size + 3)) = False := eq_false (by have h := digs_len 10 (by decide) 54 n (by have := HNN.out; omega); rw [ba_size]; omega)
    clear e1
    have hr9 : a1.tmod 6 = 5 := hr8
    clear hr8 hr7 hr6
    have HB0 := Lib.hid (Below.refl w.heap.size w)
    go_enter Tryd.func3, Tryd.ntmps3
    go_wp2_with fail
    refine (B10.out _).mono ?_
    rintro e w1 ⟨rfl, hb1⟩
    have HB1 := Lib.hid (HB0.out.trans (hb1.mono HB0.out.size))
    clear hb1
    go_wp2_with fail
    refine (B16.out _).mono ?_
    rintro e w2 ⟨rfl, hb2⟩
    have HB2 := Lib.hid (HB1.out.trans (hb2.mono HB1.out.size))
    clear hb2
    go_wp2_with fail
    refine (B8.out _).mono ?_
    rintro e w3 ⟨rfl, hb3⟩
    have HB3 := Lib.hid (HB2.out.trans (hb3.mono HB2.out.size))
    clear hb3
    go_wp2_with fail
    refine (B2.out _).mono ?_
    rintro e w4 ⟨rfl, hb4⟩
    have HB4 := Lib.hid (HB3.out.trans (hb4.mono HB3.out.size))
    clear hb4
    go_wp2_with fail
    refine (B8.out _).mono ?_
    rintro e w5 ⟨rfl, hb5⟩
    have HB5 := Lib.hid (HB4.out.trans (hb5.mono HB4.out.size))
    clear hb5
    go_wp2_with fail
    refine (B10.out _).mono ?_
    rintro e w6 ⟨rfl, hb6⟩
    have HB6 := Lib.hid (HB5.out.trans (hb6.mono HB5.out.size))
    clear hb6
    cases a2 with
    | false =>
      go_wp2_with fail
      refine (HCP.out.1 _).mono ?_
      rintro e w7 ⟨rfl, hb7⟩
      have k0 : w7.cell? ⟨w6.heap.size + 1, 0, none⟩ = some (.int .i64 5) := (hb7.cell (p := ⟨w6.heap.size + 1, 0, none⟩) (by simp)).trans (by simp)
      have k1 : w7.cell? ⟨w6.heap.size + 1, 1, none⟩ = some (.int .i64 0) := (hb7.cell (p := ⟨w6.heap.size + 1, 1, none⟩) (by simp)).trans (by simp)
      have k2 : w7.cell? ⟨w6.heap.size + 1, 2, none⟩ = some (.float .f64 0) := (hb7.cell (p := ⟨w6.heap.size + 1, 2, none⟩) (by simp)).trans (by simp)
      have k3 : w7.cell? ⟨w6.heap.size + 1, 3, none⟩ = some (.string (ba (digs 10 n) ++ ⟨#[46, 50, 53]⟩)) := (hb7.cell (p := ⟨w6.heap.size + 1, 3, none⟩) (by simp)).trans (by simp)
      have k4 : w7.cell? ⟨w6.heap.size + 1, 4, none⟩ = some (.slice none 0 0) := (hb7.cell (p := ⟨w6.heap.size + 1, 4, none⟩) (by simp)).trans (by simp)
      have k5 : w7.cell? ⟨w6.heap.size + 1, 5, none⟩ = some (.slice none 0 0) := (hb7.cell (p := ⟨w6.heap.size + 1, 5, none⟩) (by simp)).trans (by simp)
      have HB7 : Hid (Below w.heap.size w w7) := Lib.hid (Below.trans ((HB6.out.alloc HB6.out.size _).alloc (by have := HB6.out.size; rw [World.size_alloc]; omega) _) (hb7.mono (by have := HB6.out.size; simp only [World.size_alloc]; omega)))
      clear hb7
      go_wp2_with fail
      refine (HCP.out.2 _).mono ?_
      rintro e w8 ⟨rfl, hb8⟩
      have HB8 := Lib.hid (HB7.out.trans (hb8.mono HB7.out.size))
      clear hb8 k0 k1 k2 k3 k4 k5
      go_wp2_with fail
      refine (HF7.out _).mono ?_
      rintro e w9 ⟨rfl, hb9⟩
      have HB9 := Lib.hid (HB8.out.trans (hb9.mono HB8.out.size))
      clear hb9
      go_wp2_with fail
      go_ret
      exact ⟨rfl, HB9.out⟩
    | true =>
      by_cases hp : 0 < n
      · have hp1 : (0 : Int) < (n : Int) := by omega
        go_wp2_with fail
        refine (HCN.out.1 _).mono ?_
        rintro e w7 ⟨rfl, hb7⟩
        have k0 : w7.cell? ⟨w6.heap.size + 1, 0, none⟩ = some (.int .i64 5) := (hb7.cell (p := ⟨w6.heap.size + 1, 0, none⟩) (by simp)).trans (by simp)
        have k1 : w7.cell? ⟨w6.heap.size + 1, 1, none⟩ = some (.int .i64 0) := (hb7.cell (p := ⟨w6.heap.size + 1, 1, none⟩) (by simp)).trans (by simp)
        have k2 : w7.cell? ⟨w6.heap.size + 1, 2, none⟩ = some (.float .f64 0) := (hb7.cell (p := ⟨w6.heap.size + 1, 2, none⟩) (by simp)).trans (by simp)
        have k3 : w7.cell? ⟨w6.heap.size + 1, 3, none⟩ = some (.string (⟨#[45]⟩ ++ (ba (digs 10 n) ++ ⟨#[46, 50, 53]⟩))) := (hb7.cell (p := ⟨w6.heap.size + 1, 3, none⟩) (by simp)).trans (by simp)
        have k4 : w7.cell? ⟨w6.heap.size + 1, 4, none⟩ = some (.slice none 0 0) := (hb7.cell (p := ⟨w6.heap.size + 1, 4, none⟩) (by simp)).trans (by simp)
        have k5 : w7.cell? ⟨w6.heap.size + 1, 5, none⟩ = some (.slice none 0 0) := (hb7.cell (p := ⟨w6.heap.size + 1, 5, none⟩) (by simp)).trans (by simp)
        have HB7 : Hid (Below w.heap.size w w7) := Lib.hid (Below.trans ((HB6.out.alloc HB6.out.size _).alloc (by have := HB6.out.size; rw [World.size_alloc]; omega) _) (hb7.mono (by have := HB6.out.size; simp only [World.size_alloc]; omega)))
        clear hb7
        go_wp2_with fail
        refine (HCN.out.2 _).mono ?_
        rintro e w8 ⟨rfl, hb8⟩
        have HB8 := Lib.hid (HB7.out.trans (hb8.mono HB7.out.size))
        clear hb8 k0 k1 k2 k3 k4 k5
        go_wp2_with fail
        refine (HF7.out _).mono ?_
        rintro e w9 ⟨rfl, hb9⟩
        have HB9 := Lib.hid (HB8.out.trans (hb9.mono HB8.out.size))
        clear hb9
        go_wp2_with fail
        go_ret
        exact ⟨rfl, HB9.out⟩
      · have hp1 : ((0 : Int) < (n : Int)) = False := eq_false (by omega)
        go_wp2_with fail
        refine (HCP.out.1 _).mono ?_
        rintro e w7 ⟨rfl, hb7⟩
        have k0 : w7.cell? ⟨w6.heap.size + 1, 0, none⟩ = some (.int .i64 5) := (hb7.cell (p := ⟨w6.heap.size + 1, 0, none⟩) (by simp)).trans (by simp)
        have k1 : w7.cell? ⟨w6.heap.size + 1, 1, none⟩ = some (.int .i64 0) := (hb7.cell (p := ⟨w6.heap.size + 1, 1, none⟩) (by simp)).trans (by simp)
        have k2 : w7.cell? ⟨w6.heap.size + 1, 2, none⟩ = some (.float .f64 0) := (hb7.cell (p := ⟨w6.heap.size + 1, 2, none⟩) (by simp)).trans (by simp)
        have k3 : w7.cell? ⟨w6.heap.size + 1, 3, none⟩ = some (.string (ba (digs 10 n) ++ ⟨#[46, 50, 53]⟩)) := (hb7.cell (p := ⟨w6.heap.size + 1, 3, none⟩) (by simp)).trans (by simp)
        have k4 : w7.cell? ⟨w6.heap.size + 1, 4, none⟩ = some (.slice none 0 0) := (hb7.cell (p := ⟨w6.heap.size + 1, 4, none⟩) (by simp)).trans (by simp)
        have k5 : w7.cell? ⟨w6.heap.size + 1, 5, none⟩ = some (.slice none 0 0) := (hb7.cell (p := ⟨w6.heap.size + 1, 5, none⟩) (by simp)).trans (by simp)
        have HB7 : Hid (Below w.heap.size w w7) := Lib.hid (Below.trans ((HB6.out.alloc HB6.out.size _).alloc (by have := HB6.out.size; rw [World.size_alloc]; omega) _) (hb7.mono (by have := HB6.out.size; simp only [World.size_alloc]; omega)))
        clear hb7
        go_wp2_with fail
        refine (HCP.out.2 _).mono ?_
        rintro e w8 ⟨rfl, hb8⟩
        have HB8 := Lib.hid (HB7.out.trans (hb8.mono HB7.out.size))
        clear hb8 k0 k1 k2 k3 k4 k5
        go_wp2_with fail
        refine (HF7.out _).mono ?_
        rintro e w9 ⟨rfl, hb9⟩
        have HB9 := Lib.hid (HB8.out.trans (hb9.mono HB8.out.size))
        clear hb9
        go_wp2_with fail
        go_ret
        exact ⟨rfl, HB9.out⟩
end Go.Proofs.YtakogidcjjmihaaDoor.PFnCastText
