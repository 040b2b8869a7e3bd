/- Walk of impl.goOf: a right value becomes the Go value that stands for it; and of goList and goDict, of right ones. -/
import Derived.Test.YtkikkeegdooenaaGreatDoorValG2
namespace Go.Proofs.YtkikkeegdooenaaGreatDoor.Vals
open Go.RowKit Go.ChangeMaps Go.Proofs.YtkikkeegdooenaaGreatDoorW.PrintWords
set_option linter.unusedVariables false
set_option maxRecDepth 20000

theorem Right.kind {k n : Int} {r : Nat} {t : ByteArray} {ks : List ByteArray} {l : List V} {d : Int} (h : Right (.mk k n r t ks l) d) : 0 ≤ k ∧ k ≤ 7 := by
  unfold Right at h
  obtain ⟨⟨_, _, _, hb, _⟩, _⟩ := h
  exact hb.1
theorem MapIs.keep {w w' : World} {P Q : Nat → Prop} {ks : List ByteArray} {l : List V} {b : Nat} (k : Kept w w' P Q) (h : MapIs w P ks l b) : MapIs w' Q ks l b := by
  obtain ⟨es, clk, xs, h1, h2, h3, h4, h5, h6, h7, h8⟩ := h
  have hb : b < w.heap.size := (Array.getElem?_eq_some_iff.1 h2).1
  obtain ⟨hq, e⟩ := k b h1 hb
  exact ⟨es, clk, xs, hq, e.trans h2, h3, h4, h5, h6, h7, GoVs.keep k _ h8⟩

set_option maxHeartbeats 4000000 in
theorem goOf_any : ∀ (N : Nat) (v : V), SizeOf.sizeOf v < N → ∀ d, Right v d → GoOfOk v := by
  intro N
  induction N with
  | zero => intro v h; omega
  | succ N ih =>
    intro v hN d hR kv lv P w h
    obtain ⟨xs, hk, hl, hv, _, _, ht, _⟩ := h.parts
    obtain ⟨A, c, rfl, hnc, hcm, _⟩ := hk.form
    obtain ⟨A', c', rfl, hnc', hcm', _⟩ := hl.form
    have hlt := v.lt_of_get
    obtain ⟨k, n, r, t, ks, l⟩ := v
    simp only [V.k, V.n, V.r, V.t, V.ks, V.l] at h hk hl hv ht hnc hnc' hlt ⊢
    have hkind := hR.kind
    have hok : ∀ i (h : i < l.length), GoOfOk l[i] := fun i hi => by
      unfold Right at hR
      exact ih _ (by have := hlt i hi; omega) _ (Rights.at_ hR.2.2.2.2.2.2.2.2.2 i hi)
    have h300 : l.length ≤ 100000 := by unfold Right at hR; omega
    have hlen : k = 7 → ks.length = l.length := by unfold Right at hR; exact hR.2.2.2.2.2.2.2.1
    have hkey : k = 7 → ∀ i, i < l.length → KeyOk ks i := by unfold Right at hR; exact hR.2.2.2.2.2.2.2.2.1
    have HL : Hid (∀ W, Kept w W P P → Calls Tryz.prog 18 #[.slice A' l.length c'] W (GoListRes l W)) := Lib.hid fun W hW => goList_step l hok h300 A' c' xs P W (hl.keep (by omega) hW) (IsVs.keep hW l hv)
    have HD : Hid (k = 7 → ∀ W, Kept w W P P → Calls Tryz.prog 30 #[.agg #[.int .i64 7, .int .i64 n, .float .f64 r, .string t, .slice A ks.length c, .slice A' l.length c']] W (GoDictRes ks l W)) := Lib.hid fun h7 W hW =>
      goDict_step n r t ks l hok h300 (hlen h7) (hkey h7) A A' c c' xs P W (hk.keep (by omega) hW) (hl.keep (by omega) hW) (IsVs.keep hW l hv)
    have HBX : Hid (∀ o, Below w.heap.size w (w.alloc o)) := Lib.hid fun o => (Below.refl _ _).alloc (Nat.le_refl _) o
    have hd : k = 0 ∨ k = 1 ∨ k = 2 ∨ k = 3 ∨ k = 4 ∨ k = 5 ∨ k = 6 ∨ k = 7 := by omega
    clear h hk hl hv hok hlen hkey hlt hR ih hN hkind
    rcases hd with rfl | rfl | rfl | rfl | rfl | rfl | rfl | rfl
    · go_enter Tryz.func24, Tryz.ntmps24
      go_wp2_with fail
      go_ret2
      exact ⟨_, rfl, Lib.hid (by unfold GoV; exact .inl ⟨rfl, rfl⟩), Lib.hid (HBX.out _)⟩
    · go_enter Tryz.func24, Tryz.ntmps24
      go_wp2_with fail
      go_ret2
      exact ⟨_, rfl, Lib.hid (by unfold GoV; exact .inr (.inl ⟨rfl, rfl⟩)), Lib.hid (HBX.out _)⟩
    · go_enter Tryz.func24, Tryz.ntmps24
      go_wp2_with fail
      go_ret2
      exact ⟨_, rfl, Lib.hid (by unfold GoV; exact .inr (.inr (.inl ⟨rfl, rfl⟩))), Lib.hid (HBX.out _)⟩
    · go_enter Tryz.func24, Tryz.ntmps24
      go_wp2_with fail
      go_ret2
      exact ⟨_, rfl, Lib.hid (by unfold GoV; exact .inr (.inr (.inr (.inl ⟨rfl, rfl⟩)))), Lib.hid (HBX.out _)⟩
    · go_enter Tryz.func24, Tryz.ntmps24
      go_wp2_with fail
      go_ret2
      exact ⟨_, rfl, Lib.hid (by unfold GoV; exact .inr (.inr (.inr (.inr (.inl ⟨rfl, rfl⟩))))), Lib.hid (HBX.out _)⟩
    · go_enter Tryz.func24, Tryz.ntmps24
      go_wp2_with fail
      go_ret2
      exact ⟨_, rfl, Lib.hid (by unfold GoV; exact .inr (.inr (.inr (.inr (.inr (.inl ⟨rfl, rfl⟩)))))), Lib.hid (HBX.out _)⟩
    · go_enter Tryz.func24, Tryz.ntmps24
      go_wp2_with fail
      refine (HL.out _ (Kept.below (HBX.out _))).mono ?_
      rintro e w1 ⟨a, cap, ys, rfl, H1, H2⟩
      go_wp2_with fail
      go_ret2
      refine ⟨_, rfl, Lib.hid ?_, Lib.hid ((HBX.out _).trans (H2.out.mono (by simp)))⟩
      have k1 : Kept w1 w1 (fun b => (w.alloc (.cells #[.int .i64 6, .int .i64 n, .float .f64 r, .string t, .slice A ks.length c, .slice A' l.length c'] 42)).heap.size ≤ b) (fun b => w.heap.size ≤ b) := Kept.mono fun b hb _ => by simp only [World.size_alloc] at hb; omega
      unfold GoV
      exact .inr (.inr (.inr (.inr (.inr (.inr (.inl ⟨rfl, a, cap, ys, rfl, H1.out.1.keep (by omega) k1, GoVs.keep k1 l H1.out.2⟩))))))
    · go_enter Tryz.func24, Tryz.ntmps24
      go_wp2_with fail
      refine (HD.out (by simp) _ (Kept.below (HBX.out _))).mono ?_
      rintro e w1 ⟨b, rfl, H1, H2⟩
      go_wp2_with fail
      go_ret2
      refine ⟨_, rfl, Lib.hid ?_, Lib.hid ((HBX.out _).trans (H2.out.mono (by simp)))⟩
      have k1 : Kept w1 w1 (fun b => (w.alloc (.cells #[.int .i64 7, .int .i64 n, .float .f64 r, .string t, .slice A ks.length c, .slice A' l.length c'] 42)).heap.size ≤ b) (fun b => w.heap.size ≤ b) := Kept.mono fun b hb _ => by simp only [World.size_alloc] at hb; omega
      exact GoV.dict (H1.out.keep k1)
theorem goOf_walk (v : V) (d : Int) (h : Right v d) : GoOfOk v := goOf_any _ v (Nat.lt_succ_self _) d h
theorem goList_walk (l : List V) (h300 : l.length ≤ 100000) (hr : ∀ i (h : i < l.length), ∃ d, Right l[i] d) (A : Option Addr) (c : Nat) (xs : List Value) (P : Nat → Prop) (w : World)
    (hl : RowIs w P 6 (.slice A l.length c) l.length xs) (hv : IsVs w P l xs) :
    Calls Tryz.prog 18 #[.slice A l.length c] w (GoListRes l w) :=
  goList_step l (fun i hi => by obtain ⟨d, hd⟩ := hr i hi; exact goOf_walk _ d hd) h300 A c xs P w hl hv
theorem goDict_walk (n : Int) (r : Nat) (t : ByteArray) (ks : List ByteArray) (l : List V) (d : Int) (hR : Right (.mk 7 n r t ks l) d)
    (kv lv : Value) (P : Nat → Prop) (w : World) (h : IsV w P (.mk 7 n r t ks l) [.int .i64 7, .int .i64 n, .float .f64 r, .string t, kv, lv]) :
    Calls Tryz.prog 30 #[.agg #[.int .i64 7, .int .i64 n, .float .f64 r, .string t, kv, lv]] w (GoDictRes ks l w) := by
  obtain ⟨xs, hk, hl, hv, _, _, ht, _⟩ := h.parts
  obtain ⟨A, c, rfl, _⟩ := hk.form
  obtain ⟨A', c', rfl, _⟩ := hl.form
  unfold Right at hR
  exact goDict_step n r t ks l (fun i hi => goOf_walk _ _ (Rights.at_ hR.2.2.2.2.2.2.2.2.2 i hi)) (by have := hR.2.2.2.2.1; omega) (hR.2.2.2.2.2.2.2.1 rfl) (hR.2.2.2.2.2.2.2.2.1 rfl) A A' c c' xs P w hk hl hv
end Go.Proofs.YtkikkeegdooenaaGreatDoor.Vals
