/- Walks of impl.PickOf and impl.Omit. -/
import Derived.Test.YtlkfdjnkkooofaaValPk
namespace Go.Proofs.Ytlkfdjnkkooofaa.Vals
open Go.RowKit Go.ChangeMaps Go.Proofs.YtlkfdjnkkooofaaW.PrintWords Go.Proofs.Ytlkfdjnkkooofaa.Txt
set_option linter.unusedVariables false
set_option maxRecDepth 20000

theorem sprigPickU_walk (b B : Nat) (ks : List ByteArray) (l : List V) (ms : List ByteArray) (A : Option Addr) (c : Nat) (Pm : Nat → Prop) (w : World) (h : MapX w (fun x => B ≤ x) ks l b) (ha : Asc ks) (h300 : ks.length ≤ 300) (hB : B ≤ w.heap.size)
    (hm : RowIs w Pm 1 (.slice A ms.length c) ms.length (ms.map Value.string)) :
    Calls Try.prog 55 #[.map (some b), .slice A ms.length c] w (PartRes B (fun i => amongB (ks.getD i ⟨#[]⟩) ms == true) ks l w) := by
  have HC := Lib.hid (sprigPick_walk b B ks l ms A c Pm w h ha h300 hB hm)
  obtain ⟨m, hmm⟩ : ∃ m, m = ms.length := ⟨_, rfl⟩
  rw [← hmm] at HC ⊢
  clear h ha h300 hB hm hmm
  go_enter Try.func55, Try.ntmps55
  go_wp2_with (go_at_call 79; refine HC.out.mono ?_; rintro e w' ⟨r, rfl, H⟩)
  go_ret
  exact ⟨r, rfl, H⟩

theorem pick_right {p : Nat → Bool} {l : List V} {d : Int} (h : Rights l d) : ∀ n, ∀ x ∈ pickI p l n, ∃ d, Right x d := fun n x hx => ⟨_, h.mem x (pickI_mem p n hx)⟩
set_option maxHeartbeats 4000000 in
theorem implPickOf_walk (n : Int) (r : Nat) (t : ByteArray) (ks : List ByteArray) (l : List V) (hR : Right (.mk 7 n r t ks l) 8) (ms : List ByteArray) (Am : Option Addr) (cm : Nat) (kv lv : Value) (P Q : Nat → Prop) (w : World)
    (h : IsV w P (.mk 7 n r t ks l) [.int .i64 7, .int .i64 n, .float .f64 r, .string t, kv, lv]) (hm : RowIs w Q 1 (.slice Am ms.length cm) ms.length (ms.map Value.string)) :
    Calls Try.prog 26 #[.agg #[.int .i64 7, .int .i64 n, .float .f64 r, .string t, kv, lv], .slice Am ms.length cm] w (DictTwo (pickI (fun i => amongB (ks.getD i ⟨#[]⟩) ms == true) ks ks.length) (pickI (fun i => amongB (ks.getD i ⟨#[]⟩) ms == true) l ks.length) w) := by
  obtain ⟨hasc, hrl, hlen, h300⟩ := dict_parts hR
  have hfd : Fine (.mk 7 n r t ks l) := fine_of hR h
  have hfl : Fines l := by unfold Fine at hfd; exact hfd.2.2.2.2.2
  have hks := keys_size hR
  obtain ⟨p, hp⟩ : ∃ p : Nat → Bool, p = (fun i => amongB (ks.getD i ⟨#[]⟩) ms == true) := ⟨_, rfl⟩
  have hsub := pick_sub p ks ks.length
  rw [List.take_length] at hsub
  have HD := Lib.hid (dictOf_of (ks := pickI p ks ks.length) (l := pickI p l ks.length) (List.Pairwise.sublist hsub hasc) (fun x hx => hks x (pickI_mem p _ hx)) (Fines.of_mem fun x hx => hfl.mem x (pickI_mem p _ hx)) (by have := pickI_le p l ks.length; omega))
  have HB0 := Lib.hid (box2 w (.int .i64 7) (.int .i64 n) (.float .f64 r) (.string t) kv lv (.int .i64 0) (.int .i64 0) (.float .f64 0) (.string ⟨#[]⟩) (.slice none 0 0) (.slice none 0 0))
  have HG := Lib.hid (goDictX_walk n r t ks l 8 hR kv lv P _ (IsV.keep (Kept.below HB0.out.2.2) _ h))
  have HPK : Hid (∀ (b B : Nat) (W : World), Below w.heap.size w W → MapX W (fun x => B ≤ x) ks l b → B ≤ W.heap.size → Calls Try.prog 55 #[.map (some b), .slice Am ms.length cm] W (PartRes B p ks l W)) := Lib.hid fun b B W hW hx hB => by
    rw [hp]; exact sprigPickU_walk b B ks l ms Am cm Q W hx hasc (by omega) hB (hm.keep (by omega) (Kept.below hW))
  rw [← hp]
  have hsf := store_float
  obtain ⟨K, hK⟩ : ∃ K, K = pickI p ks ks.length := ⟨_, rfl⟩
  obtain ⟨L, hL⟩ : ∃ K, K = pickI p l ks.length := ⟨_, rfl⟩
  unfold PartRes at HPK
  rw [← hK, ← hL] at HD HPK ⊢
  obtain ⟨lm, hlm⟩ : ∃ K, K = ms.length := ⟨_, rfl⟩
  rw [← hlm] at HPK ⊢
  clear hR h hasc hrl hlen h300 hfd hfl hks hp hsub hK hL hm hlm
  go_enter Try.func26, Try.ntmps26
  go_wp2_with fail
  refine (HG.out).mono ?_
  rintro e w2 ⟨b, rfl, HX, HB1⟩
  have hbx3 := HB0.out.2.1.below HB1.out
  have hb2 : Below w.heap.size w w2 := HB0.out.2.2.trans (HB1.out.mono HB0.out.2.2.size)
  have HC2 := Lib.hid (HPK.out b _ w2 hb2 HX.out HB1.out.size)
  have HBX2 := Lib.hid (And.intro hbx3 hb2)
  clear hbx3 hb2 HX HG
  go_wp2_with fail
  refine (HC2.out).mono ?_
  rintro e w3 ⟨b3, rfl, HM, HB3⟩
  obtain ⟨hbx3, hb2⟩ := HBX2.out
  have hc := HD.out b3 _ _ HM.out.is
  have hb3 : Below w.heap.size w w3 := hb2.trans (HB3.out.mono hb2.size)
  have hbx3' := hbx3.below HB3.out
  have HC3 := Lib.hid hc
  have HBX3 := Lib.hid (And.intro hbx3' hb3)
  clear hbx3 hb2 hc hb3 hbx3' HM HBX2 HB3
  go_wp2_with fail
  refine (HC3.out).mono ?_
  rintro e w4 ⟨k4, l4, rfl, HX4, HB4⟩
  obtain ⟨hbx3, hb3⟩ := HBX3.out
  have hbx4 := hbx3.below HB4.out
  obtain ⟨⟨Ak, ck, rfl⟩, Al, cl, rfl⟩ : (∃ A c, k4 = .slice A K.length c) ∧ ∃ A c, l4 = .slice A (norms L).length c := by
    obtain ⟨_, h1, h2, _⟩ := HX4.out.parts
    obtain ⟨A, c, h1, _⟩ := h1.form
    obtain ⟨A', c', h2, _⟩ := h2.form
    exact ⟨⟨A, c, h1⟩, A', c', h2⟩
  obtain ⟨d0, d1, d2, d3, d4, d5⟩ := hbx4.cells
  have fz : ∀ j, w4.frozen? ⟨w.heap.size + 1, j, none⟩ = false := fun j => by unfold Box6 at hbx4; simp [World.frozen?, hbx4]
  obtain ⟨nk, hnk⟩ : ∃ nk, nk = K.length := ⟨_, rfl⟩
  obtain ⟨nl, hnl⟩ : ∃ nl, nl = (norms L).length := ⟨_, rfl⟩
  rw [← hnk, ← hnl] at HX4 ⊢
  have HBX4 := Lib.hid (And.intro hbx4 hb3)
  clear hbx3 hb3 hbx4 hnk hnl
  go_wp2_with fail
  obtain ⟨w5, hw5⟩ : ∃ w5, w5 = (((((w4.setCell ⟨w.heap.size + 1, 0, none⟩ (.int .i64 7)).setCell ⟨w.heap.size + 1, 1, none⟩ (.int .i64 0)).setCell ⟨w.heap.size + 1, 2, none⟩ (.float .f64 0)).setCell ⟨w.heap.size + 1, 3, none⟩ (.string ⟨#[]⟩)).setCell ⟨w.heap.size + 1, 4, none⟩ (.slice Ak nk ck)).setCell ⟨w.heap.size + 1, 5, none⟩ (.slice Al nl cl) := ⟨_, rfl⟩
  rw [← hw5]
  obtain ⟨hb2, ho2, hl2⟩ := set6 HBX4.out.1 _ _ _ _ _ _ hw5
  have e0 : w5.cell? ⟨w.heap.size + 1, 0, none⟩ = some (.int .i64 7) := by rw [blk_cell hb2]; rfl
  have e1 : w5.cell? ⟨w.heap.size + 1, 1, none⟩ = some (.int .i64 0) := by rw [blk_cell hb2]; rfl
  have e2 : w5.cell? ⟨w.heap.size + 1, 2, none⟩ = some (.float .f64 0) := by rw [blk_cell hb2]; rfl
  have e3 : w5.cell? ⟨w.heap.size + 1, 3, none⟩ = some (.string ⟨#[]⟩) := by rw [blk_cell hb2]; rfl
  have e4 : w5.cell? ⟨w.heap.size + 1, 4, none⟩ = some (.slice Ak nk ck) := by rw [blk_cell hb2]; rfl
  have e5 : w5.cell? ⟨w.heap.size + 1, 5, none⟩ = some (.slice Al nl cl) := by rw [blk_cell hb2]; rfl
  refine bodyPost_ret (v := .tuple #[.agg #[.int .i64 7, .int .i64 0, .float .f64 0, .string ⟨#[]⟩, .slice Ak nk ck, .slice Al nl cl], .bool true]) (by simp [results, Try.results26, go_sem, e0, e1, e2, e3, e4, e5]) rfl ?_
  have hs3 := HBX4.out.2.size
  have hbx := HBX3.out.1.lt
  have kk : Kept w4 w5 (fun b => w3.heap.size ≤ b) (fun b => w.heap.size ≤ b) := fun b hb _ => ⟨by have hb' : w3.heap.size ≤ b := hb; omega, ho2 b (by have hb' : w3.heap.size ≤ b := hb; omega)⟩
  exact ⟨_, _, rfl, Lib.hid (IsV.keep kk _ HX4.out), Lib.hid ((HBX4.out.2.trans (HB4.out.mono HBX4.out.2.size)).trans (hl2.mono (by omega)))⟩

theorem sprigOmitU_walk (b B : Nat) (ks : List ByteArray) (l : List V) (ms : List ByteArray) (A : Option Addr) (c : Nat) (Pm : Nat → Prop) (w : World) (h : MapX w (fun x => B ≤ x) ks l b) (ha : Asc ks) (h300 : ks.length ≤ 300) (hB : B ≤ w.heap.size)
    (hm : RowIs w Pm 1 (.slice A ms.length c) ms.length (ms.map Value.string)) :
    Calls Try.prog 56 #[.map (some b), .slice A ms.length c] w (PartRes B (fun i => amongB (ks.getD i ⟨#[]⟩) ms == false) ks l w) := by
  have HC := Lib.hid (sprigOmit_walk b B ks l ms A c Pm w h ha h300 hB hm)
  obtain ⟨m, hmm⟩ : ∃ m, m = ms.length := ⟨_, rfl⟩
  rw [← hmm] at HC ⊢
  clear h ha h300 hB hm hmm
  go_enter Try.func56, Try.ntmps56
  go_wp2_with (go_at_call 80; refine HC.out.mono ?_; rintro e w' ⟨r, rfl, H⟩)
  go_ret
  exact ⟨r, rfl, H⟩

set_option maxHeartbeats 4000000 in
theorem implOmit_walk (n : Int) (r : Nat) (t : ByteArray) (ks : List ByteArray) (l : List V) (hR : Right (.mk 7 n r t ks l) 8) (ms : List ByteArray) (Am : Option Addr) (cm : Nat) (kv lv : Value) (P Q : Nat → Prop) (w : World)
    (h : IsV w P (.mk 7 n r t ks l) [.int .i64 7, .int .i64 n, .float .f64 r, .string t, kv, lv]) (hm : RowIs w Q 1 (.slice Am ms.length cm) ms.length (ms.map Value.string)) :
    Calls Try.prog 27 #[.agg #[.int .i64 7, .int .i64 n, .float .f64 r, .string t, kv, lv], .slice Am ms.length cm] w (DictTwo (pickI (fun i => amongB (ks.getD i ⟨#[]⟩) ms == false) ks ks.length) (pickI (fun i => amongB (ks.getD i ⟨#[]⟩) ms == false) l ks.length) w) := by
  obtain ⟨hasc, hrl, hlen, h300⟩ := dict_parts hR
  have hfd : Fine (.mk 7 n r t ks l) := fine_of hR h
  have hfl : Fines l := by unfold Fine at hfd; exact hfd.2.2.2.2.2
  have hks := keys_size hR
  obtain ⟨p, hp⟩ : ∃ p : Nat → Bool, p = (fun i => amongB (ks.getD i ⟨#[]⟩) ms == false) := ⟨_, rfl⟩
  have hsub := pick_sub p ks ks.length
  rw [List.take_length] at hsub
  have HD := Lib.hid (dictOf_of (ks := pickI p ks ks.length) (l := pickI p l ks.length) (List.Pairwise.sublist hsub hasc) (fun x hx => hks x (pickI_mem p _ hx)) (Fines.of_mem fun x hx => hfl.mem x (pickI_mem p _ hx)) (by have := pickI_le p l ks.length; omega))
  have HB0 := Lib.hid (box2 w (.int .i64 7) (.int .i64 n) (.float .f64 r) (.string t) kv lv (.int .i64 0) (.int .i64 0) (.float .f64 0) (.string ⟨#[]⟩) (.slice none 0 0) (.slice none 0 0))
  have HG := Lib.hid (goDictX_walk n r t ks l 8 hR kv lv P _ (IsV.keep (Kept.below HB0.out.2.2) _ h))
  have HPK : Hid (∀ (b B : Nat) (W : World), Below w.heap.size w W → MapX W (fun x => B ≤ x) ks l b → B ≤ W.heap.size → Calls Try.prog 56 #[.map (some b), .slice Am ms.length cm] W (PartRes B p ks l W)) := Lib.hid fun b B W hW hx hB => by
    rw [hp]; exact sprigOmitU_walk b B ks l ms Am cm Q W hx hasc (by omega) hB (hm.keep (by omega) (Kept.below hW))
  rw [← hp]
  have hsf := store_float
  obtain ⟨K, hK⟩ : ∃ K, K = pickI p ks ks.length := ⟨_, rfl⟩
  obtain ⟨L, hL⟩ : ∃ K, K = pickI p l ks.length := ⟨_, rfl⟩
  unfold PartRes at HPK
  rw [← hK, ← hL] at HD HPK ⊢
  obtain ⟨lm, hlm⟩ : ∃ K, K = ms.length := ⟨_, rfl⟩
  rw [← hlm] at HPK ⊢
  clear hR h hasc hrl hlen h300 hfd hfl hks hp hsub hK hL hm hlm
  go_enter Try.func27, Try.ntmps27
  go_wp2_with fail
  refine (HG.out).mono ?_
  rintro e w2 ⟨b, rfl, HX, HB1⟩
  have hbx3 := HB0.out.2.1.below HB1.out
  have hb2 : Below w.heap.size w w2 := HB0.out.2.2.trans (HB1.out.mono HB0.out.2.2.size)
  have HC2 := Lib.hid (HPK.out b _ w2 hb2 HX.out HB1.out.size)
  have HBX2 := Lib.hid (And.intro hbx3 hb2)
  clear hbx3 hb2 HX HG
  go_wp2_with fail
  refine (HC2.out).mono ?_
  rintro e w3 ⟨b3, rfl, HM, HB3⟩
  obtain ⟨hbx3, hb2⟩ := HBX2.out
  have hc := HD.out b3 _ _ HM.out.is
  have hb3 : Below w.heap.size w w3 := hb2.trans (HB3.out.mono hb2.size)
  have hbx3' := hbx3.below HB3.out
  have HC3 := Lib.hid hc
  have HBX3 := Lib.hid (And.intro hbx3' hb3)
  clear hbx3 hb2 hc hb3 hbx3' HM HBX2 HB3
  go_wp2_with fail
  refine (HC3.out).mono ?_
  rintro e w4 ⟨k4, l4, rfl, HX4, HB4⟩
  obtain ⟨hbx3, hb3⟩ := HBX3.out
  have hbx4 := hbx3.below HB4.out
  obtain ⟨⟨Ak, ck, rfl⟩, Al, cl, rfl⟩ : (∃ A c, k4 = .slice A K.length c) ∧ ∃ A c, l4 = .slice A (norms L).length c := by
    obtain ⟨_, h1, h2, _⟩ := HX4.out.parts
    obtain ⟨A, c, h1, _⟩ := h1.form
    obtain ⟨A', c', h2, _⟩ := h2.form
    exact ⟨⟨A, c, h1⟩, A', c', h2⟩
  obtain ⟨d0, d1, d2, d3, d4, d5⟩ := hbx4.cells
  have fz : ∀ j, w4.frozen? ⟨w.heap.size + 1, j, none⟩ = false := fun j => by unfold Box6 at hbx4; simp [World.frozen?, hbx4]
  obtain ⟨nk, hnk⟩ : ∃ nk, nk = K.length := ⟨_, rfl⟩
  obtain ⟨nl, hnl⟩ : ∃ nl, nl = (norms L).length := ⟨_, rfl⟩
  rw [← hnk, ← hnl] at HX4 ⊢
  have HBX4 := Lib.hid (And.intro hbx4 hb3)
  clear hbx3 hb3 hbx4 hnk hnl
  go_wp2_with fail
  obtain ⟨w5, hw5⟩ : ∃ w5, w5 = (((((w4.setCell ⟨w.heap.size + 1, 0, none⟩ (.int .i64 7)).setCell ⟨w.heap.size + 1, 1, none⟩ (.int .i64 0)).setCell ⟨w.heap.size + 1, 2, none⟩ (.float .f64 0)).setCell ⟨w.heap.size + 1, 3, none⟩ (.string ⟨#[]⟩)).setCell ⟨w.heap.size + 1, 4, none⟩ (.slice Ak nk ck)).setCell ⟨w.heap.size + 1, 5, none⟩ (.slice Al nl cl) := ⟨_, rfl⟩
  rw [← hw5]
  obtain ⟨hb2, ho2, hl2⟩ := set6 HBX4.out.1 _ _ _ _ _ _ hw5
  have e0 : w5.cell? ⟨w.heap.size + 1, 0, none⟩ = some (.int .i64 7) := by rw [blk_cell hb2]; rfl
  have e1 : w5.cell? ⟨w.heap.size + 1, 1, none⟩ = some (.int .i64 0) := by rw [blk_cell hb2]; rfl
  have e2 : w5.cell? ⟨w.heap.size + 1, 2, none⟩ = some (.float .f64 0) := by rw [blk_cell hb2]; rfl
  have e3 : w5.cell? ⟨w.heap.size + 1, 3, none⟩ = some (.string ⟨#[]⟩) := by rw [blk_cell hb2]; rfl
  have e4 : w5.cell? ⟨w.heap.size + 1, 4, none⟩ = some (.slice Ak nk ck) := by rw [blk_cell hb2]; rfl
  have e5 : w5.cell? ⟨w.heap.size + 1, 5, none⟩ = some (.slice Al nl cl) := by rw [blk_cell hb2]; rfl
  refine bodyPost_ret (v := .tuple #[.agg #[.int .i64 7, .int .i64 0, .float .f64 0, .string ⟨#[]⟩, .slice Ak nk ck, .slice Al nl cl], .bool true]) (by simp [results, Try.results27, go_sem, e0, e1, e2, e3, e4, e5]) rfl ?_
  have hs3 := HBX4.out.2.size
  have hbx := HBX3.out.1.lt
  have kk : Kept w4 w5 (fun b => w3.heap.size ≤ b) (fun b => w.heap.size ≤ b) := fun b hb _ => ⟨by have hb' : w3.heap.size ≤ b := hb; omega, ho2 b (by have hb' : w3.heap.size ≤ b := hb; omega)⟩
  exact ⟨_, _, rfl, Lib.hid (IsV.keep kk _ HX4.out), Lib.hid ((HBX4.out.2.trans (HB4.out.mono HBX4.out.2.size)).trans (hl2.mono (by omega)))⟩
end Go.Proofs.Ytlkfdjnkkooofaa.Vals
