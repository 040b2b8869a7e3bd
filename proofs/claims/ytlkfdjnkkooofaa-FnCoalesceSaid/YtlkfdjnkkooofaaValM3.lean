/- Walks of sprig.Coalesce, All, Any, impl.Coalesce. -/
import Derived.Test.YtlkfdjnkkooofaaValM2
namespace Go.Proofs.Ytlkfdjnkkooofaa.Vals
open Go.RowKit Go.Proofs.YtlkfdjnkkooofaaW.PrintWords
set_option linter.unusedVariables false
set_option maxRecDepth 20000

theorem sprigCoalesce_walk (a : Addr) (c : Nat) (l : List V) (xs : List Value) (P : Nat → Prop) (w : World) (hr : Rights l 8) (h : RowIs w P 1 (.slice (some a) l.length c) l.length xs) (hv : GoVs w P l xs) (h60 : l.length ≤ 60) :
    Calls Try.prog 64 #[.slice (some a) l.length c] w fun e w' => e = .returned (pickX l xs) ∧ w' = w := by
  have hm := coalesce_walk a c l xs P w hr h hv h60
  obtain ⟨z, hz⟩ : ∃ z : Value, z = pickX l xs := ⟨_, rfl⟩
  rw [← hz] at hm ⊢
  obtain ⟨n, hn⟩ : ∃ n, n = l.length := ⟨_, rfl⟩
  rw [← hn] at hm ⊢
  clear h hv hr hz hn
  go_enter Try.func64, Try.ntmps64
  go_wp2_with (go_at_call 84; refine hm.mono ?_; rintro e w' ⟨rfl, hw'⟩; subst w')
  go_ret
  exact ⟨rfl, rfl⟩

theorem sprigAll_walk (a : Addr) (c : Nat) (l : List V) (xs : List Value) (P : Nat → Prop) (w : World) (hr : Rights l 8) (h : RowIs w P 1 (.slice (some a) l.length c) l.length xs) (hv : GoVs w P l xs) (h60 : l.length ≤ 60) :
    Calls Try.prog 65 #[.slice (some a) l.length c] w fun e w' => e = .returned (.bool (l.all fun v => !emptyB v)) ∧ w' = w := by
  have hm := all_walk a c l xs P w hr h hv h60
  obtain ⟨z, hz⟩ : ∃ z : Value, z = .bool (l.all fun v => !emptyB v) := ⟨_, rfl⟩
  rw [← hz] at hm ⊢
  obtain ⟨n, hn⟩ : ∃ n, n = l.length := ⟨_, rfl⟩
  rw [← hn] at hm ⊢
  clear h hv hr hz hn
  go_enter Try.func65, Try.ntmps65
  go_wp2_with (go_at_call 85; refine hm.mono ?_; rintro e w' ⟨rfl, hw'⟩; subst w')
  go_ret
  exact ⟨rfl, rfl⟩

theorem sprigAny_walk (a : Addr) (c : Nat) (l : List V) (xs : List Value) (P : Nat → Prop) (w : World) (hr : Rights l 8) (h : RowIs w P 1 (.slice (some a) l.length c) l.length xs) (hv : GoVs w P l xs) (h60 : l.length ≤ 60) :
    Calls Try.prog 66 #[.slice (some a) l.length c] w fun e w' => e = .returned (.bool (l.any fun v => !emptyB v)) ∧ w' = w := by
  have hm := any_walk a c l xs P w hr h hv h60
  obtain ⟨z, hz⟩ : ∃ z : Value, z = .bool (l.any fun v => !emptyB v) := ⟨_, rfl⟩
  rw [← hz] at hm ⊢
  obtain ⟨n, hn⟩ : ∃ n, n = l.length := ⟨_, rfl⟩
  rw [← hn] at hm ⊢
  clear h hv hr hz hn
  go_enter Try.func66, Try.ntmps66
  go_wp2_with (go_at_call 86; refine hm.mono ?_; rintro e w' ⟨rfl, hw'⟩; subst w')
  go_ret
  exact ⟨rfl, rfl⟩

theorem Fines.pick : ∀ {l : List V}, Fines l → Fine (pickV l)
  | [], _ => fine_nil
  | v :: l, h => by
    unfold Fines at h
    unfold pickV
    split
    · exact Fines.pick h.2
    · exact h.1
set_option maxHeartbeats 4000000 in
theorem implCoalesce_walk (l : List V) (hr : Rights l 8) (h60 : l.length ≤ 60) (A : Option Addr) (c : Nat) (xs : List Value) (P : Nat → Prop) (w : World) (hl : RowIs w P 6 (.slice A l.length c) l.length xs) (hv : IsVs w P l xs) :
    Calls Try.prog 34 #[.slice A l.length c] w (PickRes (pickV l) w) := by
  have hfs := fines_of hr hl hv
  have HW : Hid (∀ o, Below w.heap.size w (w.alloc o)) := Lib.hid fun o => (Below.refl _ _).alloc (Nat.le_refl _) o
  have HGL := Lib.hid fun o => goList_walk l (by omega) (fun i h => ⟨8, hr.at_ i h⟩) A c xs P (w.alloc o) (hl.keep (by omega) (Kept.below (HW.out o))) (IsVs.keep (Kept.below (HW.out o)) l hv)
  have HV := Lib.hid (valueOf_of hfs.pick)
  have HRR := Lib.hid hr
  have hsf := store_float
  obtain ⟨n, hn⟩ : ∃ n, n = l.length := ⟨_, rfl⟩
  rw [← hn] at h60 ⊢
  have HN := Lib.hid hn
  clear hr hl hv hfs
  rw [← hn] at HGL
  clear hn
  obtain ⟨v, hv⟩ : ∃ v, v = pickV l := ⟨_, rfl⟩
  rw [← hv] at HV ⊢
  have HVV := Lib.hid hv
  clear hv
  go_enter Try.func34, Try.ntmps34
  go_wp2_with fail
  refine (HGL.out _).mono ?_
  rintro e w1 ⟨a, cap, ys, rfl, HGV, HB1⟩
  have HSF := Lib.hid (sprigCoalesce_walk a cap l ys _ w1 HRR.out HGV.out.1 HGV.out.2 (by rw [← HN.out]; omega))
  have HX0 := Lib.hid (GoVs.pick HGV.out.2)
  obtain ⟨x, hx⟩ : ∃ x, x = pickX l ys := ⟨_, rfl⟩
  rw [← hx] at HSF HX0
  rw [← HN.out] at HSF ⊢
  rw [← HVV.out] at HX0
  clear hx
  go_wp2_with fail
  refine (HSF.out).mono ?_
  rintro e w2 ⟨rfl, hw2⟩
  subst w2
  have HC := Lib.hid (HV.out x _ w1 HX0.out)
  go_wp2_with fail
  refine (HC.out).mono ?_
  rintro e w2 ⟨kv, lv, rfl, HX, HB2⟩
  obtain ⟨Ak, ck, rfl⟩ : ∃ A c, kv = .slice A (norm v).ks.length c := by obtain ⟨_, h, _⟩ := HX.out.parts; obtain ⟨A, c, h, _⟩ := h.form; exact ⟨A, c, h⟩
  obtain ⟨Al, cl, rfl⟩ : ∃ A c, lv = .slice A (norm v).l.length c := by obtain ⟨_, _, h, _⟩ := HX.out.parts; obtain ⟨A, c, h, _⟩ := h.form; exact ⟨A, c, h⟩
  have hs1 : w.heap.size + 1 ≤ w1.heap.size := by have := HB1.out.size; simpa using this
  have hbx : Box6 w2 w.heap.size (.int .i64 0) (.int .i64 0) (.float .f64 0) (.string ⟨#[]⟩) (.slice none 0 0) (.slice none 0 0) := (HB2.out.block w.heap.size (by omega)).trans ((HB1.out.block _ (by simp)).trans (Box6.new w _ _ _ _ _ _))
  obtain ⟨d0, d1, d2, d3, d4, d5⟩ := hbx.cells
  have fz : ∀ j, w2.frozen? ⟨w.heap.size, j, none⟩ = false := fun j => by unfold Box6 at hbx; simp [World.frozen?, hbx]
  have HBX := Lib.hid hbx
  clear hs1 hbx
  go_wp2_with fail
  obtain ⟨w3, hw3⟩ : ∃ w3, w3 = (((((w2.setCell ⟨w.heap.size, 0, none⟩ (.int .i64 (norm v).k)).setCell ⟨w.heap.size, 1, none⟩ (.int .i64 (norm v).n)).setCell ⟨w.heap.size, 2, none⟩ (.float .f64 (norm v).r)).setCell ⟨w.heap.size, 3, none⟩ (.string (norm v).t)).setCell ⟨w.heap.size, 4, none⟩ (.slice Ak (norm v).ks.length ck)).setCell ⟨w.heap.size, 5, none⟩ (.slice Al (norm v).l.length cl) := ⟨_, rfl⟩
  rw [← hw3]
  obtain ⟨hb2, ho2, hl2⟩ := set6 HBX.out _ _ _ _ _ _ hw3
  have e0 : w3.cell? ⟨w.heap.size, 0, none⟩ = some (.int .i64 (norm v).k) := by rw [blk_cell hb2]; rfl
  have e1 : w3.cell? ⟨w.heap.size, 1, none⟩ = some (.int .i64 (norm v).n) := by rw [blk_cell hb2]; rfl
  have e2 : w3.cell? ⟨w.heap.size, 2, none⟩ = some (.float .f64 (norm v).r) := by rw [blk_cell hb2]; rfl
  have e3 : w3.cell? ⟨w.heap.size, 3, none⟩ = some (.string (norm v).t) := by rw [blk_cell hb2]; rfl
  have e4 : w3.cell? ⟨w.heap.size, 4, none⟩ = some (.slice Ak (norm v).ks.length ck) := by rw [blk_cell hb2]; rfl
  have e5 : w3.cell? ⟨w.heap.size, 5, none⟩ = some (.slice Al (norm v).l.length cl) := by rw [blk_cell hb2]; rfl
  refine bodyPost_ret (v := .tuple #[.agg #[.int .i64 (norm v).k, .int .i64 (norm v).n, .float .f64 (norm v).r, .string (norm v).t, .slice Ak (norm v).ks.length ck, .slice Al (norm v).l.length cl], .bool true]) (by simp [results, Try.results34, go_sem, e0, e1, e2, e3, e4, e5]) rfl ?_
  have hs1 : w.heap.size + 1 ≤ w1.heap.size := by have := HB1.out.size; simpa using this
  have hb1 : Below w.heap.size w w1 := (HW.out _).trans (HB1.out.mono (by simp))
  have hb2' : Below w.heap.size w w2 := hb1.trans (HB2.out.mono (by omega))
  have kk : Kept w2 w3 (fun b => w1.heap.size ≤ b) (fun b => w.heap.size ≤ b) := fun b hb _ => ⟨by have hb' : w1.heap.size ≤ b := hb; omega, ho2 b (by have hb' : w1.heap.size ≤ b := hb; omega)⟩
  exact ⟨_, _, rfl, Lib.hid (IsV.keep kk _ HX.out), Lib.hid (hb2'.trans hl2)⟩

theorem implAllOf_walk (l : List V) (hr : Rights l 8) (h60 : l.length ≤ 60) (A : Option Addr) (c : Nat) (xs : List Value) (P : Nat → Prop) (w : World) (hl : RowIs w P 6 (.slice A l.length c) l.length xs) (hv : IsVs w P l xs) :
    Calls Try.prog 35 #[.slice A l.length c] w fun e w' => e = .returned (.tuple #[.bool (l.all fun v => !emptyB v), .bool true]) ∧ Below w.heap.size w w' := by
  have HGL := Lib.hid (goList_walk l (by omega) (fun i h => ⟨8, hr.at_ i h⟩) A c xs P w hl hv)
  have HC : Hid (∀ (a : Addr) (cap : Nat) (ys : List Value) (W : World), RowIs W (fun b => w.heap.size ≤ b) 1 (.slice (some a) l.length cap) l.length ys → GoVs W (fun b => w.heap.size ≤ b) l ys → Calls Try.prog 65 #[.slice (some a) l.length cap] W fun e w' => e = .returned (.bool (l.all fun v => !emptyB v)) ∧ w' = W) :=
    Lib.hid fun a cap ys W h1 h2 => sprigAll_walk a cap l ys _ W hr h1 h2 h60
  obtain ⟨z, hz⟩ : ∃ z : Value, z = .bool (l.all fun v => !emptyB v) := ⟨_, rfl⟩
  rw [← hz] at HC ⊢
  obtain ⟨n, hn⟩ : ∃ n, n = l.length := ⟨_, rfl⟩
  have HN := Lib.hid hn
  rw [← hn] at HGL HC ⊢
  clear hl hv hr hn
  have hzb : ∃ b, z = .bool b := ⟨_, hz⟩
  clear hz
  obtain ⟨zb, rfl⟩ := hzb
  go_enter Try.func35, Try.ntmps35
  go_wp2_with fail
  refine (HGL.out).mono ?_
  rintro e w1 ⟨a, cap, ys, rfl, HGV, HB1⟩
  rw [← HN.out] at HGV
  rw [← HN.out]
  have HC1 := Lib.hid (HC.out a cap ys w1 HGV.out.1 HGV.out.2)
  go_wp2_with fail
  refine (HC1.out).mono ?_
  rintro e w2 ⟨rfl, hw2⟩
  subst w2
  go_wp2_with fail
  go_ret2
  exact ⟨rfl, HB1.out⟩

theorem implAnyOf_walk (l : List V) (hr : Rights l 8) (h60 : l.length ≤ 60) (A : Option Addr) (c : Nat) (xs : List Value) (P : Nat → Prop) (w : World) (hl : RowIs w P 6 (.slice A l.length c) l.length xs) (hv : IsVs w P l xs) :
    Calls Try.prog 36 #[.slice A l.length c] w fun e w' => e = .returned (.tuple #[.bool (l.any fun v => !emptyB v), .bool true]) ∧ Below w.heap.size w w' := by
  have HGL := Lib.hid (goList_walk l (by omega) (fun i h => ⟨8, hr.at_ i h⟩) A c xs P w hl hv)
  have HC : Hid (∀ (a : Addr) (cap : Nat) (ys : List Value) (W : World), RowIs W (fun b => w.heap.size ≤ b) 1 (.slice (some a) l.length cap) l.length ys → GoVs W (fun b => w.heap.size ≤ b) l ys → Calls Try.prog 66 #[.slice (some a) l.length cap] W fun e w' => e = .returned (.bool (l.any fun v => !emptyB v)) ∧ w' = W) :=
    Lib.hid fun a cap ys W h1 h2 => sprigAny_walk a cap l ys _ W hr h1 h2 h60
  obtain ⟨z, hz⟩ : ∃ z : Value, z = .bool (l.any fun v => !emptyB v) := ⟨_, rfl⟩
  rw [← hz] at HC ⊢
  obtain ⟨n, hn⟩ : ∃ n, n = l.length := ⟨_, rfl⟩
  have HN := Lib.hid hn
  rw [← hn] at HGL HC ⊢
  clear hl hv hr hn
  have hzb : ∃ b, z = .bool b := ⟨_, hz⟩
  clear hz
  obtain ⟨zb, rfl⟩ := hzb
  go_enter Try.func36, Try.ntmps36
  go_wp2_with fail
  refine (HGL.out).mono ?_
  rintro e w1 ⟨a, cap, ys, rfl, HGV, HB1⟩
  rw [← HN.out] at HGV
  rw [← HN.out]
  have HC1 := Lib.hid (HC.out a cap ys w1 HGV.out.1 HGV.out.2)
  go_wp2_with fail
  refine (HC1.out).mono ?_
  rintro e w2 ⟨rfl, hw2⟩
  subst w2
  go_wp2_with fail
  go_ret2
  exact ⟨rfl, HB1.out⟩
end Go.Proofs.Ytlkfdjnkkooofaa.Vals
