/- Walks of impl.First, Last, Rest, Initial. -/
import Derived.Test.YtlkfdjnkkooofaaValE
import Derived.Test.YtlkfdjnkkooofaaValA
namespace Go.Proofs.Ytlkfdjnkkooofaa.Vals
open Go.RowKit Go.Proofs.YtlkfdjnkkooofaaW.PrintWords
set_option linter.unusedVariables false
set_option maxRecDepth 20000

def V.nil : V := .mk 0 0 0 ⟨#[]⟩ [] []
theorem fine_nil : Fine V.nil := by
  unfold V.nil Fine
  exact ⟨by omega, i64_small (by omega) (by omega), by show 0 ≤ maxLen; omega, by simp, fun h => absurd h (by omega), by unfold Fines; trivial⟩
theorem norm_nil : norm V.nil = V.nil := by unfold V.nil; rw [norm_0]
theorem GoV.nil (w : World) (P : Nat → Prop) : GoV w P V.nil .nilIface := by unfold V.nil GoV; exact .inl ⟨rfl, rfl⟩
theorem GoVs.head {w : World} {P : Nat → Prop} : ∀ {l : List V} {xs : List Value}, GoVs w P l xs → GoV w P (l.headD V.nil) (xs.headD .nilIface)
  | [], xs, h => by unfold GoVs at h; subst h; exact GoV.nil w P
  | v :: l, xs, h => by unfold GoVs at h; obtain ⟨x, r, rfl, h1, _⟩ := h; exact h1
theorem GoVs.last {w : World} {P : Nat → Prop} : ∀ {l : List V} {xs : List Value}, GoVs w P l xs → GoV w P (l.getLastD V.nil) (xs.getLastD .nilIface)
  | [], xs, h => by unfold GoVs at h; subst h; exact GoV.nil w P
  | [v], xs, h => by
    unfold GoVs at h; obtain ⟨x, r, rfl, h1, h2⟩ := h
    unfold GoVs at h2; subst h2; exact h1
  | v :: u :: l, xs, h => by
    unfold GoVs at h; obtain ⟨x, r, rfl, _, h2⟩ := h
    have := GoVs.last h2
    unfold GoVs at h2; obtain ⟨y, s, rfl, _, _⟩ := h2
    simpa using this
theorem Fines.head : ∀ {l : List V}, Fines l → Fine (l.headD V.nil)
  | [], _ => fine_nil
  | v :: l, h => by unfold Fines at h; exact h.1
theorem Fines.last : ∀ {l : List V}, Fines l → Fine (l.getLastD V.nil)
  | [], _ => fine_nil
  | [v], h => by unfold Fines at h; exact h.1
  | v :: u :: r, h => by
    unfold Fines at h
    have := Fines.last (l := u :: r) h.2
    simpa using this
theorem nil_nil : ∀ w, (binOp .eql 68 .nilIface .nilIface).run Try.prog w = .ok (.bool true) w := fun w => by kernel_rfl
def PickRes (v : V) (w : World) (e : Ending) (w' : World) : Prop := ∃ kv lv, e = .returned (.tuple #[.agg #[.int .i64 (norm v).k, .int .i64 (norm v).n, .float .f64 (norm v).r, .string (norm v).t, kv, lv], .bool true]) ∧
  Hid (IsV w' (fun b => w.heap.size ≤ b) (norm v) [.int .i64 (norm v).k, .int .i64 (norm v).n, .float .f64 (norm v).r, .string (norm v).t, kv, lv]) ∧ Hid (Below w.heap.size w w')
def ListRes (l : List V) (w : World) (e : Ending) (w' : World) : Prop := ∃ A c ys, e = .returned (.tuple #[.slice A l.length c, .bool true]) ∧
  Hid (RowIs w' (fun b => w.heap.size ≤ b) 6 (.slice A l.length c) l.length ys ∧ IsVs w' (fun b => w.heap.size ≤ b) (norms l) ys) ∧ Hid (Below w.heap.size w w')

set_option maxHeartbeats 4000000 in
theorem implFirst_walk (l : List V) (hr : Rights l 8) (h60 : l.length ≤ 60) (A : Option Addr) (c : Nat) (xs : List Value) (P : Nat → Prop) (w : World) (hl : RowIs w P 6 (.slice A l.length c) l.length xs) (hv : IsVs w P l xs) :
    Calls Try.prog 39 #[.slice A l.length c] w (PickRes (l.headD V.nil) w) := by
  have hfs := fines_of hr hl hv
  have HW : Hid (∀ o, Below w.heap.size w (w.alloc o)) := Lib.hid fun o => (Below.refl _ _).alloc (Nat.le_refl _) o
  have HGL := Lib.hid fun o => goList_walk l (by omega) (fun i h => ⟨8, hr.at_ i h⟩) A c xs P (w.alloc o) (hl.keep (by omega) (Kept.below (HW.out o))) (IsVs.keep (Kept.below (HW.out o)) l hv)
  have HV := Lib.hid (valueOf_of hfs.head)
  have hsf := store_float
  have hnn := nil_nil
  obtain ⟨n, hn⟩ : ∃ n, n = l.length := ⟨_, rfl⟩
  rw [← hn] at h60 ⊢
  have HN := Lib.hid hn
  clear hr hl hv hfs
  rw [← hn] at HGL
  clear hn
  obtain ⟨v, hv⟩ : ∃ v, v = l.headD V.nil := ⟨_, rfl⟩
  rw [← hv] at HV ⊢
  have HVV := Lib.hid hv
  clear hv
  go_enter Try.func39, Try.ntmps39
  go_wp2_with fail
  refine (HGL.out _).mono ?_
  rintro e w1 ⟨a, cap, ys, rfl, HGV, HB1⟩
  have HSF := Lib.hid (sprigFirst_walk a l.length cap ys _ w1 HGV.out.1 (by rw [← HN.out]; omega))
  have HX0 := Lib.hid (GoVs.head HGV.out.2)
  obtain ⟨x, hx⟩ : ∃ x, x = ys.headD .nilIface := ⟨_, rfl⟩
  rw [← hx] at HSF HX0
  rw [← HN.out] at HSF ⊢
  rw [← HVV.out] at HX0
  clear hx
  go_wp2_with fail
  refine (HSF.out).mono ?_
  rintro e w2 ⟨rfl, hw2⟩
  subst w2
  have hbd : Below w1.heap.size w1 w1.drew := ⟨rfl, rfl, rfl, Nat.le_refl _, fun _ _ => rfl⟩
  have HC := Lib.hid (HV.out x _ w1.drew (GoV.keep (Kept.below hbd) v HX0.out))
  clear hbd
  go_wp2_with fail
  go_region_law (go_simp; go_at_call 63; refine (HC.out).mono ?_; rintro e w2 ⟨kv, lv, rfl, HX, HB2⟩
                 obtain ⟨Ak, ck, rfl⟩ : ∃ A c, kv = .slice A (norm v).ks.length c := by obtain ⟨_, h, _⟩ := HX.out.parts; obtain ⟨A, c, h, _⟩ := h.form; exact ⟨A, c, h⟩
                 obtain ⟨Al, cl, rfl⟩ : ∃ A c, lv = .slice A (norm v).l.length c := by obtain ⟨_, _, h, _⟩ := HX.out.parts; obtain ⟨A, c, h, _⟩ := h.form; exact ⟨A, c, h⟩
                 have hs1 : w.heap.size + 1 ≤ w1.heap.size := by have := HB1.out.size; simpa using this
                 have hbx : Box6 w2 w.heap.size (.int .i64 0) (.int .i64 0) (.float .f64 0) (.string ⟨#[]⟩) (.slice none 0 0) (.slice none 0 0) := (HB2.out.block w.heap.size (by show w.heap.size < w1.heap.size; omega)).trans ((HB1.out.block _ (by simp)).trans (Box6.new w _ _ _ _ _ _))
                 obtain ⟨d0, d1, d2, d3, d4, d5⟩ := hbx.cells
                 have fz : ∀ j, w2.frozen? ⟨w.heap.size, j, none⟩ = false := fun j => by unfold Box6 at hbx; simp [World.frozen?, hbx]
                 have HBX := Lib.hid hbx
                 clear hs1 hbx)
  all_goals (
    go_wp2_with fail
    obtain ⟨w3, hw3⟩ : ∃ w3, w3 = (((((w2.setCell ⟨w.heap.size, 0, none⟩ (.int .i64 (norm v).k)).setCell ⟨w.heap.size, 1, none⟩ (.int .i64 (norm v).n)).setCell ⟨w.heap.size, 2, none⟩ (.float .f64 (norm v).r)).setCell ⟨w.heap.size, 3, none⟩ (.string (norm v).t)).setCell ⟨w.heap.size, 4, none⟩ (.slice Ak (norm v).ks.length ck)).setCell ⟨w.heap.size, 5, none⟩ (.slice Al (norm v).l.length cl) := ⟨_, rfl⟩
    rw [← hw3]
    obtain ⟨hb2, ho2, hl2⟩ := set6 HBX.out _ _ _ _ _ _ hw3
    have e0 : w3.cell? ⟨w.heap.size, 0, none⟩ = some (.int .i64 (norm v).k) := by rw [blk_cell hb2]; rfl
    have e1 : w3.cell? ⟨w.heap.size, 1, none⟩ = some (.int .i64 (norm v).n) := by rw [blk_cell hb2]; rfl
    have e2 : w3.cell? ⟨w.heap.size, 2, none⟩ = some (.float .f64 (norm v).r) := by rw [blk_cell hb2]; rfl
    have e3 : w3.cell? ⟨w.heap.size, 3, none⟩ = some (.string (norm v).t) := by rw [blk_cell hb2]; rfl
    have e4 : w3.cell? ⟨w.heap.size, 4, none⟩ = some (.slice Ak (norm v).ks.length ck) := by rw [blk_cell hb2]; rfl
    have e5 : w3.cell? ⟨w.heap.size, 5, none⟩ = some (.slice Al (norm v).l.length cl) := by rw [blk_cell hb2]; rfl
    refine bodyPost_ret (v := .tuple #[.agg #[.int .i64 (norm v).k, .int .i64 (norm v).n, .float .f64 (norm v).r, .string (norm v).t, .slice Ak (norm v).ks.length ck, .slice Al (norm v).l.length cl], .bool true]) (by simp [results, Try.results39, go_sem, e0, e1, e2, e3, e4, e5]) rfl ?_
    have hs1 : w.heap.size + 1 ≤ w1.heap.size := by have := HB1.out.size; simpa using this
    have hb1 : Below w.heap.size w w1 := (HW.out _).trans (HB1.out.mono (by simp))
    have hb2' : Below w.heap.size w w2 := Below.trans (b := w1.drew) (hb1.trans (c := w1.drew) ⟨rfl, rfl, rfl, Nat.le_refl _, fun _ _ => rfl⟩) (HB2.out.mono (by show w.heap.size ≤ w1.heap.size; omega))
    have kk : Kept w2 w3 (fun b => w1.heap.size ≤ b) (fun b => w.heap.size ≤ b) := fun b hb _ => ⟨by have hb' : w1.heap.size ≤ b := hb; omega, ho2 b (by have hb' : w1.heap.size ≤ b := hb; omega)⟩
    exact ⟨_, _, rfl, Lib.hid (IsV.keep kk _ HX.out), Lib.hid (hb2'.trans hl2)⟩)

set_option maxHeartbeats 4000000 in
theorem implLast_walk (l : List V) (hr : Rights l 8) (h60 : l.length ≤ 60) (A : Option Addr) (c : Nat) (xs : List Value) (P : Nat → Prop) (w : World) (hl : RowIs w P 6 (.slice A l.length c) l.length xs) (hv : IsVs w P l xs) :
    Calls Try.prog 40 #[.slice A l.length c] w (PickRes (l.getLastD V.nil) w) := by
  have hfs := fines_of hr hl hv
  have HW : Hid (∀ o, Below w.heap.size w (w.alloc o)) := Lib.hid fun o => (Below.refl _ _).alloc (Nat.le_refl _) o
  have HGL := Lib.hid fun o => goList_walk l (by omega) (fun i h => ⟨8, hr.at_ i h⟩) A c xs P (w.alloc o) (hl.keep (by omega) (Kept.below (HW.out o))) (IsVs.keep (Kept.below (HW.out o)) l hv)
  have HV := Lib.hid (valueOf_of hfs.last)
  have hsf := store_float
  have hnn := nil_nil
  obtain ⟨n, hn⟩ : ∃ n, n = l.length := ⟨_, rfl⟩
  rw [← hn] at h60 ⊢
  have HN := Lib.hid hn
  clear hr hl hv hfs
  rw [← hn] at HGL
  clear hn
  obtain ⟨v, hv⟩ : ∃ v, v = l.getLastD V.nil := ⟨_, rfl⟩
  rw [← hv] at HV ⊢
  have HVV := Lib.hid hv
  clear hv
  go_enter Try.func40, Try.ntmps40
  go_wp2_with fail
  refine (HGL.out _).mono ?_
  rintro e w1 ⟨a, cap, ys, rfl, HGV, HB1⟩
  have HSF := Lib.hid (sprigLast_walk a l.length cap ys _ w1 HGV.out.1 (by rw [← HN.out]; omega))
  have HX0 := Lib.hid (GoVs.last HGV.out.2)
  obtain ⟨x, hx⟩ : ∃ x, x = ys.getLastD .nilIface := ⟨_, rfl⟩
  rw [← hx] at HSF HX0
  rw [← HN.out] at HSF ⊢
  rw [← HVV.out] at HX0
  clear hx
  go_wp2_with fail
  refine (HSF.out).mono ?_
  rintro e w2 ⟨rfl, hw2⟩
  subst w2
  have hbd : Below w1.heap.size w1 w1.drew := ⟨rfl, rfl, rfl, Nat.le_refl _, fun _ _ => rfl⟩
  have HC := Lib.hid (HV.out x _ w1.drew (GoV.keep (Kept.below hbd) v HX0.out))
  clear hbd
  go_wp2_with fail
  go_region_law (go_simp; go_at_call 63; refine (HC.out).mono ?_; rintro e w2 ⟨kv, lv, rfl, HX, HB2⟩
                 obtain ⟨Ak, ck, rfl⟩ : ∃ A c, kv = .slice A (norm v).ks.length c := by obtain ⟨_, h, _⟩ := HX.out.parts; obtain ⟨A, c, h, _⟩ := h.form; exact ⟨A, c, h⟩
                 obtain ⟨Al, cl, rfl⟩ : ∃ A c, lv = .slice A (norm v).l.length c := by obtain ⟨_, _, h, _⟩ := HX.out.parts; obtain ⟨A, c, h, _⟩ := h.form; exact ⟨A, c, h⟩
                 have hs1 : w.heap.size + 1 ≤ w1.heap.size := by have := HB1.out.size; simpa using this
                 have hbx : Box6 w2 w.heap.size (.int .i64 0) (.int .i64 0) (.float .f64 0) (.string ⟨#[]⟩) (.slice none 0 0) (.slice none 0 0) := (HB2.out.block w.heap.size (by show w.heap.size < w1.heap.size; omega)).trans ((HB1.out.block _ (by simp)).trans (Box6.new w _ _ _ _ _ _))
                 obtain ⟨d0, d1, d2, d3, d4, d5⟩ := hbx.cells
                 have fz : ∀ j, w2.frozen? ⟨w.heap.size, j, none⟩ = false := fun j => by unfold Box6 at hbx; simp [World.frozen?, hbx]
                 have HBX := Lib.hid hbx
                 clear hs1 hbx)
  all_goals (
    go_wp2_with fail
    obtain ⟨w3, hw3⟩ : ∃ w3, w3 = (((((w2.setCell ⟨w.heap.size, 0, none⟩ (.int .i64 (norm v).k)).setCell ⟨w.heap.size, 1, none⟩ (.int .i64 (norm v).n)).setCell ⟨w.heap.size, 2, none⟩ (.float .f64 (norm v).r)).setCell ⟨w.heap.size, 3, none⟩ (.string (norm v).t)).setCell ⟨w.heap.size, 4, none⟩ (.slice Ak (norm v).ks.length ck)).setCell ⟨w.heap.size, 5, none⟩ (.slice Al (norm v).l.length cl) := ⟨_, rfl⟩
    rw [← hw3]
    obtain ⟨hb2, ho2, hl2⟩ := set6 HBX.out _ _ _ _ _ _ hw3
    have e0 : w3.cell? ⟨w.heap.size, 0, none⟩ = some (.int .i64 (norm v).k) := by rw [blk_cell hb2]; rfl
    have e1 : w3.cell? ⟨w.heap.size, 1, none⟩ = some (.int .i64 (norm v).n) := by rw [blk_cell hb2]; rfl
    have e2 : w3.cell? ⟨w.heap.size, 2, none⟩ = some (.float .f64 (norm v).r) := by rw [blk_cell hb2]; rfl
    have e3 : w3.cell? ⟨w.heap.size, 3, none⟩ = some (.string (norm v).t) := by rw [blk_cell hb2]; rfl
    have e4 : w3.cell? ⟨w.heap.size, 4, none⟩ = some (.slice Ak (norm v).ks.length ck) := by rw [blk_cell hb2]; rfl
    have e5 : w3.cell? ⟨w.heap.size, 5, none⟩ = some (.slice Al (norm v).l.length cl) := by rw [blk_cell hb2]; rfl
    refine bodyPost_ret (v := .tuple #[.agg #[.int .i64 (norm v).k, .int .i64 (norm v).n, .float .f64 (norm v).r, .string (norm v).t, .slice Ak (norm v).ks.length ck, .slice Al (norm v).l.length cl], .bool true]) (by simp [results, Try.results40, go_sem, e0, e1, e2, e3, e4, e5]) rfl ?_
    have hs1 : w.heap.size + 1 ≤ w1.heap.size := by have := HB1.out.size; simpa using this
    have hb1 : Below w.heap.size w w1 := (HW.out _).trans (HB1.out.mono (by simp))
    have hb2' : Below w.heap.size w w2 := Below.trans (b := w1.drew) (hb1.trans (c := w1.drew) ⟨rfl, rfl, rfl, Nat.le_refl _, fun _ _ => rfl⟩) (HB2.out.mono (by show w.heap.size ≤ w1.heap.size; omega))
    have kk : Kept w2 w3 (fun b => w1.heap.size ≤ b) (fun b => w.heap.size ≤ b) := fun b hb _ => ⟨by have hb' : w1.heap.size ≤ b := hb; omega, ho2 b (by have hb' : w1.heap.size ≤ b := hb; omega)⟩
    exact ⟨_, _, rfl, Lib.hid (IsV.keep kk _ HX.out), Lib.hid (hb2'.trans hl2)⟩)

set_option maxHeartbeats 4000000 in
theorem implRest_walk (l : List V) (hr : Rights l 8) (h60 : l.length ≤ 60) (A : Option Addr) (c : Nat) (xs : List Value) (P : Nat → Prop) (w : World) (hl : RowIs w P 6 (.slice A l.length c) l.length xs) (hv : IsVs w P l xs) :
    Calls Try.prog 41 #[.slice A l.length c] w (ListRes (l.drop 1) w) := by
  have hfs := fines_of hr hl hv
  have HFS : Hid (Fines (l.drop 1)) := Lib.hid (Fines.mk fun i h => by
    have h' := h
    simp at h'
    first | (rw [List.getElem_take]; exact hfs.at_ _ _) | (rw [List.getElem_drop]; exact hfs.at_ _ _))
  have HGL := Lib.hid (goList_walk l (by omega) (fun i h => ⟨8, hr.at_ i h⟩) A c xs P w hl hv)
  have hnn := nil_nil
  obtain ⟨n, hn⟩ : ∃ n, n = l.length := ⟨_, rfl⟩
  obtain ⟨ls, hls⟩ : ∃ ls, ls = l.drop 1 := ⟨_, rfl⟩
  have hlsl : ls.length = n - 1 := by rw [hls, hn]; simp
  rw [← hls] at HFS ⊢
  rw [← hn] at h60 HGL ⊢
  have HN := Lib.hid (And.intro hn (And.intro hls hlsl))
  clear hr hl hv hfs hn hls hlsl
  have HLT : Hid (∀ (a : Addr) (cap : Nat) (ys : List Value) (W : World), RowIs W (fun b => w.heap.size ≤ b) 1 (.slice (some a) n cap) n ys → GoVs W (fun b => w.heap.size ≤ b) l ys → Calls Try.prog 71 #[.iface 64 (.slice (some a) n cap)] W (RestRes n ys W)) :=
    Lib.hid fun a cap ys W h1 h2 => sprigRest_walk a n cap ys _ W h1 (by omega) (GoVs.face h2)
  go_enter Try.func41, Try.ntmps41
  go_wp2_with fail
  go_enter Try.func67, Try.ntmps67
  go_wp2_with fail
  refine (HGL.out).mono ?_
  rintro e w1 ⟨a, cap, ys, rfl, HGV, HB1⟩
  rw [← HN.out.1] at HGV
  have HC1 := Lib.hid (HLT.out a cap ys w1 HGV.out.1 HGV.out.2)
  rw [← HN.out.1]
  go_wp2_with fail
  refine (HC1.out).mono ?_
  rintro e w2 ⟨A2, c2, rfl, H1, H2⟩
  have hg2 : GoVs w2 (fun _ => True) ls (ys.drop 1) := by
    rw [HN.out.2.1]
    exact GoVs.keep (Kept.trans (Kept.below H2.out) (Kept.mono (fun _ _ _ => trivial))) _ (GoVs.drop _ HGV.out.2)
  have hr2 : RowIs w2 (fun _ => True) 1 (.slice A2 ls.length c2) ls.length (ys.drop 1) := by
    rw [HN.out.2.2]
    exact H1.out.keep (by omega) (Kept.mono (fun _ _ _ => trivial))
  have hbd : Below w2.heap.size w2 w2.drew := ⟨rfl, rfl, rfl, Nat.le_refl _, fun _ _ => rfl⟩
  have hcv := valuesOf_of HFS.out (by have := HN.out.2.2; omega) A2 c2 (ys.drop 1) _ w2.drew (hr2.keep (by omega) (Kept.below hbd)) (GoVs.keep (Kept.below hbd) _ hg2)
  rw [HN.out.2.2] at hcv
  have HC := Lib.hid hcv
  have HBW := Lib.hid (HB1.out.trans (H2.out.mono HB1.out.size))
  clear hg2 hr2 hbd hcv
  go_wp2_with fail
  go_region_law (go_simp; go_at_call 59; refine (HC.out).mono ?_; rintro e w3 ⟨A3, c3, zs, rfl, HX, HB3⟩)
  all_goals (
    go_wp2_with fail
    go_ret2
    have hll := HN.out.2.2
    refine ⟨A3, c3, zs, by rw [hll]; rfl, Lib.hid ⟨?_, ?_⟩, Lib.hid ((HBW.out.trans (c := w2.drew) ⟨rfl, rfl, rfl, Nat.le_refl _, fun _ _ => rfl⟩).trans (HB3.out.mono HBW.out.size))⟩
    · have h := HX.out.1.keep (by omega) (Kept.mono (Q := fun b => w.heap.size ≤ b) (fun b hb _ => Nat.le_trans HBW.out.size hb))
      exact h
    · exact IsVs.keep (Kept.mono (fun b hb _ => Nat.le_trans HBW.out.size hb)) _ HX.out.2)

set_option maxHeartbeats 4000000 in
theorem implInitial_walk (l : List V) (hr : Rights l 8) (h60 : l.length ≤ 60) (A : Option Addr) (c : Nat) (xs : List Value) (P : Nat → Prop) (w : World) (hl : RowIs w P 6 (.slice A l.length c) l.length xs) (hv : IsVs w P l xs) :
    Calls Try.prog 42 #[.slice A l.length c] w (ListRes (l.take (l.length - 1)) w) := by
  have hfs := fines_of hr hl hv
  have HFS : Hid (Fines (l.take (l.length - 1))) := Lib.hid (Fines.mk fun i h => by
    have h' := h
    simp at h'
    first | (rw [List.getElem_take]; exact hfs.at_ _ _) | (rw [List.getElem_drop]; exact hfs.at_ _ _))
  have HGL := Lib.hid (goList_walk l (by omega) (fun i h => ⟨8, hr.at_ i h⟩) A c xs P w hl hv)
  have hnn := nil_nil
  obtain ⟨n, hn⟩ : ∃ n, n = l.length := ⟨_, rfl⟩
  obtain ⟨ls, hls⟩ : ∃ ls, ls = l.take (l.length - 1) := ⟨_, rfl⟩
  have hlsl : ls.length = n - 1 := by rw [hls, hn]; simp
  rw [← hls] at HFS ⊢
  rw [← hn] at h60 HGL ⊢
  have HN := Lib.hid (And.intro hn (And.intro hls hlsl))
  clear hr hl hv hfs hn hls hlsl
  have HLT : Hid (∀ (a : Addr) (cap : Nat) (ys : List Value) (W : World), RowIs W (fun b => w.heap.size ≤ b) 1 (.slice (some a) n cap) n ys → GoVs W (fun b => w.heap.size ≤ b) l ys → Calls Try.prog 72 #[.iface 64 (.slice (some a) n cap)] W (InitialRes n ys W)) :=
    Lib.hid fun a cap ys W h1 h2 => sprigInitial_walk a n cap ys _ W h1 (by omega) (GoVs.face h2)
  go_enter Try.func42, Try.ntmps42
  go_wp2_with fail
  go_enter Try.func67, Try.ntmps67
  go_wp2_with fail
  refine (HGL.out).mono ?_
  rintro e w1 ⟨a, cap, ys, rfl, HGV, HB1⟩
  rw [← HN.out.1] at HGV
  have HC1 := Lib.hid (HLT.out a cap ys w1 HGV.out.1 HGV.out.2)
  rw [← HN.out.1]
  go_wp2_with fail
  refine (HC1.out).mono ?_
  rintro e w2 ⟨A2, c2, rfl, H1, H2⟩
  have hg2 : GoVs w2 (fun _ => True) ls (ys.take (n - 1)) := by
    rw [HN.out.2.1, HN.out.1]
    exact GoVs.keep (Kept.trans (Kept.below H2.out) (Kept.mono (fun _ _ _ => trivial))) _ (GoVs.take _ HGV.out.2)
  have hr2 : RowIs w2 (fun _ => True) 1 (.slice A2 ls.length c2) ls.length (ys.take (n - 1)) := by
    rw [HN.out.2.2]
    exact H1.out.keep (by omega) (Kept.mono (fun _ _ _ => trivial))
  have hbd : Below w2.heap.size w2 w2.drew := ⟨rfl, rfl, rfl, Nat.le_refl _, fun _ _ => rfl⟩
  have hcv := valuesOf_of HFS.out (by have := HN.out.2.2; omega) A2 c2 (ys.take (n - 1)) _ w2.drew (hr2.keep (by omega) (Kept.below hbd)) (GoVs.keep (Kept.below hbd) _ hg2)
  rw [HN.out.2.2] at hcv
  have HC := Lib.hid hcv
  have HBW := Lib.hid (HB1.out.trans (H2.out.mono HB1.out.size))
  clear hg2 hr2 hbd hcv
  go_wp2_with fail
  go_region_law (go_simp; go_at_call 59; refine (HC.out).mono ?_; rintro e w3 ⟨A3, c3, zs, rfl, HX, HB3⟩)
  all_goals (
    go_wp2_with fail
    go_ret2
    have hll := HN.out.2.2
    refine ⟨A3, c3, zs, by rw [hll]; rfl, Lib.hid ⟨?_, ?_⟩, Lib.hid ((HBW.out.trans (c := w2.drew) ⟨rfl, rfl, rfl, Nat.le_refl _, fun _ _ => rfl⟩).trans (HB3.out.mono HBW.out.size))⟩
    · have h := HX.out.1.keep (by omega) (Kept.mono (Q := fun b => w.heap.size ≤ b) (fun b hb _ => Nat.le_trans HBW.out.size hb))
      exact h
    · exact IsVs.keep (Kept.mono (fun b hb _ => Nat.le_trans HBW.out.size hb)) _ HX.out.2)
end Go.Proofs.Ytlkfdjnkkooofaa.Vals
