/- Semantic versions, plain: blanks and marks in a text; the printed functions zzSpace, zzMark, isX. -/
import Derived.Test.YtoebognfkigooaaGreatDoorMB
import Derived.Test.YtoebognfkigooaaGreatDoorPFnSemverEitherx1
import Derived.Test.YtoebognfkigooaaGreatDoorMA
import Derived.WalkKit
import Derived.WalkLawsBesides
import Derived.WalkSpells
import Derived.Outline
import Derived.BigCall
import Derived.BigRegion
import Derived.LoopN
import Derived.Lib.Hide
import Derived.OwnWalk
import Derived.IntWalk
import Derived.Deep.RegionWith
import Derived.Deep.AppendLies
import Derived.Deep.DeepMust
namespace Go.Proofs.YtoebognfkigooaaGreatDoor.Sv
open Go.RowKit Go.Proofs.YtoebognfkigooaaGreatDoor.PFnSemverEither Go.Proofs.YtoebognfkigooaaGreatDoorW.PrintWords Go.Proofs.YtoebognfkigooaaGreatDoor.Txt Go.Proofs.YtoebognfkigooaaGreatDoor
set_option linter.unusedVariables false
set_option linter.unusedSimpArgs false

def isSp (c : UInt8) : Bool := decide (c.toNat = 32) || decide (c.toNat = 9) || decide (c.toNat = 10) || decide (c.toNat = 12) || decide (c.toNat = 13)
def isMk (c : UInt8) : Bool := isDig c || decide (c.toNat = 120) || decide (c.toNat = 88) || decide (c.toNat = 42) || decide (c.toNat = 124)
theorem space_ev (s : ByteArray) (hs : s.size ≤ 1000) : ∀ (d i : Nat), s.size - i = d → i ≤ s.size → Ev (fun k => semver_zzSpace.f k s (i : Int)) ((scan isSp s.toList i : Nat) : Int) := by
  have hl := len_eq s
  intro d
  induction d with
  | zero =>
    intro i hd hi
    rw [scan_stop (fun h => by omega)]
    refine Ev.step (f := fun _ => some (i : Int)) (fun k => ?_) (Ev.now _)
    unfold semver_zzSpace.f
    simp only [semver_zzSpace.l0]
    rw [if_neg (by omega)]
  | succ d ih =>
    intro i hd hi
    have hlt : i < s.toList.length := by omega
    have hb := bt_nat s i hlt
    have hi1 : (i : Int) < (s.size : Int) := by omega
    have hi2 : (0 : Int) ≤ (i : Int) := by omega
    have hw : wrap64 ((i : Int) + 1) = ((i + 1 : Nat) : Int) := wsucc i (by omega)
    generalize hcc : s.toList[i] = c at hb
    cases hc : isSp c with
    | true =>
      rw [scan_step hlt (by rw [hcc]; exact hc)]
      refine Ev.step (fun k => ?_) (ih (i + 1) (by omega) (by omega))
      unfold semver_zzSpace.f
      simp only [semver_zzSpace.l0]
      rw [hb, if_pos hi1, if_pos hi2, hw]
      simp only [isSp, Bool.or_eq_true, decide_eq_true_eq] at hc
      repeat' split
      all_goals first | rfl | (exfalso; omega)
    | false =>
      rw [scan_stop (fun _ => by rw [hcc]; exact hc)]
      refine Ev.step (f := fun _ => some (i : Int)) (fun k => ?_) (Ev.now _)
      unfold semver_zzSpace.f
      simp only [semver_zzSpace.l0]
      rw [hb, if_pos hi1, if_pos hi2]
      simp only [isSp, Bool.or_eq_false_iff, decide_eq_false_iff_not] at hc
      repeat' split
      all_goals first | rfl | (exfalso; omega)
theorem mark_ev (s : ByteArray) (hs : s.size ≤ 1000) : ∀ (d i : Nat), s.size - i = d → i ≤ s.size → Ev (fun k => semver_zzMark.f k s (i : Int)) ((scan isMk s.toList i : Nat) : Int) := by
  have hl := len_eq s
  intro d
  induction d with
  | zero =>
    intro i hd hi
    rw [scan_stop (fun h => by omega)]
    refine Ev.step (f := fun _ => some (i : Int)) (fun k => ?_) (Ev.now _)
    unfold semver_zzMark.f
    simp only [semver_zzMark.l0]
    rw [if_neg (by omega)]
  | succ d ih =>
    intro i hd hi
    have hlt : i < s.toList.length := by omega
    have hb := bt_nat s i hlt
    have hi1 : (i : Int) < (s.size : Int) := by omega
    have hi2 : (0 : Int) ≤ (i : Int) := by omega
    have hw : wrap64 ((i : Int) + 1) = ((i + 1 : Nat) : Int) := wsucc i (by omega)
    generalize hcc : s.toList[i] = c at hb
    cases hc : isMk c with
    | true =>
      rw [scan_step hlt (by rw [hcc]; exact hc)]
      refine Ev.step (fun k => ?_) (ih (i + 1) (by omega) (by omega))
      unfold semver_zzMark.f
      simp only [semver_zzMark.l0]
      rw [hb, if_pos hi1, if_pos hi2, hw]
      simp only [isMk, isDig, Bool.or_eq_true, Bool.and_eq_true, decide_eq_true_eq] at hc
      repeat' split
      all_goals first | rfl | (exfalso; omega)
    | false =>
      rw [scan_stop (fun _ => by rw [hcc]; exact hc)]
      refine Ev.step (f := fun _ => some (i : Int)) (fun k => ?_) (Ev.now _)
      unfold semver_zzMark.f
      simp only [semver_zzMark.l0]
      rw [hb, if_pos hi1, if_pos hi2]
      simp only [isMk, isDig, Bool.or_eq_false_iff, Bool.and_eq_false_iff, decide_eq_false_iff_not] at hc
      repeat' split
      all_goals first | rfl | (exfalso; omega)
theorem space_calls (s : ByteArray) (hs : s.size ≤ 1000) (i : Nat) (hi : i ≤ s.size) (w : World) : Calls Tryz.prog 31 #[.string s, .int .i64 (i : Int)] w fun e w' => e = .returned (.int .i64 ((scan isSp s.toList i : Nat) : Int)) ∧ Drawn0 w w' := by
  obtain ⟨k, hk⟩ := Ev.rounds (space_ev s hs _ i rfl hi)
  exact semver_zzSpace.calls k s _ _ w hk
theorem mark_calls (s : ByteArray) (hs : s.size ≤ 1000) (i : Nat) (hi : i ≤ s.size) (w : World) : Calls Tryz.prog 43 #[.string s, .int .i64 (i : Int)] w fun e w' => e = .returned (.int .i64 ((scan isMk s.toList i : Nat) : Int)) ∧ Drawn0 w w' := by
  obtain ⟨k, hk⟩ := Ev.rounds (mark_ev s hs _ i rfl hi)
  exact semver_zzMark.calls k s _ _ w hk
/-- Digits, or nothing, are no letter for any number. -/
theorem isX_calls (s : ByteArray) (h : s.toList.all isDig = true) (w : World) : Calls Tryz.prog 36 #[.string s] w fun e w' => e = .returned (.bool false) ∧ Drawn0 w w' := by
  refine semver_isX.calls s false w ?_
  have key : ∀ c : UInt8, isDig c = false → ¬ s.toList = ([c] : List UInt8) := fun c hc e => by rw [e] at h; simp [hc] at h
  unfold semver_isX.f
  rw [if_neg (key 120 (by decide)), if_neg (key 42 (by decide)), if_neg (key 88 (by decide))]
end Go.Proofs.YtoebognfkigooaaGreatDoor.Sv
namespace Go.Proofs.YtoebognfkigooaaGreatDoor.Sv
open Go.RowKit Go.Proofs.YtoebognfkigooaaGreatDoor.PFnSemverEither Go.Proofs.YtoebognfkigooaaGreatDoorW.PrintWords Go.Proofs.YtoebognfkigooaaGreatDoor.Txt Go.Proofs.YtoebognfkigooaaGreatDoor Go.Proofs.YtoebognfkigooaaGreatDoor.Vals
set_option linter.unusedVariables false
set_option linter.unusedSimpArgs false
set_option maxRecDepth 20000

/-- The block of four texts. -/
def Four (w : World) (b : Nat) (c0 c1 c2 c3 : ByteArray) : Prop := w.heap[b]? = some (.cells #[.string c0, .string c1, .string c2, .string c3] 79 (0, 0))
theorem Four.below {w w' : World} {b : Nat} {c0 c1 c2 c3 : ByteArray} (h : Four w b c0 c1 c2 c3) (hb : Below w.heap.size w w') : Four w' b c0 c1 c2 c3 := (hb.block _ (blk_lt h)).trans h
theorem Four.cell {w : World} {b : Nat} {c0 c1 c2 c3 : ByteArray} (h : Four w b c0 c1 c2 c3) (j : Nat) : w.cell? ⟨b, j, none⟩ = #[.string c0, .string c1, .string c2, .string c3][j]? ∧ w.frozen? ⟨b, j, none⟩ = false := by
  unfold Four at h
  constructor
  · rw [blk_cell h]
  · simp [World.frozen?, h]
/-- No sign that begins something else. -/
def Plain3 (s : ByteArray) : Prop := ∀ x ∈ s.toList, x.toNat ≠ 45 ∧ x.toNat ≠ 43 ∧ x.toNat ≠ 118
theorem gl (s : ByteArray) (i : Nat) (h : i < s.size) (h' : i < s.toList.length) : s.toList[i] = s[i]'h := by
  have e : s.toList = s.data.toList := Lib.toList_data s
  simp only [e]; rfl
theorem Plain3.at {s : ByteArray} (h : Plain3 s) {i : Nat} (hi : i < s.size) : (s[i]'hi).toNat ≠ 45 ∧ (s[i]'hi).toNat ≠ 43 ∧ (s[i]'hi).toNat ≠ 118 := by
  have h' : i < s.toList.length := by rw [← len_eq]; exact hi
  rw [← gl s i hi h']
  exact h _ (List.getElem_mem _)
theorem Plain3.none45 {s : ByteArray} (h : Plain3 s) (hs : s.size ≤ 1000) (i : Nat) (hi : i ≤ s.size) : Ev (fun k => Go.Proofs.YtoebognfkigooaaGreatDoor.PFnSemverEither.semver_zzParts.f k s (i : Int) ((45 : Nat) : Int)) (i : Int) :=
  parts_none s hs i 45 hi fun h' => (h _ (List.getElem_mem _)).1
theorem Plain3.none43 {s : ByteArray} (h : Plain3 s) (hs : s.size ≤ 1000) (i : Nat) (hi : i ≤ s.size) : Ev (fun k => Go.Proofs.YtoebognfkigooaaGreatDoor.PFnSemverEither.semver_zzParts.f k s (i : Int) ((43 : Nat) : Int)) (i : Int) :=
  parts_none s hs i 43 hi fun h' => (h _ (List.getElem_mem _)).2.1
theorem parts_calls' {v : ByteArray} {i : Int} {c : Nat} {r : Int} (h : Ev (fun k => Go.Proofs.YtoebognfkigooaaGreatDoor.PFnSemverEither.semver_zzParts.f k v i (c : Int)) r) (w : World) : Calls Tryz.prog 44 #[.string v, .int .i64 i, .int .u8 (c : Int)] w fun e w' => e = .returned (.int .i64 r) ∧ Drawn0 w w' := parts_calls h w
set_option maxHeartbeats 4000000 in
theorem vers_none (s : ByteArray) (hs : s.size ≤ 512) (hq : Plain3 s) (i : Nat) (hi : i ≤ s.size) (hp : scan isMk s.toList i = i) (w : World) :
    Calls Tryz.prog 32 #[.string s, .int .i64 (i : Int)] w fun e w' => e = .returned (.tuple #[.int .i64 (-1), .agg #[.string (⟨#[]⟩), .string (⟨#[]⟩), .string (⟨#[]⟩), .string (⟨#[]⟩)]]) ∧ Below w.heap.size w w' := by
  have HM := Lib.hid (fun W => mark_calls s (by omega) i hi W)
  rw [hp] at HM
  have HB0 : Hid (∀ o, Below w.heap.size w (w.alloc o)) := Lib.hid fun o => (Below.refl _ _).alloc (Nat.le_refl _) o
  have n0 : Four (w.alloc (.cells #[.string ⟨#[]⟩, .string ⟨#[]⟩, .string ⟨#[]⟩, .string ⟨#[]⟩] 79)) w.heap.size ⟨#[]⟩ ⟨#[]⟩ ⟨#[]⟩ ⟨#[]⟩ := heap_alloc_new w _
  have HN0 := Lib.hid n0
  clear n0
  rcases Nat.lt_or_ge i s.size with hlt | hge
  · have c0 : (((s[i]'hlt).toNat : Int) == 118) = false := by have := (hq.at hlt).2.2; simp; omega
    have hlt' : (i : Int) < (s.size : Int) := by omega
    clear hp hq
    go_enter Tryz.func32, Tryz.ntmps32
    go_wp2_with fail
    refine (HM.out _).mono ?_
    rintro e w1 ⟨rfl, hd_⟩
    have hn_ := HN0.out.below hd_.below
    have HB1 := Lib.hid ((HB0.out _).trans (hd_.below.mono (HB0.out _).size))
    have HN1 := Lib.hid hn_
    obtain ⟨k0, f0⟩ := hn_.cell 0
    obtain ⟨k1, f1⟩ := hn_.cell 1
    obtain ⟨k2, f2⟩ := hn_.cell 2
    obtain ⟨k3, f3⟩ := hn_.cell 3
    clear hn_ hd_
    go_upto_region 5 with fail
    go_region
    go_wp2_with fail
    obtain ⟨wz, hw_⟩ : ∃ wz, wz = ((((w1.setCell ⟨w.heap.size, 0, none⟩ (.string (⟨#[]⟩))).setCell ⟨w.heap.size, 1, none⟩ (.string (⟨#[]⟩))).setCell ⟨w.heap.size, 2, none⟩ (.string (⟨#[]⟩))).setCell ⟨w.heap.size, 3, none⟩ (.string (⟨#[]⟩))).drew := ⟨_, rfl⟩
    have hn_ : Four wz w.heap.size (⟨#[]⟩) (⟨#[]⟩) (⟨#[]⟩) (⟨#[]⟩) := by rw [hw_]; exact blk_set (blk_set (blk_set (blk_set HN1.out 0 _) 1 _) 2 _) 3 _
    have hz_ : Below w.heap.size w wz := by
      rw [hw_]
      have h_ := (((HB1.out.setCell (p := ⟨w.heap.size, 0, none⟩) (Nat.le_refl _) (.string (⟨#[]⟩))).setCell (p := ⟨w.heap.size, 1, none⟩) (Nat.le_refl _) (.string (⟨#[]⟩))).setCell (p := ⟨w.heap.size, 2, none⟩) (Nat.le_refl _) (.string (⟨#[]⟩))).setCell (p := ⟨w.heap.size, 3, none⟩) (Nat.le_refl _) (.string (⟨#[]⟩))
      exact Below.trans h_ ⟨rfl, rfl, rfl, Nat.le_refl _, fun _ _ => rfl⟩
    rw [← hw_]
    clear hw_ k0 k1 k2 k3 f0 f1 f2 f3
    obtain ⟨k0, -⟩ := hn_.cell 0
    obtain ⟨k1, -⟩ := hn_.cell 1
    obtain ⟨k2, -⟩ := hn_.cell 2
    obtain ⟨k3, -⟩ := hn_.cell 3
    try simp only [Exit.inBlock, Exit.then]
    refine bodyPost_ret (v := .tuple #[.int .i64 (-1), .agg #[.string (⟨#[]⟩), .string (⟨#[]⟩), .string (⟨#[]⟩), .string (⟨#[]⟩)]]) (by simp [results, Tryz.results32, go_sem, k0, k1, k2, k3]) rfl ⟨rfl, hz_⟩
  · have hlt' : ¬ (i : Int) < (s.size : Int) := by omega
    clear hp hq
    go_enter Tryz.func32, Tryz.ntmps32
    go_wp2_with fail
    refine (HM.out _).mono ?_
    rintro e w1 ⟨rfl, hd_⟩
    have hn_ := HN0.out.below hd_.below
    have HB1 := Lib.hid ((HB0.out _).trans (hd_.below.mono (HB0.out _).size))
    have HN1 := Lib.hid hn_
    obtain ⟨k0, f0⟩ := hn_.cell 0
    obtain ⟨k1, f1⟩ := hn_.cell 1
    obtain ⟨k2, f2⟩ := hn_.cell 2
    obtain ⟨k3, f3⟩ := hn_.cell 3
    clear hn_ hd_
    go_upto_region 5 with fail
    go_region
    go_wp2_with fail
    obtain ⟨wz, hw_⟩ : ∃ wz, wz = ((((w1.setCell ⟨w.heap.size, 0, none⟩ (.string (⟨#[]⟩))).setCell ⟨w.heap.size, 1, none⟩ (.string (⟨#[]⟩))).setCell ⟨w.heap.size, 2, none⟩ (.string (⟨#[]⟩))).setCell ⟨w.heap.size, 3, none⟩ (.string (⟨#[]⟩))).drew := ⟨_, rfl⟩
    have hn_ : Four wz w.heap.size (⟨#[]⟩) (⟨#[]⟩) (⟨#[]⟩) (⟨#[]⟩) := by rw [hw_]; exact blk_set (blk_set (blk_set (blk_set HN1.out 0 _) 1 _) 2 _) 3 _
    have hz_ : Below w.heap.size w wz := by
      rw [hw_]
      have h_ := (((HB1.out.setCell (p := ⟨w.heap.size, 0, none⟩) (Nat.le_refl _) (.string (⟨#[]⟩))).setCell (p := ⟨w.heap.size, 1, none⟩) (Nat.le_refl _) (.string (⟨#[]⟩))).setCell (p := ⟨w.heap.size, 2, none⟩) (Nat.le_refl _) (.string (⟨#[]⟩))).setCell (p := ⟨w.heap.size, 3, none⟩) (Nat.le_refl _) (.string (⟨#[]⟩))
      exact Below.trans h_ ⟨rfl, rfl, rfl, Nat.le_refl _, fun _ _ => rfl⟩
    rw [← hw_]
    clear hw_ k0 k1 k2 k3 f0 f1 f2 f3
    obtain ⟨k0, -⟩ := hn_.cell 0
    obtain ⟨k1, -⟩ := hn_.cell 1
    obtain ⟨k2, -⟩ := hn_.cell 2
    obtain ⟨k3, -⟩ := hn_.cell 3
    try simp only [Exit.inBlock, Exit.then]
    refine bodyPost_ret (v := .tuple #[.int .i64 (-1), .agg #[.string (⟨#[]⟩), .string (⟨#[]⟩), .string (⟨#[]⟩), .string (⟨#[]⟩)]]) (by simp [results, Tryz.results32, go_sem, k0, k1, k2, k3]) rfl ⟨rfl, hz_⟩
set_option maxHeartbeats 4000000 in
theorem vers_1 (s : ByteArray) (hs : s.size ≤ 512) (hq : Plain3 s) (i : Nat) (hi : i ≤ s.size) (p1 : Nat) (hp : scan isMk s.toList i = p1) (hip : i < p1) (hz1 : p1 ≤ s.size) (xn : ∀ h : p1 < s.size, ((s[p1]'h).toNat : Int) ≠ 46) (w : World) :
    Calls Tryz.prog 32 #[.string s, .int .i64 (i : Int)] w fun e w' => e = .returned (.tuple #[.int .i64 (p1), .agg #[.string (s.extract i p1), .string (⟨#[]⟩), .string (⟨#[]⟩), .string (⟨#[]⟩)]]) ∧ Below w.heap.size w w' := by
  have HM := Lib.hid (fun W => mark_calls s (by omega) i hi W)
  rw [hp] at HM
  have HB0 : Hid (∀ o, Below w.heap.size w (w.alloc o)) := Lib.hid fun o => (Below.refl _ _).alloc (Nat.le_refl _) o
  have n0 : Four (w.alloc (.cells #[.string ⟨#[]⟩, .string ⟨#[]⟩, .string ⟨#[]⟩, .string ⟨#[]⟩] 79)) w.heap.size ⟨#[]⟩ ⟨#[]⟩ ⟨#[]⟩ ⟨#[]⟩ := heap_alloc_new w _
  have HN0 := Lib.hid n0
  clear n0
  have hlt : i < s.size := by omega
  have c0 : (((s[i]'hlt).toNat : Int) == 118) = false := by have := (hq.at hlt).2.2; simp; omega
  have hlt' : (i : Int) < (s.size : Int) := by omega
  have g1 : ((p1 : Int) == (i : Int)) = false := by simp; omega
  have HP45 := Lib.hid (fun W => parts_calls' (hq.none45 (by omega) p1 (by omega)) W)
  have HP43 := Lib.hid (fun W => parts_calls' (hq.none43 (by omega) p1 (by omega)) W)
  have XN := Lib.hid xn
  clear xn
  clear hp hq
  go_enter Tryz.func32, Tryz.ntmps32
  have hb1_ : (i : Int) ≤ (p1 : Int) := by omega
  have hb2_ : (p1 : Int) ≤ (s.size : Int) := by omega
  go_wp2_with fail
  refine (HM.out _).mono ?_
  rintro e w1 ⟨rfl, hd_⟩
  have hn_ := HN0.out.below hd_.below
  have HB1 := Lib.hid ((HB0.out _).trans (hd_.below.mono (HB0.out _).size))
  have HN1 := Lib.hid hn_
  obtain ⟨k0, f0⟩ := hn_.cell 0
  clear hn_ hd_
  go_wp2_with fail
  obtain ⟨w2, hw_⟩ : ∃ w2, w2 = w1.setCell ⟨w.heap.size, 0, none⟩ (.string (s.extract i p1)) := ⟨_, rfl⟩
  have hn_ : Four w2 w.heap.size (s.extract i p1) (⟨#[]⟩) (⟨#[]⟩) (⟨#[]⟩) := by rw [hw_]; exact blk_set HN1.out 0 _
  have HB2 : Hid (Below w.heap.size w w2) := Lib.hid (by rw [hw_]; exact HB1.out.setCell (p := ⟨w.heap.size, 0, none⟩) (Nat.le_refl _) _)
  have HN2 := Lib.hid hn_
  rw [← hw_]
  clear hn_ hw_
  clear k0 f0 hb1_ hb2_
  refine wp_loop_rounds 1 ?_
  rcases Nat.lt_or_ge p1 s.size with hlt2 | hge2
  · have x2' : (((s[p1]'hlt2).toNat : Int) == 46) = false := by have := XN.out hlt2; simp; omega
    have hlt2' : (p1 : Int) < (s.size : Int) := by omega
    rw [rounds_succ]
    go_wp2_with fail
    refine (HP45.out _).mono ?_
    rintro e w8 ⟨rfl, hd_⟩
    have hn_ := HN2.out.below hd_.below
    have HB8 := Lib.hid (HB2.out.trans (hd_.below.mono HB2.out.size))
    have HN8 := Lib.hid hn_
    have g45 : decide ((p1 : Int) < (p1 : Int)) = false := by simp
    have hlt_ := blk_lt hn_
    have e0 : ∀ x : Near w8.heap.size w8, x.W.cell? ⟨w.heap.size, 0, none⟩ = some (.string (s.extract i p1)) := fun x => x.cell hlt_ (by rw [blk_cell hn_]; rfl)
    have e1 : ∀ x : Near w8.heap.size w8, x.W.cell? ⟨w.heap.size, 1, none⟩ = some (.string (⟨#[]⟩)) := fun x => x.cell hlt_ (by rw [blk_cell hn_]; rfl)
    have e2 : ∀ x : Near w8.heap.size w8, x.W.cell? ⟨w.heap.size, 2, none⟩ = some (.string (⟨#[]⟩)) := fun x => x.cell hlt_ (by rw [blk_cell hn_]; rfl)
    have e3 : ∀ x : Near w8.heap.size w8, x.W.cell? ⟨w.heap.size, 3, none⟩ = some (.string (⟨#[]⟩)) := fun x => x.cell hlt_ (by rw [blk_cell hn_]; rfl)
    have HP : Hid (∀ x : Near w8.heap.size w8, Calls Tryz.prog 44 #[.string s, .int .i64 (p1 : Int), .int .u8 43] x.W fun e w' => e = .returned (.int .i64 (p1 : Int)) ∧ ∃ y : Near w8.heap.size w8, w' = y.W) := Lib.hid fun x => (HP43.out x.W).mono fun e w' ⟨he, hB⟩ => ⟨he, x.of hB.below (Nat.le_refl _)⟩
    clear hn_ hd_ hlt_
    go_upto_region 16 with fail
    refine Split.wp_region_neartail 5 (fun W => ∃ x : Near w8.heap.size w8, W = x.W) (by kernel_rfl) (by kernel_rfl) (by kernel_rfl) ⟨⟨w8.drew, ⟨rfl, rfl, rfl, Nat.le_refl _, fun _ _ => rfl⟩⟩, rfl⟩ ?_
    simp only [List.take_succ_cons, List.take_zero, List.drop_succ_cons, List.drop_zero]
    repeat (go_big_quiet_step ((exact HP.out _)))
    refine wpQuiet_nil ?_
    intro w9 hw'
    obtain ⟨⟨wa', hwa⟩, rfl⟩ := hw'
    have hn_ : Four w9 w.heap.size (s.extract i p1) (⟨#[]⟩) (⟨#[]⟩) (⟨#[]⟩) := HN8.out.below hwa
    have HB9 := Lib.hid (HB8.out.trans (hwa.mono HB8.out.size))
    clear e0 e1 e2 e3 hwa HP
    obtain ⟨k0, f0⟩ := hn_.cell 0
    obtain ⟨k1, f1⟩ := hn_.cell 1
    obtain ⟨k2, f2⟩ := hn_.cell 2
    obtain ⟨k3, f3⟩ := hn_.cell 3
    have HN9 := Lib.hid hn_
    clear hn_
    go_wp2_with fail
    obtain ⟨wz, hw_⟩ : ∃ wz, wz = ((((w9.setCell ⟨w.heap.size, 0, none⟩ (.string (s.extract i p1))).setCell ⟨w.heap.size, 1, none⟩ (.string (⟨#[]⟩))).setCell ⟨w.heap.size, 2, none⟩ (.string (⟨#[]⟩))).setCell ⟨w.heap.size, 3, none⟩ (.string (⟨#[]⟩))) := ⟨_, rfl⟩
    have hn_ : Four wz w.heap.size (s.extract i p1) (⟨#[]⟩) (⟨#[]⟩) (⟨#[]⟩) := by rw [hw_]; exact blk_set (blk_set (blk_set (blk_set HN9.out 0 _) 1 _) 2 _) 3 _
    have hz_ : Below w.heap.size w wz := by
      rw [hw_]
      have h_ := (((HB9.out.setCell (p := ⟨w.heap.size, 0, none⟩) (Nat.le_refl _) (.string (s.extract i p1))).setCell (p := ⟨w.heap.size, 1, none⟩) (Nat.le_refl _) (.string (⟨#[]⟩))).setCell (p := ⟨w.heap.size, 2, none⟩) (Nat.le_refl _) (.string (⟨#[]⟩))).setCell (p := ⟨w.heap.size, 3, none⟩) (Nat.le_refl _) (.string (⟨#[]⟩))
      exact h_
    rw [← hw_]
    clear hw_ k0 k1 k2 k3 f0 f1 f2 f3
    obtain ⟨k0, -⟩ := hn_.cell 0
    obtain ⟨k1, -⟩ := hn_.cell 1
    obtain ⟨k2, -⟩ := hn_.cell 2
    obtain ⟨k3, -⟩ := hn_.cell 3
    try simp only [Exit.inBlock, Exit.then]
    refine bodyPost_ret (v := .tuple #[.int .i64 (p1), .agg #[.string (s.extract i p1), .string (⟨#[]⟩), .string (⟨#[]⟩), .string (⟨#[]⟩)]]) (by simp [results, Tryz.results32, go_sem, k0, k1, k2, k3]) rfl ⟨rfl, hz_⟩
  · have hlt2' : ¬ (p1 : Int) < (s.size : Int) := by omega
    rw [rounds_succ]
    go_wp2_with fail
    refine (HP45.out _).mono ?_
    rintro e w8 ⟨rfl, hd_⟩
    have hn_ := HN2.out.below hd_.below
    have HB8 := Lib.hid (HB2.out.trans (hd_.below.mono HB2.out.size))
    have HN8 := Lib.hid hn_
    have g45 : decide ((p1 : Int) < (p1 : Int)) = false := by simp
    have hlt_ := blk_lt hn_
    have e0 : ∀ x : Near w8.heap.size w8, x.W.cell? ⟨w.heap.size, 0, none⟩ = some (.string (s.extract i p1)) := fun x => x.cell hlt_ (by rw [blk_cell hn_]; rfl)
    have e1 : ∀ x : Near w8.heap.size w8, x.W.cell? ⟨w.heap.size, 1, none⟩ = some (.string (⟨#[]⟩)) := fun x => x.cell hlt_ (by rw [blk_cell hn_]; rfl)
    have e2 : ∀ x : Near w8.heap.size w8, x.W.cell? ⟨w.heap.size, 2, none⟩ = some (.string (⟨#[]⟩)) := fun x => x.cell hlt_ (by rw [blk_cell hn_]; rfl)
    have e3 : ∀ x : Near w8.heap.size w8, x.W.cell? ⟨w.heap.size, 3, none⟩ = some (.string (⟨#[]⟩)) := fun x => x.cell hlt_ (by rw [blk_cell hn_]; rfl)
    have HP : Hid (∀ x : Near w8.heap.size w8, Calls Tryz.prog 44 #[.string s, .int .i64 (p1 : Int), .int .u8 43] x.W fun e w' => e = .returned (.int .i64 (p1 : Int)) ∧ ∃ y : Near w8.heap.size w8, w' = y.W) := Lib.hid fun x => (HP43.out x.W).mono fun e w' ⟨he, hB⟩ => ⟨he, x.of hB.below (Nat.le_refl _)⟩
    clear hn_ hd_ hlt_
    go_upto_region 16 with fail
    refine Split.wp_region_neartail 5 (fun W => ∃ x : Near w8.heap.size w8, W = x.W) (by kernel_rfl) (by kernel_rfl) (by kernel_rfl) ⟨⟨w8.drew, ⟨rfl, rfl, rfl, Nat.le_refl _, fun _ _ => rfl⟩⟩, rfl⟩ ?_
    simp only [List.take_succ_cons, List.take_zero, List.drop_succ_cons, List.drop_zero]
    repeat (go_big_quiet_step ((exact HP.out _)))
    refine wpQuiet_nil ?_
    intro w9 hw'
    obtain ⟨⟨wa', hwa⟩, rfl⟩ := hw'
    have hn_ : Four w9 w.heap.size (s.extract i p1) (⟨#[]⟩) (⟨#[]⟩) (⟨#[]⟩) := HN8.out.below hwa
    have HB9 := Lib.hid (HB8.out.trans (hwa.mono HB8.out.size))
    clear e0 e1 e2 e3 hwa HP
    obtain ⟨k0, f0⟩ := hn_.cell 0
    obtain ⟨k1, f1⟩ := hn_.cell 1
    obtain ⟨k2, f2⟩ := hn_.cell 2
    obtain ⟨k3, f3⟩ := hn_.cell 3
    have HN9 := Lib.hid hn_
    clear hn_
    go_wp2_with fail
    obtain ⟨wz, hw_⟩ : ∃ wz, wz = ((((w9.setCell ⟨w.heap.size, 0, none⟩ (.string (s.extract i p1))).setCell ⟨w.heap.size, 1, none⟩ (.string (⟨#[]⟩))).setCell ⟨w.heap.size, 2, none⟩ (.string (⟨#[]⟩))).setCell ⟨w.heap.size, 3, none⟩ (.string (⟨#[]⟩))) := ⟨_, rfl⟩
    have hn_ : Four wz w.heap.size (s.extract i p1) (⟨#[]⟩) (⟨#[]⟩) (⟨#[]⟩) := by rw [hw_]; exact blk_set (blk_set (blk_set (blk_set HN9.out 0 _) 1 _) 2 _) 3 _
    have hz_ : Below w.heap.size w wz := by
      rw [hw_]
      have h_ := (((HB9.out.setCell (p := ⟨w.heap.size, 0, none⟩) (Nat.le_refl _) (.string (s.extract i p1))).setCell (p := ⟨w.heap.size, 1, none⟩) (Nat.le_refl _) (.string (⟨#[]⟩))).setCell (p := ⟨w.heap.size, 2, none⟩) (Nat.le_refl _) (.string (⟨#[]⟩))).setCell (p := ⟨w.heap.size, 3, none⟩) (Nat.le_refl _) (.string (⟨#[]⟩))
      exact h_
    rw [← hw_]
    clear hw_ k0 k1 k2 k3 f0 f1 f2 f3
    obtain ⟨k0, -⟩ := hn_.cell 0
    obtain ⟨k1, -⟩ := hn_.cell 1
    obtain ⟨k2, -⟩ := hn_.cell 2
    obtain ⟨k3, -⟩ := hn_.cell 3
    try simp only [Exit.inBlock, Exit.then]
    refine bodyPost_ret (v := .tuple #[.int .i64 (p1), .agg #[.string (s.extract i p1), .string (⟨#[]⟩), .string (⟨#[]⟩), .string (⟨#[]⟩)]]) (by simp [results, Tryz.results32, go_sem, k0, k1, k2, k3]) rfl ⟨rfl, hz_⟩
set_option maxHeartbeats 4000000 in
theorem vers_2 (s : ByteArray) (hs : s.size ≤ 512) (hq : Plain3 s) (i : Nat) (hi : i ≤ s.size) (p1 : Nat) (hp : scan isMk s.toList i = p1) (hip : i < p1) (hz1 : p1 ≤ s.size) (p2 : Nat) (hl1 : p1 < s.size) (x1 : ((s[p1]'hl1).toNat : Int) = 46) (hp2 : scan isMk s.toList (p1 + 1) = p2) (hk1 : p1 + 1 < p2) (hz2 : p2 ≤ s.size) (xn : ∀ h : p2 < s.size, ((s[p2]'h).toNat : Int) ≠ 46) (w : World) :
    Calls Tryz.prog 32 #[.string s, .int .i64 (i : Int)] w fun e w' => e = .returned (.tuple #[.int .i64 (p2), .agg #[.string (s.extract i p1), .string (s.extract p1 p2), .string (⟨#[]⟩), .string (⟨#[]⟩)]]) ∧ Below w.heap.size w w' := by
  have HM := Lib.hid (fun W => mark_calls s (by omega) i hi W)
  rw [hp] at HM
  have HB0 : Hid (∀ o, Below w.heap.size w (w.alloc o)) := Lib.hid fun o => (Below.refl _ _).alloc (Nat.le_refl _) o
  have n0 : Four (w.alloc (.cells #[.string ⟨#[]⟩, .string ⟨#[]⟩, .string ⟨#[]⟩, .string ⟨#[]⟩] 79)) w.heap.size ⟨#[]⟩ ⟨#[]⟩ ⟨#[]⟩ ⟨#[]⟩ := heap_alloc_new w _
  have HN0 := Lib.hid n0
  clear n0
  have hlt : i < s.size := by omega
  have c0 : (((s[i]'hlt).toNat : Int) == 118) = false := by have := (hq.at hlt).2.2; simp; omega
  have hlt' : (i : Int) < (s.size : Int) := by omega
  have g1 : ((p1 : Int) == (i : Int)) = false := by simp; omega
  have HP45 := Lib.hid (fun W => parts_calls' (hq.none45 (by omega) p2 (by omega)) W)
  have HP43 := Lib.hid (fun W => parts_calls' (hq.none43 (by omega) p2 (by omega)) W)
  have HM1 := Lib.hid (fun W => mark_calls s (by omega) (p1 + 1) (by omega) W)
  rw [hp2, show ((p1 + 1 : Nat) : Int) = (p1 : Int) + 1 from rfl] at HM1
  have XN := Lib.hid xn
  clear xn
  clear hp hq hp2
  go_enter Tryz.func32, Tryz.ntmps32
  have hb1_ : (i : Int) ≤ (p1 : Int) := by omega
  have hb2_ : (p1 : Int) ≤ (s.size : Int) := by omega
  go_wp2_with fail
  refine (HM.out _).mono ?_
  rintro e w1 ⟨rfl, hd_⟩
  have hn_ := HN0.out.below hd_.below
  have HB1 := Lib.hid ((HB0.out _).trans (hd_.below.mono (HB0.out _).size))
  have HN1 := Lib.hid hn_
  obtain ⟨k0, f0⟩ := hn_.cell 0
  clear hn_ hd_
  go_wp2_with fail
  obtain ⟨w2, hw_⟩ : ∃ w2, w2 = w1.setCell ⟨w.heap.size, 0, none⟩ (.string (s.extract i p1)) := ⟨_, rfl⟩
  have hn_ : Four w2 w.heap.size (s.extract i p1) (⟨#[]⟩) (⟨#[]⟩) (⟨#[]⟩) := by rw [hw_]; exact blk_set HN1.out 0 _
  have HB2 : Hid (Below w.heap.size w w2) := Lib.hid (by rw [hw_]; exact HB1.out.setCell (p := ⟨w.heap.size, 0, none⟩) (Nat.le_refl _) _)
  have HN2 := Lib.hid hn_
  rw [← hw_]
  clear hn_ hw_
  clear k0 f0 hb1_ hb2_
  refine wp_loop_rounds 2 ?_
  have x1' : (((s[p1]'hl1).toNat : Int) == 46) = true := by simp [x1]
  have hl1' : (p1 : Int) < (s.size : Int) := by omega
  have hg1 : decide ((p1 : Int) + 1 < (p2 : Int)) = true := by simp; omega
  rw [rounds_succ]
  have hb1_ : (p1 : Int) ≤ (p2 : Int) := by omega
  have hb2_ : (p2 : Int) ≤ (s.size : Int) := by omega
  go_wp2_with fail
  refine (HM1.out _).mono ?_
  rintro e w3a ⟨rfl, hd_⟩
  have hn_ := HN2.out.below hd_.below
  have HBw3a := Lib.hid (HB2.out.trans (hd_.below.mono HB2.out.size))
  have HNw3a := Lib.hid hn_
  clear hn_ hd_
  go_wp2_with fail
  refine (HM1.out _).mono ?_
  rintro e w3b ⟨rfl, hd_⟩
  have hn_ := HNw3a.out.below hd_.below
  have HBw3b := Lib.hid (HBw3a.out.trans (hd_.below.mono HBw3a.out.size))
  have HNw3b := Lib.hid hn_
  obtain ⟨k1, f1⟩ := hn_.cell 1
  clear hn_ hd_
  go_wp2_with fail
  obtain ⟨w3c, hw_⟩ : ∃ w3c, w3c = w3b.setCell ⟨w.heap.size, 1, none⟩ (.string (s.extract p1 p2)) := ⟨_, rfl⟩
  have hn_ : Four w3c w.heap.size (s.extract i p1) (s.extract p1 p2) (⟨#[]⟩) (⟨#[]⟩) := by rw [hw_]; exact blk_set HNw3b.out 1 _
  have HBw3c : Hid (Below w.heap.size w w3c) := Lib.hid (by rw [hw_]; exact HBw3b.out.setCell (p := ⟨w.heap.size, 1, none⟩) (Nat.le_refl _) _)
  have HNw3c := Lib.hid hn_
  rw [← hw_]
  clear hn_ hw_
  clear k1 f1 hb1_ hb2_ x1' hl1' hg1
  rcases Nat.lt_or_ge p2 s.size with hlt2 | hge2
  · have x2' : (((s[p2]'hlt2).toNat : Int) == 46) = false := by have := XN.out hlt2; simp; omega
    have hlt2' : (p2 : Int) < (s.size : Int) := by omega
    rw [rounds_succ]
    go_wp2_with fail
    refine (HP45.out _).mono ?_
    rintro e w8 ⟨rfl, hd_⟩
    have hn_ := HNw3c.out.below hd_.below
    have HB8 := Lib.hid (HBw3c.out.trans (hd_.below.mono HBw3c.out.size))
    have HN8 := Lib.hid hn_
    have g45 : decide ((p2 : Int) < (p2 : Int)) = false := by simp
    have hlt_ := blk_lt hn_
    have e0 : ∀ x : Near w8.heap.size w8, x.W.cell? ⟨w.heap.size, 0, none⟩ = some (.string (s.extract i p1)) := fun x => x.cell hlt_ (by rw [blk_cell hn_]; rfl)
    have e1 : ∀ x : Near w8.heap.size w8, x.W.cell? ⟨w.heap.size, 1, none⟩ = some (.string (s.extract p1 p2)) := fun x => x.cell hlt_ (by rw [blk_cell hn_]; rfl)
    have e2 : ∀ x : Near w8.heap.size w8, x.W.cell? ⟨w.heap.size, 2, none⟩ = some (.string (⟨#[]⟩)) := fun x => x.cell hlt_ (by rw [blk_cell hn_]; rfl)
    have e3 : ∀ x : Near w8.heap.size w8, x.W.cell? ⟨w.heap.size, 3, none⟩ = some (.string (⟨#[]⟩)) := fun x => x.cell hlt_ (by rw [blk_cell hn_]; rfl)
    have HP : Hid (∀ x : Near w8.heap.size w8, Calls Tryz.prog 44 #[.string s, .int .i64 (p2 : Int), .int .u8 43] x.W fun e w' => e = .returned (.int .i64 (p2 : Int)) ∧ ∃ y : Near w8.heap.size w8, w' = y.W) := Lib.hid fun x => (HP43.out x.W).mono fun e w' ⟨he, hB⟩ => ⟨he, x.of hB.below (Nat.le_refl _)⟩
    clear hn_ hd_ hlt_
    go_upto_region 16 with fail
    refine Split.wp_region_neartail 5 (fun W => ∃ x : Near w8.heap.size w8, W = x.W) (by kernel_rfl) (by kernel_rfl) (by kernel_rfl) ⟨⟨w8.drew, ⟨rfl, rfl, rfl, Nat.le_refl _, fun _ _ => rfl⟩⟩, rfl⟩ ?_
    simp only [List.take_succ_cons, List.take_zero, List.drop_succ_cons, List.drop_zero]
    repeat (go_big_quiet_step ((exact HP.out _)))
    refine wpQuiet_nil ?_
    intro w9 hw'
    obtain ⟨⟨wa', hwa⟩, rfl⟩ := hw'
    have hn_ : Four w9 w.heap.size (s.extract i p1) (s.extract p1 p2) (⟨#[]⟩) (⟨#[]⟩) := HN8.out.below hwa
    have HB9 := Lib.hid (HB8.out.trans (hwa.mono HB8.out.size))
    clear e0 e1 e2 e3 hwa HP
    obtain ⟨k0, f0⟩ := hn_.cell 0
    obtain ⟨k1, f1⟩ := hn_.cell 1
    obtain ⟨k2, f2⟩ := hn_.cell 2
    obtain ⟨k3, f3⟩ := hn_.cell 3
    have HN9 := Lib.hid hn_
    clear hn_
    go_wp2_with fail
    obtain ⟨wz, hw_⟩ : ∃ wz, wz = ((((w9.setCell ⟨w.heap.size, 0, none⟩ (.string (s.extract i p1))).setCell ⟨w.heap.size, 1, none⟩ (.string (s.extract p1 p2))).setCell ⟨w.heap.size, 2, none⟩ (.string (⟨#[]⟩))).setCell ⟨w.heap.size, 3, none⟩ (.string (⟨#[]⟩))) := ⟨_, rfl⟩
    have hn_ : Four wz w.heap.size (s.extract i p1) (s.extract p1 p2) (⟨#[]⟩) (⟨#[]⟩) := by rw [hw_]; exact blk_set (blk_set (blk_set (blk_set HN9.out 0 _) 1 _) 2 _) 3 _
    have hz_ : Below w.heap.size w wz := by
      rw [hw_]
      have h_ := (((HB9.out.setCell (p := ⟨w.heap.size, 0, none⟩) (Nat.le_refl _) (.string (s.extract i p1))).setCell (p := ⟨w.heap.size, 1, none⟩) (Nat.le_refl _) (.string (s.extract p1 p2))).setCell (p := ⟨w.heap.size, 2, none⟩) (Nat.le_refl _) (.string (⟨#[]⟩))).setCell (p := ⟨w.heap.size, 3, none⟩) (Nat.le_refl _) (.string (⟨#[]⟩))
      exact h_
    rw [← hw_]
    clear hw_ k0 k1 k2 k3 f0 f1 f2 f3
    obtain ⟨k0, -⟩ := hn_.cell 0
    obtain ⟨k1, -⟩ := hn_.cell 1
    obtain ⟨k2, -⟩ := hn_.cell 2
    obtain ⟨k3, -⟩ := hn_.cell 3
    try simp only [Exit.inBlock, Exit.then]
    refine bodyPost_ret (v := .tuple #[.int .i64 (p2), .agg #[.string (s.extract i p1), .string (s.extract p1 p2), .string (⟨#[]⟩), .string (⟨#[]⟩)]]) (by simp [results, Tryz.results32, go_sem, k0, k1, k2, k3]) rfl ⟨rfl, hz_⟩
  · have hlt2' : ¬ (p2 : Int) < (s.size : Int) := by omega
    rw [rounds_succ]
    go_wp2_with fail
    refine (HP45.out _).mono ?_
    rintro e w8 ⟨rfl, hd_⟩
    have hn_ := HNw3c.out.below hd_.below
    have HB8 := Lib.hid (HBw3c.out.trans (hd_.below.mono HBw3c.out.size))
    have HN8 := Lib.hid hn_
    have g45 : decide ((p2 : Int) < (p2 : Int)) = false := by simp
    have hlt_ := blk_lt hn_
    have e0 : ∀ x : Near w8.heap.size w8, x.W.cell? ⟨w.heap.size, 0, none⟩ = some (.string (s.extract i p1)) := fun x => x.cell hlt_ (by rw [blk_cell hn_]; rfl)
    have e1 : ∀ x : Near w8.heap.size w8, x.W.cell? ⟨w.heap.size, 1, none⟩ = some (.string (s.extract p1 p2)) := fun x => x.cell hlt_ (by rw [blk_cell hn_]; rfl)
    have e2 : ∀ x : Near w8.heap.size w8, x.W.cell? ⟨w.heap.size, 2, none⟩ = some (.string (⟨#[]⟩)) := fun x => x.cell hlt_ (by rw [blk_cell hn_]; rfl)
    have e3 : ∀ x : Near w8.heap.size w8, x.W.cell? ⟨w.heap.size, 3, none⟩ = some (.string (⟨#[]⟩)) := fun x => x.cell hlt_ (by rw [blk_cell hn_]; rfl)
    have HP : Hid (∀ x : Near w8.heap.size w8, Calls Tryz.prog 44 #[.string s, .int .i64 (p2 : Int), .int .u8 43] x.W fun e w' => e = .returned (.int .i64 (p2 : Int)) ∧ ∃ y : Near w8.heap.size w8, w' = y.W) := Lib.hid fun x => (HP43.out x.W).mono fun e w' ⟨he, hB⟩ => ⟨he, x.of hB.below (Nat.le_refl _)⟩
    clear hn_ hd_ hlt_
    go_upto_region 16 with fail
    refine Split.wp_region_neartail 5 (fun W => ∃ x : Near w8.heap.size w8, W = x.W) (by kernel_rfl) (by kernel_rfl) (by kernel_rfl) ⟨⟨w8.drew, ⟨rfl, rfl, rfl, Nat.le_refl _, fun _ _ => rfl⟩⟩, rfl⟩ ?_
    simp only [List.take_succ_cons, List.take_zero, List.drop_succ_cons, List.drop_zero]
    repeat (go_big_quiet_step ((exact HP.out _)))
    refine wpQuiet_nil ?_
    intro w9 hw'
    obtain ⟨⟨wa', hwa⟩, rfl⟩ := hw'
    have hn_ : Four w9 w.heap.size (s.extract i p1) (s.extract p1 p2) (⟨#[]⟩) (⟨#[]⟩) := HN8.out.below hwa
    have HB9 := Lib.hid (HB8.out.trans (hwa.mono HB8.out.size))
    clear e0 e1 e2 e3 hwa HP
    obtain ⟨k0, f0⟩ := hn_.cell 0
    obtain ⟨k1, f1⟩ := hn_.cell 1
    obtain ⟨k2, f2⟩ := hn_.cell 2
    obtain ⟨k3, f3⟩ := hn_.cell 3
    have HN9 := Lib.hid hn_
    clear hn_
    go_wp2_with fail
    obtain ⟨wz, hw_⟩ : ∃ wz, wz = ((((w9.setCell ⟨w.heap.size, 0, none⟩ (.string (s.extract i p1))).setCell ⟨w.heap.size, 1, none⟩ (.string (s.extract p1 p2))).setCell ⟨w.heap.size, 2, none⟩ (.string (⟨#[]⟩))).setCell ⟨w.heap.size, 3, none⟩ (.string (⟨#[]⟩))) := ⟨_, rfl⟩
    have hn_ : Four wz w.heap.size (s.extract i p1) (s.extract p1 p2) (⟨#[]⟩) (⟨#[]⟩) := by rw [hw_]; exact blk_set (blk_set (blk_set (blk_set HN9.out 0 _) 1 _) 2 _) 3 _
    have hz_ : Below w.heap.size w wz := by
      rw [hw_]
      have h_ := (((HB9.out.setCell (p := ⟨w.heap.size, 0, none⟩) (Nat.le_refl _) (.string (s.extract i p1))).setCell (p := ⟨w.heap.size, 1, none⟩) (Nat.le_refl _) (.string (s.extract p1 p2))).setCell (p := ⟨w.heap.size, 2, none⟩) (Nat.le_refl _) (.string (⟨#[]⟩))).setCell (p := ⟨w.heap.size, 3, none⟩) (Nat.le_refl _) (.string (⟨#[]⟩))
      exact h_
    rw [← hw_]
    clear hw_ k0 k1 k2 k3 f0 f1 f2 f3
    obtain ⟨k0, -⟩ := hn_.cell 0
    obtain ⟨k1, -⟩ := hn_.cell 1
    obtain ⟨k2, -⟩ := hn_.cell 2
    obtain ⟨k3, -⟩ := hn_.cell 3
    try simp only [Exit.inBlock, Exit.then]
    refine bodyPost_ret (v := .tuple #[.int .i64 (p2), .agg #[.string (s.extract i p1), .string (s.extract p1 p2), .string (⟨#[]⟩), .string (⟨#[]⟩)]]) (by simp [results, Tryz.results32, go_sem, k0, k1, k2, k3]) rfl ⟨rfl, hz_⟩
set_option maxHeartbeats 4000000 in
theorem vers_3 (s : ByteArray) (hs : s.size ≤ 512) (hq : Plain3 s) (i : Nat) (hi : i ≤ s.size) (p1 : Nat) (hp : scan isMk s.toList i = p1) (hip : i < p1) (hz1 : p1 ≤ s.size) (p2 : Nat) (hl1 : p1 < s.size) (x1 : ((s[p1]'hl1).toNat : Int) = 46) (hp2 : scan isMk s.toList (p1 + 1) = p2) (hk1 : p1 + 1 < p2) (hz2 : p2 ≤ s.size) (p3 : Nat) (hl2 : p2 < s.size) (x2 : ((s[p2]'hl2).toNat : Int) = 46) (hp3 : scan isMk s.toList (p2 + 1) = p3) (hk2 : p2 + 1 < p3) (hz3 : p3 ≤ s.size) (w : World) :
    Calls Tryz.prog 32 #[.string s, .int .i64 (i : Int)] w fun e w' => e = .returned (.tuple #[.int .i64 (p3), .agg #[.string (s.extract i p1), .string (s.extract p1 p2), .string (s.extract p2 p3), .string (⟨#[]⟩)]]) ∧ Below w.heap.size w w' := by
  have HM := Lib.hid (fun W => mark_calls s (by omega) i hi W)
  rw [hp] at HM
  have HB0 : Hid (∀ o, Below w.heap.size w (w.alloc o)) := Lib.hid fun o => (Below.refl _ _).alloc (Nat.le_refl _) o
  have n0 : Four (w.alloc (.cells #[.string ⟨#[]⟩, .string ⟨#[]⟩, .string ⟨#[]⟩, .string ⟨#[]⟩] 79)) w.heap.size ⟨#[]⟩ ⟨#[]⟩ ⟨#[]⟩ ⟨#[]⟩ := heap_alloc_new w _
  have HN0 := Lib.hid n0
  clear n0
  have hlt : i < s.size := by omega
  have c0 : (((s[i]'hlt).toNat : Int) == 118) = false := by have := (hq.at hlt).2.2; simp; omega
  have hlt' : (i : Int) < (s.size : Int) := by omega
  have g1 : ((p1 : Int) == (i : Int)) = false := by simp; omega
  have HP45 := Lib.hid (fun W => parts_calls' (hq.none45 (by omega) p3 (by omega)) W)
  have HP43 := Lib.hid (fun W => parts_calls' (hq.none43 (by omega) p3 (by omega)) W)
  have HM1 := Lib.hid (fun W => mark_calls s (by omega) (p1 + 1) (by omega) W)
  rw [hp2, show ((p1 + 1 : Nat) : Int) = (p1 : Int) + 1 from rfl] at HM1
  have HM2 := Lib.hid (fun W => mark_calls s (by omega) (p2 + 1) (by omega) W)
  rw [hp3, show ((p2 + 1 : Nat) : Int) = (p2 : Int) + 1 from rfl] at HM2
  clear hp hq hp2 hp3
  go_enter Tryz.func32, Tryz.ntmps32
  have hb1_ : (i : Int) ≤ (p1 : Int) := by omega
  have hb2_ : (p1 : Int) ≤ (s.size : Int) := by omega
  go_wp2_with fail
  refine (HM.out _).mono ?_
  rintro e w1 ⟨rfl, hd_⟩
  have hn_ := HN0.out.below hd_.below
  have HB1 := Lib.hid ((HB0.out _).trans (hd_.below.mono (HB0.out _).size))
  have HN1 := Lib.hid hn_
  obtain ⟨k0, f0⟩ := hn_.cell 0
  clear hn_ hd_
  go_wp2_with fail
  obtain ⟨w2, hw_⟩ : ∃ w2, w2 = w1.setCell ⟨w.heap.size, 0, none⟩ (.string (s.extract i p1)) := ⟨_, rfl⟩
  have hn_ : Four w2 w.heap.size (s.extract i p1) (⟨#[]⟩) (⟨#[]⟩) (⟨#[]⟩) := by rw [hw_]; exact blk_set HN1.out 0 _
  have HB2 : Hid (Below w.heap.size w w2) := Lib.hid (by rw [hw_]; exact HB1.out.setCell (p := ⟨w.heap.size, 0, none⟩) (Nat.le_refl _) _)
  have HN2 := Lib.hid hn_
  rw [← hw_]
  clear hn_ hw_
  clear k0 f0 hb1_ hb2_
  refine wp_loop_rounds 3 ?_
  have x1' : (((s[p1]'hl1).toNat : Int) == 46) = true := by simp [x1]
  have hl1' : (p1 : Int) < (s.size : Int) := by omega
  have hg1 : decide ((p1 : Int) + 1 < (p2 : Int)) = true := by simp; omega
  rw [rounds_succ]
  have hb1_ : (p1 : Int) ≤ (p2 : Int) := by omega
  have hb2_ : (p2 : Int) ≤ (s.size : Int) := by omega
  go_wp2_with fail
  refine (HM1.out _).mono ?_
  rintro e w3a ⟨rfl, hd_⟩
  have hn_ := HN2.out.below hd_.below
  have HBw3a := Lib.hid (HB2.out.trans (hd_.below.mono HB2.out.size))
  have HNw3a := Lib.hid hn_
  clear hn_ hd_
  go_wp2_with fail
  refine (HM1.out _).mono ?_
  rintro e w3b ⟨rfl, hd_⟩
  have hn_ := HNw3a.out.below hd_.below
  have HBw3b := Lib.hid (HBw3a.out.trans (hd_.below.mono HBw3a.out.size))
  have HNw3b := Lib.hid hn_
  obtain ⟨k1, f1⟩ := hn_.cell 1
  clear hn_ hd_
  go_wp2_with fail
  obtain ⟨w3c, hw_⟩ : ∃ w3c, w3c = w3b.setCell ⟨w.heap.size, 1, none⟩ (.string (s.extract p1 p2)) := ⟨_, rfl⟩
  have hn_ : Four w3c w.heap.size (s.extract i p1) (s.extract p1 p2) (⟨#[]⟩) (⟨#[]⟩) := by rw [hw_]; exact blk_set HNw3b.out 1 _
  have HBw3c : Hid (Below w.heap.size w w3c) := Lib.hid (by rw [hw_]; exact HBw3b.out.setCell (p := ⟨w.heap.size, 1, none⟩) (Nat.le_refl _) _)
  have HNw3c := Lib.hid hn_
  rw [← hw_]
  clear hn_ hw_
  clear k1 f1 hb1_ hb2_ x1' hl1' hg1
  have x2' : (((s[p2]'hl2).toNat : Int) == 46) = true := by simp [x2]
  have hl2' : (p2 : Int) < (s.size : Int) := by omega
  have hg2 : decide ((p2 : Int) + 1 < (p3 : Int)) = true := by simp; omega
  rw [rounds_succ]
  have hb1_ : (p2 : Int) ≤ (p3 : Int) := by omega
  have hb2_ : (p3 : Int) ≤ (s.size : Int) := by omega
  go_wp2_with fail
  refine (HM2.out _).mono ?_
  rintro e w4a ⟨rfl, hd_⟩
  have hn_ := HNw3c.out.below hd_.below
  have HBw4a := Lib.hid (HBw3c.out.trans (hd_.below.mono HBw3c.out.size))
  have HNw4a := Lib.hid hn_
  clear hn_ hd_
  go_wp2_with fail
  refine (HM2.out _).mono ?_
  rintro e w4b ⟨rfl, hd_⟩
  have hn_ := HNw4a.out.below hd_.below
  have HBw4b := Lib.hid (HBw4a.out.trans (hd_.below.mono HBw4a.out.size))
  have HNw4b := Lib.hid hn_
  obtain ⟨k2, f2⟩ := hn_.cell 2
  clear hn_ hd_
  go_wp2_with fail
  obtain ⟨w4c, hw_⟩ : ∃ w4c, w4c = w4b.setCell ⟨w.heap.size, 2, none⟩ (.string (s.extract p2 p3)) := ⟨_, rfl⟩
  have hn_ : Four w4c w.heap.size (s.extract i p1) (s.extract p1 p2) (s.extract p2 p3) (⟨#[]⟩) := by rw [hw_]; exact blk_set HNw4b.out 2 _
  have HBw4c : Hid (Below w.heap.size w w4c) := Lib.hid (by rw [hw_]; exact HBw4b.out.setCell (p := ⟨w.heap.size, 2, none⟩) (Nat.le_refl _) _)
  have HNw4c := Lib.hid hn_
  rw [← hw_]
  clear hn_ hw_
  clear k2 f2 hb1_ hb2_ x2' hl2' hg2
  rw [rounds_succ]
  go_wp2_with fail
  refine (HP45.out _).mono ?_
  rintro e w8 ⟨rfl, hd_⟩
  have hn_ := HNw4c.out.below hd_.below
  have HB8 := Lib.hid (HBw4c.out.trans (hd_.below.mono HBw4c.out.size))
  have HN8 := Lib.hid hn_
  have g45 : decide ((p3 : Int) < (p3 : Int)) = false := by simp
  have hlt_ := blk_lt hn_
  have e0 : ∀ x : Near w8.heap.size w8, x.W.cell? ⟨w.heap.size, 0, none⟩ = some (.string (s.extract i p1)) := fun x => x.cell hlt_ (by rw [blk_cell hn_]; rfl)
  have e1 : ∀ x : Near w8.heap.size w8, x.W.cell? ⟨w.heap.size, 1, none⟩ = some (.string (s.extract p1 p2)) := fun x => x.cell hlt_ (by rw [blk_cell hn_]; rfl)
  have e2 : ∀ x : Near w8.heap.size w8, x.W.cell? ⟨w.heap.size, 2, none⟩ = some (.string (s.extract p2 p3)) := fun x => x.cell hlt_ (by rw [blk_cell hn_]; rfl)
  have e3 : ∀ x : Near w8.heap.size w8, x.W.cell? ⟨w.heap.size, 3, none⟩ = some (.string (⟨#[]⟩)) := fun x => x.cell hlt_ (by rw [blk_cell hn_]; rfl)
  have HP : Hid (∀ x : Near w8.heap.size w8, Calls Tryz.prog 44 #[.string s, .int .i64 (p3 : Int), .int .u8 43] x.W fun e w' => e = .returned (.int .i64 (p3 : Int)) ∧ ∃ y : Near w8.heap.size w8, w' = y.W) := Lib.hid fun x => (HP43.out x.W).mono fun e w' ⟨he, hB⟩ => ⟨he, x.of hB.below (Nat.le_refl _)⟩
  clear hn_ hd_ hlt_
  go_upto_region 16 with fail
  refine Split.wp_region_neartail 5 (fun W => ∃ x : Near w8.heap.size w8, W = x.W) (by kernel_rfl) (by kernel_rfl) (by kernel_rfl) ⟨⟨w8.drew, ⟨rfl, rfl, rfl, Nat.le_refl _, fun _ _ => rfl⟩⟩, rfl⟩ ?_
  simp only [List.take_succ_cons, List.take_zero, List.drop_succ_cons, List.drop_zero]
  repeat (go_big_quiet_step ((exact HP.out _)))
  refine wpQuiet_nil ?_
  intro w9 hw'
  obtain ⟨⟨wa', hwa⟩, rfl⟩ := hw'
  have hn_ : Four w9 w.heap.size (s.extract i p1) (s.extract p1 p2) (s.extract p2 p3) (⟨#[]⟩) := HN8.out.below hwa
  have HB9 := Lib.hid (HB8.out.trans (hwa.mono HB8.out.size))
  clear e0 e1 e2 e3 hwa HP
  obtain ⟨k0, f0⟩ := hn_.cell 0
  obtain ⟨k1, f1⟩ := hn_.cell 1
  obtain ⟨k2, f2⟩ := hn_.cell 2
  obtain ⟨k3, f3⟩ := hn_.cell 3
  have HN9 := Lib.hid hn_
  clear hn_
  go_wp2_with fail
  obtain ⟨wz, hw_⟩ : ∃ wz, wz = ((((w9.setCell ⟨w.heap.size, 0, none⟩ (.string (s.extract i p1))).setCell ⟨w.heap.size, 1, none⟩ (.string (s.extract p1 p2))).setCell ⟨w.heap.size, 2, none⟩ (.string (s.extract p2 p3))).setCell ⟨w.heap.size, 3, none⟩ (.string (⟨#[]⟩))) := ⟨_, rfl⟩
  have hn_ : Four wz w.heap.size (s.extract i p1) (s.extract p1 p2) (s.extract p2 p3) (⟨#[]⟩) := by rw [hw_]; exact blk_set (blk_set (blk_set (blk_set HN9.out 0 _) 1 _) 2 _) 3 _
  have hz_ : Below w.heap.size w wz := by
    rw [hw_]
    have h_ := (((HB9.out.setCell (p := ⟨w.heap.size, 0, none⟩) (Nat.le_refl _) (.string (s.extract i p1))).setCell (p := ⟨w.heap.size, 1, none⟩) (Nat.le_refl _) (.string (s.extract p1 p2))).setCell (p := ⟨w.heap.size, 2, none⟩) (Nat.le_refl _) (.string (s.extract p2 p3))).setCell (p := ⟨w.heap.size, 3, none⟩) (Nat.le_refl _) (.string (⟨#[]⟩))
    exact h_
  rw [← hw_]
  clear hw_ k0 k1 k2 k3 f0 f1 f2 f3
  obtain ⟨k0, -⟩ := hn_.cell 0
  obtain ⟨k1, -⟩ := hn_.cell 1
  obtain ⟨k2, -⟩ := hn_.cell 2
  obtain ⟨k3, -⟩ := hn_.cell 3
  try simp only [Exit.inBlock, Exit.then]
  refine bodyPost_ret (v := .tuple #[.int .i64 (p3), .agg #[.string (s.extract i p1), .string (s.extract p1 p2), .string (s.extract p2 p3), .string (⟨#[]⟩)]]) (by simp [results, Tryz.results32, go_sem, k0, k1, k2, k3]) rfl ⟨rfl, hz_⟩
end Go.Proofs.YtoebognfkigooaaGreatDoor.Sv
namespace Go.Proofs.YtoebognfkigooaaGreatDoor.Sv
open Go.RowKit Go.Proofs.YtoebognfkigooaaGreatDoor.PFnSemverEither Go.Proofs.YtoebognfkigooaaGreatDoorW.PrintWords Go.Proofs.YtoebognfkigooaaGreatDoor.Txt Go.Proofs.YtoebognfkigooaaGreatDoor Go.Proofs.YtoebognfkigooaaGreatDoor.Vals
set_option linter.unusedVariables false
set_option linter.unusedSimpArgs false
set_option maxRecDepth 20000

/-- The operators, in the order in which they are tried. -/
def opsL : List ByteArray := [⟨#[61]⟩, ⟨#[]⟩, ⟨#[33, 61]⟩, ⟨#[62]⟩, ⟨#[60]⟩, ⟨#[62, 61]⟩, ⟨#[61, 62]⟩, ⟨#[60, 61]⟩, ⟨#[61, 60]⟩, ⟨#[126]⟩, ⟨#[126, 62]⟩, ⟨#[94]⟩]
/-- Their block. -/
def Ops12 (w : World) (b : Nat) : Prop := w.heap[b]? = some (.cells #[.string ⟨#[61]⟩, .string ⟨#[]⟩, .string ⟨#[33, 61]⟩, .string ⟨#[62]⟩, .string ⟨#[60]⟩, .string ⟨#[62, 61]⟩, .string ⟨#[61, 62]⟩, .string ⟨#[60, 61]⟩, .string ⟨#[61, 60]⟩, .string ⟨#[126]⟩, .string ⟨#[126, 62]⟩, .string ⟨#[94]⟩] 9 (0, 0))
theorem Ops12.below {w w' : World} {b : Nat} (h : Ops12 w b) (hb : Below w.heap.size w w') : Ops12 w' b := (hb.block _ (blk_lt h)).trans h
theorem Ops12.at {w : World} {b : Nat} (h : Ops12 w b) {j : Nat} {o : ByteArray} (hj : opsL[j]? = some o) : w.cell? ⟨b, j, none⟩ = some (.string o) := by
  unfold Ops12 at h
  rw [blk_cell h]
  rcases j with _ | _ | _ | _ | _ | _ | _ | _ | _ | _ | _ | _ | j <;> simp [opsL] at hj <;> subst hj <;> rfl
/-- The operator isn't there. -/
def NoPre (s : ByteArray) (i : Nat) (o : ByteArray) : Prop := s.size < i + o.size ∨ (i + o.size ≤ s.size ∧ ((s.extract i (i + o.size)).toList == o.toList) = false)
def PreAt (s : ByteArray) (i : Nat) (o : ByteArray) : Prop := i + o.size ≤ s.size ∧ ((s.extract i (i + o.size)).toList == o.toList) = true
/-- What zzVersion answers at a place. -/
def VerSays (s : ByteArray) (i : Nat) (r : Int) (m0 m1 m2 m3 : ByteArray) : Prop := ∀ W, Calls Tryz.prog 32 #[.string s, .int .i64 (i : Int)] W fun e w' => e = .returned (.tuple #[.int .i64 r, .agg #[.string m0, .string m1, .string m2, .string m3]]) ∧ Below W.heap.size W w'
def Miss (s : ByteArray) (i : Nat) (o : ByteArray) : Prop := NoPre s i o ∨ (PreAt s i o ∧ ∃ m0 m1 m2 m3, VerSays s (scan isSp s.toList (i + o.size)) (-1) m0 m1 m2 m3)
def ConSays (s : ByteArray) (i : Nat) (R : Value) : Prop := ∀ W, Calls Tryz.prog 35 #[.string s, .int .i64 (i : Int)] W fun e w' => e = .returned R ∧ Below W.heap.size W w'

set_option maxHeartbeats 4000000 in
theorem con_walk (s : ByteArray) (hs : s.size ≤ 512) (i : Nat) (hi : i ≤ s.size) (n : Nat) (hn : n ≤ 12) (miss : ∀ j o, j < n → opsL[j]? = some o → Miss s i o) (R : Value)
    (hit : (n = 12 ∧ R = .tuple #[.int .i64 (-1), .int .i64 0, .string ⟨#[]⟩]) ∨ (∃ o, opsL[n]? = some o ∧ PreAt s i o ∧ ∃ (en : Nat) (m0 m1 m2 m3 : ByteArray), VerSays s (scan isSp s.toList (i + o.size)) (en : Int) m0 m1 m2 m3 ∧ R = .tuple #[.int .i64 (en : Int), .int .i64 ((scan isSp s.toList (i + o.size) : Nat) : Int), .string o])) :
    ConSays s i R := by
  intro w
  have HB0 : Hid (∀ o, Below w.heap.size w (w.alloc o)) := Lib.hid fun o => (Below.refl _ _).alloc (Nat.le_refl _) o
  have n0 : Ops12 (w.alloc (.cells #[.string ⟨#[61]⟩, .string ⟨#[]⟩, .string ⟨#[33, 61]⟩, .string ⟨#[62]⟩, .string ⟨#[60]⟩, .string ⟨#[62, 61]⟩, .string ⟨#[61, 62]⟩, .string ⟨#[60, 61]⟩, .string ⟨#[61, 60]⟩, .string ⟨#[126]⟩, .string ⟨#[126, 62]⟩, .string ⟨#[94]⟩] 9)) w.heap.size := heap_alloc_new w _
  have HN0 := Lib.hid n0
  have HMI := Lib.hid miss
  have HHI := Lib.hid hit
  clear n0 miss hit
  go_enter Tryz.func35, Tryz.ntmps35
  go_wp2_with fail
  go_loopg [4, 5, 8, 11] n (fun kq v4 v5 v8 v11 wr => ∃ (j : Nat) (x4 x5 x8 : Value), v4 = x4 ∧ v5 = x5 ∧ v8 = x8 ∧ v11 = .int .i64 (j : Int) ∧ j + kq = n ∧ Hid (Below w.heap.size w wr) ∧ Hid (Ops12 wr w.heap.size))
  case atStart => exact ⟨0, _, _, _, rfl, rfl, rfl, rfl, by omega, Lib.hid (HB0.out _), HN0⟩
  case round =>
    obtain ⟨j, x4, x5, x8, rfl, rfl, rfl, rfl, hjk, HB, HN⟩ := hrel
    cases gk with
    | zero =>
      rcases HHI.out with ⟨h12, rfl⟩ | ⟨o, ho, hpre, en, m0, m1, m2, m3, hv, rfl⟩
      · have hj : ¬ (j : Int) < 12 := by omega
        clear hjk h12 hn
        go_wp2_with fail
        go_ret3
        exact ⟨rfl, HB.out⟩
      · have hjn : j = n := by omega
        have hj12 : n < 12 := by
          rcases Nat.lt_or_ge n 12 with h | h
          · exact h
          · rw [List.getElem?_eq_none (by simpa [opsL] using h)] at ho; cases ho
        have hj : (j : Int) < 12 := by omega
        have k0 := HN.out.at (show opsL[j]? = some o by rw [hjn]; exact ho)
        obtain ⟨hp1, hp2⟩ := hpre
        have hle : (o.size : Int) ≤ (s.size : Int) - (i : Int) := by omega
        have hb1_ : (i : Int) ≤ (i : Int) + (o.size : Int) := by omega
        have hb2_ : (i : Int) + (o.size : Int) ≤ (s.size : Int) := by omega
        have ht_ : ((i : Int) + (o.size : Int)).toNat = i + o.size := by omega
        have HSp := Lib.hid (fun W => space_calls s (by omega) (i + o.size) hp1 W)
        rw [Int.natCast_add] at HSp
        obtain ⟨q, hq⟩ : ∃ q, q = scan isSp s.toList (i + o.size) := ⟨_, rfl⟩
        rw [← hq] at hv HSp
        have HQ := Lib.hid hq
        have HV : Hid (∀ W, Calls Tryz.prog 32 #[.string s, .int .i64 (q : Int)] W fun e w' => e = .returned (.tuple #[.int .i64 (en : Int), .agg #[.string m0, .string m1, .string m2, .string m3]]) ∧ Below W.heap.size W w') := Lib.hid hv
        have HHE := Lib.hid hjk
        clear hjk hjn hv hq ho hj12
        go_wp2_with fail
        refine (HSp.out _).mono ?_
        rintro e w1 ⟨rfl, hd1⟩
        have HB1 := Lib.hid (HB.out.trans (hd1.below.mono HB.out.size))
        clear hd1 k0
        go_wp2_with fail
        refine (HV.out _).mono ?_
        rintro e w2 ⟨rfl, hd2⟩
        have HB2 := Lib.hid (HB1.out.trans (hd2.mono HB1.out.size))
        clear hd2
        go_wp2_with fail
        go_ret3
        have hq2 := HQ.out
        subst hq2
        exact ⟨rfl, HB2.out⟩
    | succ m =>
      have hj : (j : Int) < 12 := by omega
      have hw : wrap64 ((j : Int) + 1) = ((j + 1 : Nat) : Int) := by unfold wrap64; omega
      have hjn : j < n := by omega
      obtain ⟨o, ho⟩ : ∃ o, opsL[j]? = some o := ⟨_, List.getElem?_eq_getElem (by simp [opsL]; omega)⟩
      have k0 := HN.out.at ho
      have hjk2 := Lib.hid (show (j + 1) + m = n by omega)
      rcases HMI.out j o hjn ho with hno | ⟨⟨hp1, hp2⟩, m0, m1, m2, m3, hv⟩
      · rcases hno with hsz | ⟨hp1, hp2⟩
        · have hle : decide ((o.size : Int) ≤ (s.size : Int) - (i : Int)) = false := by simp; omega
          clear hjk hjn ho
          go_wp2_with fail
          go_roundg m
          case measure => exact Nat.lt_succ_self m
          case rel => exact ⟨j + 1, _, _, _, rfl, rfl, rfl, by first | rfl | (simp only [hw]) | (congr 1; omega), hjk2.out, HB, HN⟩
        · have hle : (o.size : Int) ≤ (s.size : Int) - (i : Int) := by omega
          have hb1_ : (i : Int) ≤ (i : Int) + (o.size : Int) := by omega
          have hb2_ : (i : Int) + (o.size : Int) ≤ (s.size : Int) := by omega
          have ht_ : ((i : Int) + (o.size : Int)).toNat = i + o.size := by omega
          clear hjk hjn ho
          go_wp2_with fail
          go_roundg m
          case measure => exact Nat.lt_succ_self m
          case rel => exact ⟨j + 1, _, _, _, rfl, rfl, rfl, by first | rfl | (simp only [hw]) | (congr 1; omega), hjk2.out, HB, HN⟩
      · 
        have hle : (o.size : Int) ≤ (s.size : Int) - (i : Int) := by omega
        have hb1_ : (i : Int) ≤ (i : Int) + (o.size : Int) := by omega
        have hb2_ : (i : Int) + (o.size : Int) ≤ (s.size : Int) := by omega
        have ht_ : ((i : Int) + (o.size : Int)).toNat = i + o.size := by omega
        have HSp := Lib.hid (fun W => space_calls s (by omega) (i + o.size) hp1 W)
        rw [Int.natCast_add] at HSp
        obtain ⟨q, hq⟩ : ∃ q, q = scan isSp s.toList (i + o.size) := ⟨_, rfl⟩
        rw [← hq] at hv HSp
        have HQ := Lib.hid hq
        have HV : Hid (∀ W, Calls Tryz.prog 32 #[.string s, .int .i64 (q : Int)] W fun e w' => e = .returned (.tuple #[.int .i64 (-1), .agg #[.string m0, .string m1, .string m2, .string m3]]) ∧ Below W.heap.size W w') := Lib.hid hv
        clear hjk hv hq ho hjn
        go_wp2_with fail
        refine (HSp.out _).mono ?_
        rintro e w1 ⟨rfl, hd1⟩
        have HB1 := Lib.hid (HB.out.trans (hd1.below.mono HB.out.size))
        have HN1 := Lib.hid (HN.out.below hd1.below)
        clear hd1 k0
        go_wp2_with fail
        refine (HV.out _).mono ?_
        rintro e w2 ⟨rfl, hd2⟩
        have HB2 := Lib.hid (HB1.out.trans (hd2.mono HB1.out.size))
        have HN2 := Lib.hid (HN1.out.below hd2)
        clear hd2
        go_wp2_with fail
        go_roundg m
        case measure => exact Nat.lt_succ_self m
        case rel => exact ⟨j + 1, _, _, _, rfl, rfl, rfl, by first | rfl | (simp only [hw]) | (congr 1; omega), hjk2.out, HB2, HN2⟩
end Go.Proofs.YtoebognfkigooaaGreatDoor.Sv
namespace Go.Proofs.YtoebognfkigooaaGreatDoor.Sv
open Go.RowKit Go.Proofs.YtoebognfkigooaaGreatDoor.PFnSemverEither Go.Proofs.YtoebognfkigooaaGreatDoorW.PrintWords Go.Proofs.YtoebognfkigooaaGreatDoor.Txt Go.Proofs.YtoebognfkigooaaGreatDoor Go.Proofs.YtoebognfkigooaaGreatDoor.Vals
set_option linter.unusedVariables false
set_option linter.unusedSimpArgs false

/-- One test: an operator, blanks, one to three numbers. -/
structure Cn where
  op : List UInt8
  bl : List UInt8
  d1 : List UInt8
  d2 : List UInt8
  d3 : List UInt8
def Cn.vt (c : Cn) : List UInt8 := c.d1 ++ (sg 46 c.d2 ++ sg 46 c.d3)
def Cn.text (c : Cn) : List UInt8 := c.op ++ (c.bl ++ c.vt)
def opsLL : List (List UInt8) := [[61], [], [33, 61], [62], [60], [62, 61], [61, 62], [60, 61], [61, 60], [126], [126, 62], [94]]
theorem opsL_eq : opsL = opsLL.map ba := rfl
structure Cn.Ok (c : Cn) : Prop where
  h1 : c.d1 ≠ []
  g1 : c.d1.all isDig = true
  g2 : c.d2.all isDig = true
  g3 : c.d3.all isDig = true
  h23 : c.d2 = [] → c.d3 = []
  ho : c.op ∈ opsLL
  hb : c.bl = [] ∨ c.bl = [32]
/-- What may stand behind a test. -/
def Stop (r : List UInt8) : Prop := r = [] ∨ ∃ x t, r = x :: t ∧ (x = 32 ∨ x = 44)
theorem Stop.none {r : List UInt8} (h : Stop r) {p : UInt8 → Bool} (h1 : p 32 = false) (h2 : p 44 = false) : r = [] ∨ ∃ x t, r = x :: t ∧ p x = false := by
  rcases h with h | ⟨x, t, h, rfl | rfl⟩
  · exact .inl h
  · exact .inr ⟨_, t, h, h1⟩
  · exact .inr ⟨_, t, h, h2⟩
theorem mk_of_dig {d : List UInt8} (h : d.all isDig = true) : d.all isMk = true := by
  rw [List.all_eq_true] at h ⊢
  intro x hx
  unfold isMk
  rw [h x hx]; rfl
theorem sg_mk {d r : List UInt8} (h : r = [] ∨ ∃ x t, r = x :: t ∧ isMk x = false) : sg 46 d ++ r = [] ∨ ∃ x t, sg 46 d ++ r = x :: t ∧ isMk x = false := sg_head (by decide) h
theorem scan_at {p : UInt8 → Bool} {l : List UInt8} (a : List UInt8) {b c : List UInt8} (h : l = a ++ (b ++ c)) (hb : b.all p = true) (hc : c = [] ∨ ∃ x r, c = x :: r ∧ p x = false) : scan p l a.length = a.length + b.length := by
  rw [h, ← List.append_assoc]; exact scan_app a hb hc
theorem scan_none {p : UInt8 → Bool} {l : List UInt8} (a : List UInt8) {c : List UInt8} (h : l = a ++ c) (hc : c = [] ∨ ∃ x r, c = x :: r ∧ p x = false) : scan p l a.length = a.length := by
  have := scan_at (p := p) (l := l) a (b := []) (c := c) (by simpa using h) rfl hc
  simpa using this
theorem ext_mid {s : ByteArray} {a b c : List UInt8} (h : s.toList = a ++ (b ++ c)) : s.extract a.length (a.length + b.length) = ba b := by
  apply ext_eq
  rw [tl_extract, tl_ba, h]; simp
theorem at_head' {s : ByteArray} {a b : List UInt8} (h : s.toList = a ++ b) {n : Nat} (hb : b = [] ∨ ∃ x r, b = x :: r ∧ x.toNat ≠ n) : ∀ hh : a.length < s.size, ((s[a.length]'hh).toNat : Int) ≠ (n : Int) := fun hh e => at_head h hb hh (by omega)
theorem ver_at (s : ByteArray) (hs : s.size ≤ 512) (hq : Plain3 s) (a r : List UInt8) (c : Cn) (hc : c.Ok) (h : s.toList = a ++ (c.vt ++ r)) (hr : Stop r) : VerSays s a.length ((a.length + c.vt.length : Nat) : Int) (ba c.d1) (ba (sg 46 c.d2)) (ba (sg 46 c.d3)) ⟨#[]⟩ := by
  obtain ⟨op, bl, d1, d2, d3⟩ := c
  obtain ⟨h1, g1, g2, g3, h23, ho, hb⟩ := hc
  simp only [Cn.vt] at h ⊢
  simp only at h1 g1 g2 g3 h23
  have hl := len_eq s
  have hlen : s.size = a.length + d1.length + (sg 46 d2).length + (sg 46 d3).length + r.length := by rw [hl, h]; simp; omega
  have hl1 := List.length_pos_iff.2 h1
  have mr := hr.none (p := isMk) (by decide) (by decide)
  have nr : r = [] ∨ ∃ x t, r = x :: t ∧ x.toNat ≠ 46 := by
    rcases hr with h | ⟨x, t, h, rfl | rfl⟩
    · exact .inl h
    · exact .inr ⟨_, t, h, by decide⟩
    · exact .inr ⟨_, t, h, by decide⟩
  have e1 : s.toList = a ++ (d1 ++ (sg 46 d2 ++ (sg 46 d3 ++ r))) := by rw [h]; simp
  have s1 := scan_at a e1 (mk_of_dig g1) (sg_mk (sg_mk mr))
  have x0 : s.extract a.length (a.length + d1.length) = ba d1 := ext_mid e1
  by_cases hd2 : d2 = []
  · have hd3 := h23 hd2
    subst hd2 hd3
    have eE : sg 46 ([] : List UInt8) = [] := rfl
    rw [eE] at e1 ⊢
    simp only [eE, List.nil_append, List.append_nil] at e1 ⊢
    have e1' : s.toList = (a ++ d1) ++ r := by rw [e1]; simp
    intro W
    have := vers_1 s hs hq a.length (by omega) (a.length + d1.length) s1 (by omega) (by omega) (by
      have := at_head' e1' nr
      rw [List.length_append] at this
      exact this) W
    rw [x0] at this
    exact this
  · have hl2 := List.length_pos_iff.2 hd2
    have eD : sg 46 d2 = 46 :: d2 := by unfold sg; rw [if_neg hd2]
    have e2 : s.toList = (a ++ d1) ++ 46 :: (d2 ++ (sg 46 d3 ++ r)) := by rw [e1, eD]; simp
    have e2' : s.toList = (a ++ d1 ++ [46]) ++ (d2 ++ (sg 46 d3 ++ r)) := by rw [e2]; simp
    have e2m : s.toList = (a ++ d1) ++ (sg 46 d2 ++ (sg 46 d3 ++ r)) := by rw [e1]; simp
    obtain ⟨q1, q1v⟩ := at_pos e2
    have s2 := scan_at (a ++ d1 ++ [46]) e2' (mk_of_dig g2) (sg_mk mr)
    have x1 := ext_mid e2m
    have L1 : (a ++ d1).length = a.length + d1.length := List.length_append
    have L2 : (a ++ d1 ++ [46] : List UInt8).length = a.length + d1.length + 1 := by simp; omega
    rw [L2] at s2
    have LD : (sg 46 d2).length = d2.length + 1 := by rw [eD]; rfl
    rw [L1, LD] at x1
    have p2e : a.length + d1.length + 1 + d2.length = a.length + d1.length + (d2.length + 1) := by omega
    rw [p2e] at s2
    have q1' : a.length + d1.length < s.size := by omega
    have q1v' : ((s[a.length + d1.length]'q1').toNat : Int) = 46 := by
      have : s[a.length + d1.length]'q1' = s[(a ++ d1).length]'q1 := by congr 1; exact L1.symm
      rw [this, q1v]; rfl
    by_cases hd3 : d3 = []
    · subst hd3
      have eE : sg 46 ([] : List UInt8) = [] := rfl
      rw [eE] at e1 ⊢
      have e3' : s.toList = (a ++ d1 ++ sg 46 d2) ++ r := by rw [e1]; simp
      have L3 : (a ++ d1 ++ sg 46 d2).length = a.length + d1.length + (d2.length + 1) := by simp [LD]; omega
      intro W
      have := vers_2 s hs hq a.length (by omega) (a.length + d1.length) s1 (by omega) (by omega) (a.length + d1.length + (d2.length + 1)) q1' q1v' s2 (by omega) (by omega) (by
        have := at_head' e3' nr
        rw [L3] at this
        exact this) W
      rw [x0, x1] at this
      have eL : a.length + (d1 ++ (sg 46 d2 ++ [])).length = a.length + d1.length + (d2.length + 1) := by simp [LD]; omega
      rw [eL]
      exact this
    · have hl3 := List.length_pos_iff.2 hd3
      have eF : sg 46 d3 = 46 :: d3 := by unfold sg; rw [if_neg hd3]
      have LF : (sg 46 d3).length = d3.length + 1 := by rw [eF]; rfl
      have e3 : s.toList = (a ++ d1 ++ sg 46 d2) ++ 46 :: (d3 ++ r) := by rw [e1, eF]; simp
      have e3' : s.toList = (a ++ d1 ++ sg 46 d2 ++ [46]) ++ (d3 ++ r) := by rw [e3]; simp
      have e3m : s.toList = (a ++ d1 ++ sg 46 d2) ++ (sg 46 d3 ++ r) := by rw [e1]; simp
      have L3 : (a ++ d1 ++ sg 46 d2).length = a.length + d1.length + (d2.length + 1) := by simp [LD]; omega
      have L4 : (a ++ d1 ++ sg 46 d2 ++ [46] : List UInt8).length = a.length + d1.length + (d2.length + 1) + 1 := by simp [LD]; omega
      obtain ⟨q2, q2v⟩ := at_pos e3
      have s3 := scan_at (a ++ d1 ++ sg 46 d2 ++ [46]) e3' (mk_of_dig g3) mr
      have x2 := ext_mid e3m
      rw [L4] at s3
      rw [L3, LF] at x2
      have p3e : a.length + d1.length + (d2.length + 1) + 1 + d3.length = a.length + d1.length + (d2.length + 1) + (d3.length + 1) := by omega
      rw [p3e] at s3
      have q2' : a.length + d1.length + (d2.length + 1) < s.size := by omega
      have q2v' : ((s[a.length + d1.length + (d2.length + 1)]'q2').toNat : Int) = 46 := by
        have : s[a.length + d1.length + (d2.length + 1)]'q2' = s[(a ++ d1 ++ sg 46 d2).length]'q2 := by congr 1; exact L3.symm
        rw [this, q2v]; rfl
      intro W
      have := vers_3 s hs hq a.length (by omega) (a.length + d1.length) s1 (by omega) (by omega) (a.length + d1.length + (d2.length + 1)) q1' q1v' s2 (by omega) (by omega) (a.length + d1.length + (d2.length + 1) + (d3.length + 1)) q2' q2v' s3 (by omega) (by omega) W
      rw [x0, x1, x2] at this
      have eL : a.length + (d1 ++ (sg 46 d2 ++ sg 46 d3)).length = a.length + d1.length + (d2.length + 1) + (d3.length + 1) := by simp [LD, LF]; omega
      rw [eL]
      exact this
theorem ver_no (s : ByteArray) (hs : s.size ≤ 512) (hq : Plain3 s) (a b : List UInt8) (h : s.toList = a ++ b) (hb : b = [] ∨ ∃ x t, b = x :: t ∧ isMk x = false) : VerSays s a.length (-1) ⟨#[]⟩ ⟨#[]⟩ ⟨#[]⟩ ⟨#[]⟩ := fun W =>
  vers_none s hs hq a.length (by rw [len_eq, h]; simp) (scan_none a h hb) W
end Go.Proofs.YtoebognfkigooaaGreatDoor.Sv
namespace Go.Proofs.YtoebognfkigooaaGreatDoor.Sv
open Go.RowKit Go.Proofs.YtoebognfkigooaaGreatDoor.PFnSemverEither Go.Proofs.YtoebognfkigooaaGreatDoorW.PrintWords Go.Proofs.YtoebognfkigooaaGreatDoor.Txt Go.Proofs.YtoebognfkigooaaGreatDoor Go.Proofs.YtoebognfkigooaaGreatDoor.Vals
set_option linter.unusedVariables false
set_option linter.unusedSimpArgs false

/-- Behind each point there is a mark. -/
def dotOk : List UInt8 → Bool
  | [] => true
  | [c] => decide (c.toNat ≠ 46)
  | c :: d :: r => (decide (c.toNat ≠ 46) || isMk d) && dotOk (d :: r)
theorem dotOk_at : ∀ (l : List UInt8) (k : Nat) (h : k < l.length), dotOk l = true → (l[k]).toNat = 46 → ∃ h2 : k + 1 < l.length, isMk (l[k + 1]) = true
  | [], k, h, _, _ => absurd h (by simp)
  | [c], k, h, hd, e => by
    have : k = 0 := by simp at h; omega
    subst this
    simp [dotOk] at hd
    exact absurd e hd
  | c :: d :: r, 0, h, hd, e => by
    simp only [dotOk, Bool.and_eq_true, Bool.or_eq_true, decide_eq_true_eq] at hd
    refine ⟨by simp, ?_⟩
    rcases hd.1 with h1 | h1
    · exact absurd e h1
    · exact h1
  | c :: d :: r, k + 1, h, hd, e => by
    simp only [dotOk, Bool.and_eq_true] at hd
    obtain ⟨h2, h3⟩ := dotOk_at (d :: r) k (by simpa using h) hd.2 e
    exact ⟨by simpa using h2, h3⟩
theorem ver_any (s : ByteArray) (hs : s.size ≤ 512) (hq : Plain3 s) (hd : dotOk s.toList = true) (i : Nat) (hi : i ≤ s.size) : ∃ r m0 m1 m2 m3, VerSays s i r m0 m1 m2 m3 ∧ (r = -1 ∨ ∃ n : Nat, r = (n : Int) ∧ i < n ∧ n ≤ s.size) := by
  have hl := len_eq s
  have nx : ∀ k (h : k < s.size), ((s[k]'h).toNat : Int) = 46 → k + 1 < scan isMk s.toList (k + 1) := fun k h e => by
    have h' : k < s.toList.length := by omega
    have e' : (s.toList[k]'h').toNat = 46 := by rw [gl s k h h']; omega
    obtain ⟨h2, h3⟩ := dotOk_at s.toList k h' hd e'
    rw [scan_step h2 h3]
    have := (scan_le isMk s.toList (k + 1 + 1) (by omega)).1
    omega
  obtain ⟨g1, g2⟩ := scan_le isMk s.toList i (by omega)
  by_cases h0 : scan isMk s.toList i = i
  · exact ⟨_, _, _, _, _, fun W => vers_none s hs hq i hi h0 W, .inl rfl⟩
  obtain ⟨p1, hp1⟩ : ∃ p1, scan isMk s.toList i = p1 := ⟨_, rfl⟩
  rw [hp1] at g1 g2 h0
  by_cases h1 : ∃ h : p1 < s.size, ((s[p1]'h).toNat : Int) = 46
  · obtain ⟨q1, v1⟩ := h1
    obtain ⟨p2, hp2⟩ : ∃ p2, scan isMk s.toList (p1 + 1) = p2 := ⟨_, rfl⟩
    have n1 := nx p1 q1 v1
    have z1 := (scan_le isMk s.toList (p1 + 1) (by omega)).2
    rw [hp2] at n1 z1
    by_cases h2 : ∃ h : p2 < s.size, ((s[p2]'h).toNat : Int) = 46
    · obtain ⟨q2, v2⟩ := h2
      have n2 := nx p2 q2 v2
      have z2 := (scan_le isMk s.toList (p2 + 1) (by omega)).2
      exact ⟨_, _, _, _, _, fun W => vers_3 s hs hq i hi p1 hp1 (by omega) (by omega) p2 q1 v1 hp2 n1 (by omega) _ q2 v2 rfl n2 (by omega) W, .inr ⟨_, rfl, by omega, by omega⟩⟩
    · exact ⟨_, _, _, _, _, fun W => vers_2 s hs hq i hi p1 hp1 (by omega) (by omega) p2 q1 v1 hp2 n1 (by omega) (fun h e => h2 ⟨h, e⟩) W, .inr ⟨_, rfl, by omega, by omega⟩⟩
  · exact ⟨_, _, _, _, _, fun W => vers_1 s hs hq i hi p1 hp1 (by omega) (by omega) (fun h e => h1 ⟨h, e⟩) W, .inr ⟨_, rfl, by omega, by omega⟩⟩

/-! ### operators -/
/-- No space and no mark. -/
def other (c : UInt8) : Bool := !isSp c && !isMk c
def missB (o : List UInt8) (y : UInt8) (y2 : Option UInt8) : Bool := match o with
  | [] => other y
  | [x] => decide (x ≠ y) || (match y2 with | some z => other z | none => true)
  | [x, x2] => decide (x ≠ y) || decide (some x2 ≠ y2)
  | _ => false
theorem noPre_head {s : ByteArray} {a t : List UInt8} {y x : UInt8} {o : List UInt8} (h : s.toList = a ++ y :: t) (hx : x ≠ y) : NoPre s a.length (ba (x :: o)) := by
  have hl := len_eq s
  unfold NoPre
  rcases Nat.lt_or_ge s.size (a.length + (ba (x :: o)).size) with h1 | h1
  · exact .inl h1
  · refine .inr ⟨h1, ?_⟩
    rw [tl_extract, tl_ba, ba_size, h, List.drop_left' rfl]
    cases hb : List.take (a.length + (x :: o).length - a.length) (y :: t) == x :: o with
    | false => rfl
    | true =>
      rw [beq_iff_eq, show a.length + (x :: o).length - a.length = o.length + 1 by simp, List.take_succ_cons] at hb
      injection hb with h1 _
      exact absurd h1.symm hx
theorem noPre_two {s : ByteArray} {a t : List UInt8} {y x2 : UInt8} {o : List UInt8} (h : s.toList = a ++ y :: t) (hx : t.head? ≠ some x2) : NoPre s a.length (ba (y :: x2 :: o)) := by
  have hl := len_eq s
  unfold NoPre
  rcases Nat.lt_or_ge s.size (a.length + (ba (y :: x2 :: o)).size) with h1 | h1
  · exact .inl h1
  · refine .inr ⟨h1, ?_⟩
    rw [tl_extract, tl_ba, ba_size, h, List.drop_left' rfl]
    cases hb : List.take (a.length + (y :: x2 :: o).length - a.length) (y :: t) == y :: x2 :: o with
    | false => rfl
    | true =>
      rw [beq_iff_eq, show a.length + (y :: x2 :: o).length - a.length = o.length + 1 + 1 by simp, List.take_succ_cons] at hb
      injection hb with _ h2
      cases t with
      | nil => simp at h2
      | cons z t =>
        rw [List.take_succ_cons] at h2
        injection h2 with h3 _
        subst h3
        exact absurd rfl hx
theorem preAt_of {s : ByteArray} {a o r : List UInt8} (h : s.toList = a ++ (o ++ r)) : PreAt s a.length (ba o) := by
  have hl := len_eq s
  refine ⟨by rw [hl, h, ba_size]; simp, ?_⟩
  rw [ba_size, ext_mid h, beq_iff_eq]
theorem miss_of (s : ByteArray) (hs : s.size ≤ 512) (hq : Plain3 s) (a t : List UInt8) (y : UInt8) (h : s.toList = a ++ y :: t) (o : List UInt8) (hm : missB o y t.head? = true) : Miss s a.length (ba o) := by
  have ot : ∀ {z : UInt8}, other z = true → isSp z = false ∧ isMk z = false := fun {z} hz => by
    simp only [other, Bool.and_eq_true, Bool.not_eq_true'] at hz; exact hz
  match o, hm with
  | [], hm =>
    simp only [missB] at hm
    obtain ⟨z1, z2⟩ := ot hm
    refine .inr ⟨preAt_of (by simpa using h), ⟨#[]⟩, ⟨#[]⟩, ⟨#[]⟩, ⟨#[]⟩, ?_⟩
    have e := scan_none (p := isSp) a h (.inr ⟨y, t, rfl, z1⟩)
    rw [ba_size]
    simp only [List.length_nil, Nat.add_zero]
    rw [e]
    exact ver_no s hs hq a (y :: t) h (.inr ⟨y, t, rfl, z2⟩)
  | [x], hm =>
    simp only [missB, Bool.or_eq_true, decide_eq_true_eq] at hm
    by_cases hx : x = y
    · subst hx
      rcases hm with hm | hm
      · exact absurd rfl hm
      · have h2 : s.toList = (a ++ [x]) ++ t := by rw [h]; simp
        have L : (a ++ [x] : List UInt8).length = a.length + 1 := by simp
        refine .inr ⟨preAt_of (r := t) (by rw [h]; rfl), ⟨#[]⟩, ⟨#[]⟩, ⟨#[]⟩, ⟨#[]⟩, ?_⟩
        rw [ba_size]
        simp only [List.length_singleton]
        have hn : (t = [] ∨ ∃ z r, t = z :: r ∧ isSp z = false) ∧ (t = [] ∨ ∃ z r, t = z :: r ∧ isMk z = false) := by
          cases t with
          | nil => exact ⟨.inl rfl, .inl rfl⟩
          | cons z r =>
            simp only [List.head?_cons] at hm
            obtain ⟨z1, z2⟩ := ot hm
            exact ⟨.inr ⟨z, r, rfl, z1⟩, .inr ⟨z, r, rfl, z2⟩⟩
        have e := scan_none (p := isSp) (a ++ [x]) h2 hn.1
        have := ver_no s hs hq (a ++ [x]) t h2 hn.2
        rw [L] at e this
        rw [e]
        exact this
    · exact .inl (noPre_head h hx)
  | [x, x2], hm =>
    simp only [missB, Bool.or_eq_true, decide_eq_true_eq] at hm
    by_cases hx : x = y
    · subst hx
      rcases hm with hm | hm
      · exact absurd rfl hm
      · exact .inl (noPre_two h (fun e => hm e.symm))
    · exact .inl (noPre_head h hx)
  | _ :: _ :: _ :: _, hm => simp [missB] at hm
theorem opsL_get {j : Nat} {o : ByteArray} (h : opsL[j]? = some o) : ∃ x, opsLL[j]? = some x ∧ o = ba x := by
  rw [opsL_eq, List.getElem?_map] at h
  obtain ⟨x, h1, h2⟩ := Option.map_eq_some_iff.1 h
  exact ⟨x, h1, h2.symm⟩
theorem opsL_of {j : Nat} {x : List UInt8} (h : opsLL[j]? = some x) : opsL[j]? = some (ba x) := by
  rw [opsL_eq, List.getElem?_map, h]; rfl
/-- A test stands at a place. -/
theorem con_at (s : ByteArray) (hs : s.size ≤ 512) (hq : Plain3 s) (a r : List UInt8) (c : Cn) (hc : c.Ok) (h : s.toList = a ++ (c.text ++ r)) (hr : Stop r) :
    ConSays s a.length (.tuple #[.int .i64 ((a.length + c.text.length : Nat) : Int), .int .i64 ((a.length + c.op.length + c.bl.length : Nat) : Int), .string (ba c.op)]) := by
  have hc' := hc
  obtain ⟨h1, g1, g2, g3, h23, ho, hb⟩ := hc
  have hl := len_eq s
  obtain ⟨n, hn, hno⟩ := List.getElem_of_mem ho
  have hn12 : n < 12 := hn
  have hget : opsLL[n]? = some c.op := by rw [List.getElem?_eq_getElem hn, hno]
  -- what is behind the operator
  obtain ⟨x, d, hx⟩ : ∃ x d, c.d1 = x :: d := by
    cases hd : c.d1 with
    | nil => exact absurd hd h1
    | cons x d => exact ⟨x, d, rfl⟩
  have hxd : isDig x = true := by rw [hx] at g1; simp only [List.all_cons, Bool.and_eq_true] at g1; exact g1.1
  have hxn := dig_range hxd
  have hxsp : isSp x = false := by unfold isSp; simp; omega
  have e1 : s.toList = a ++ (c.op ++ (c.bl ++ (c.vt ++ r))) := by rw [h]; unfold Cn.text; simp
  have e2 : s.toList = (a ++ c.op ++ c.bl) ++ (c.vt ++ r) := by rw [e1]; simp
  have L2 : (a ++ c.op ++ c.bl).length = a.length + c.op.length + c.bl.length := by simp; omega
  have hsz : s.size = a.length + c.text.length + r.length := by rw [hl, h]; simp; omega
  have hvt : ∃ t, c.vt ++ r = x :: t := ⟨_, by unfold Cn.vt; rw [hx]; rfl⟩
  obtain ⟨vt, hvt⟩ := hvt
  have hsc : scan isSp s.toList (a.length + c.op.length) = a.length + c.op.length + c.bl.length := by
    have := scan_at (p := isSp) (l := s.toList) (a ++ c.op) (b := c.bl) (c := c.vt ++ r) (by rw [e1]; simp) (by rcases hb with e | e <;> rw [e] <;> rfl) (.inr ⟨x, vt, hvt, hxsp⟩)
    rw [List.length_append] at this
    exact this
  obtain ⟨y0, t0, hy0, hy0v⟩ : ∃ y0 t0, c.bl ++ (c.vt ++ r) = y0 :: t0 ∧ (y0 = 32 ∨ y0 = x) := by
    rcases hb with e | e <;> rw [e]
    · exact ⟨x, vt, by simpa using hvt, .inr rfl⟩
    · exact ⟨32, _, rfl, .inl rfl⟩
  refine con_walk s hs a.length (by omega) n (by omega) (fun j o hj hoj => ?_) _ (.inr ⟨ba c.op, opsL_of hget, preAt_of e1, a.length + c.op.length + c.bl.length + c.vt.length, ba c.d1, ba (sg 46 c.d2), ba (sg 46 c.d3), ⟨#[]⟩, ?_, ?_⟩)
  · obtain ⟨z, hz1, rfl⟩ := opsL_get hoj
    rw [hy0] at e1
    have hnz : ∀ k : UInt8, k.toNat < 48 ∨ 57 < k.toNat → k ≠ 32 → k ≠ y0 := fun k hk1 hk2 e => by
      rcases hy0v with e' | e'
      · exact hk2 (e.trans e')
      · rw [e, e'] at hk1; omega
    have key : ∃ y t, s.toList = a ++ y :: t ∧ missB z y t.head? = true := by
      rcases n with _ | _ | _ | _ | _ | _ | _ | _ | _ | _ | _ | _ | n
      all_goals first | omega | skip
      all_goals simp [opsLL] at hget
      all_goals first | rw [← hget] at e1 | rw [hget] at e1
      all_goals first
        | (rw [List.nil_append] at e1; refine ⟨_, _, e1, ?_⟩)
        | (rw [List.cons_append] at e1; refine ⟨_, _, e1, ?_⟩)
      all_goals rcases j with _ | _ | _ | _ | _ | _ | _ | _ | _ | _ | _ | _ | j
      all_goals first | omega | skip
      all_goals simp [opsLL] at hz1
      all_goals subst hz1
      all_goals first
        | rfl
        | (simp only [missB, Bool.or_eq_true, decide_eq_true_eq]; exact .inl (hnz _ (by decide) (by decide)))
        | (simp only [missB]; decide)
    obtain ⟨y, t, he, hm⟩ := key
    exact miss_of s hs hq a t y he z hm
  · rw [ba_size, hsc]
    have := ver_at s hs hq _ r c hc' e2 hr
    rw [L2] at this
    exact this
  · rw [ba_size, hsc]
    have : a.length + c.text.length = a.length + c.op.length + c.bl.length + c.vt.length := by unfold Cn.text; simp; omega
    rw [this]
/-- No test stands there. -/
theorem con_none (s : ByteArray) (hs : s.size ≤ 512) (hq : Plain3 s) (a t : List UInt8) (y : UInt8) (h : s.toList = a ++ y :: t) (hy : y = 44 ∨ (y = 32 ∧ (t = [] ∨ ∃ z r, t = z :: r ∧ other z = true))) :
    ConSays s a.length (.tuple #[.int .i64 (-1), .int .i64 0, .string ⟨#[]⟩]) := by
  have hl := len_eq s
  have hsz : s.size = a.length + (t.length + 1) := by rw [hl, h]; simp
  refine con_walk s hs a.length (by omega) 12 (Nat.le_refl _) (fun j o hj hoj => ?_) _ (.inl ⟨rfl, rfl⟩)
  obtain ⟨z, hz1, rfl⟩ := opsL_get hoj
  rcases hy with rfl | ⟨rfl, ht⟩
  · refine miss_of s hs hq a t 44 h z ?_
    rcases j with _ | _ | _ | _ | _ | _ | _ | _ | _ | _ | _ | _ | j
    all_goals first | omega | skip
    all_goals simp [opsLL] at hz1
    all_goals subst hz1
    all_goals first | rfl | (simp only [missB]; decide)
  · by_cases hz0 : z = []
    · subst hz0
      have h2 : s.toList = (a ++ [32]) ++ t := by rw [h]; simp
      have L : (a ++ [32] : List UInt8).length = a.length + 1 := by simp
      refine .inr ⟨preAt_of (by simpa using h), ⟨#[]⟩, ⟨#[]⟩, ⟨#[]⟩, ⟨#[]⟩, ?_⟩
      have hn : (t = [] ∨ ∃ z r, t = z :: r ∧ isSp z = false) ∧ (t = [] ∨ ∃ z r, t = z :: r ∧ isMk z = false) := by
        rcases ht with e | ⟨z, r, e, hz⟩
        · exact ⟨.inl e, .inl e⟩
        · simp only [other, Bool.and_eq_true, Bool.not_eq_true'] at hz
          exact ⟨.inr ⟨z, r, e, hz.1⟩, .inr ⟨z, r, e, hz.2⟩⟩
      have e := scan_at (p := isSp) (l := s.toList) a (b := [32]) (c := t) (by rw [h]; rfl) rfl hn.1
      rw [ba_size]
      simp only [List.length_nil, Nat.add_zero]
      rw [e]
      have := ver_no s hs hq (a ++ [32]) t h2 hn.2
      rw [L] at this
      exact this
    · refine miss_of s hs hq a t 32 h z ?_
      rcases j with _ | _ | _ | _ | _ | _ | _ | _ | _ | _ | _ | _ | j
      all_goals first | omega | skip
      all_goals simp [opsLL] at hz1
      all_goals first | (exact absurd hz1 hz0) | (exact absurd hz1.symm hz0) | skip
      all_goals subst hz1
      all_goals first | rfl | (simp only [missB]; decide)
end Go.Proofs.YtoebognfkigooaaGreatDoor.Sv
namespace Go.Proofs.YtoebognfkigooaaGreatDoor.Sv
open Go.RowKit Go.Proofs.YtoebognfkigooaaGreatDoor.PFnSemverEither Go.Proofs.YtoebognfkigooaaGreatDoorW.PrintWords Go.Proofs.YtoebognfkigooaaGreatDoor.Txt Go.Proofs.YtoebognfkigooaaGreatDoor Go.Proofs.YtoebognfkigooaaGreatDoor.Vals
set_option linter.unusedVariables false
set_option linter.unusedSimpArgs false
set_option maxRecDepth 20000

theorem scan_ge (p : UInt8 → Bool) (s : ByteArray) (i : Nat) (h : i ≤ s.size) : i ≤ scan p s.toList i ∧ scan p s.toList i ≤ s.size := by
  have := scan_le p s.toList i (by rw [← len_eq]; exact h)
  rw [← len_eq] at this
  exact this
set_option maxHeartbeats 4000000 in
theorem rewrite_walk (s : ByteArray) (hs : s.size ≤ 512) (hq : Plain3 s) (hd : dotOk s.toList = true) (w : World) :
    Calls Tryz.prog 18 #[.string s] w fun e w' => e = .returned (.string s) ∧ Below w.heap.size w w' := by
  have HV := Lib.hid (fun i hi => ver_any s hs hq hd i hi)
  have HS := Lib.hid (fun i hi W => space_calls s (by omega) i hi W)
  have HQ := Lib.hid hq
  clear hd hq
  go_enter Tryz.func18, Tryz.ntmps18
  go_wp2_with fail
  go_loopg [3, 4, 5, 6, 7, 8, 9, 10, 11, 12] s.size (fun kq v3 v4 v5 v6 v7 v8 v9 v10 v11 v12 wr => ∃ (i : Nat) (x5 x6 x7 x8 x9 x10 x11 x12 : Value), v3 = .string s ∧ v4 = .int .i64 (i : Int) ∧ v5 = x5 ∧ v6 = x6 ∧ v7 = x7 ∧ v8 = x8 ∧ v9 = x9 ∧ v10 = x10 ∧ v11 = x11 ∧ v12 = x12 ∧ i + kq = s.size ∧ Hid (Below w.heap.size w wr))
  case atStart => exact ⟨0, _, _, _, _, _, _, _, _, rfl, rfl, rfl, rfl, rfl, rfl, rfl, rfl, rfl, rfl, by omega, Lib.hid (Below.refl _ _)⟩
  case round =>
    obtain ⟨i, x5, x6, x7, x8, x9, x10, x11, x12, rfl, rfl, rfl, rfl, rfl, rfl, rfl, rfl, rfl, rfl, hik, HB⟩ := hrel
    cases gk with
    | zero =>
      have hin : ¬ (i : Int) < (s.size : Int) := by omega
      clear hik
      go_wp2_with fail
      go_ret
      exact ⟨rfl, HB.out⟩
    | succ m =>
      have hin : (i : Int) < (s.size : Int) := by omega
      have hw : wrap64 ((i : Int) + 1) = ((i + 1 : Nat) : Int) := by unfold wrap64; omega
      have HIK := Lib.hid hik
      obtain ⟨kz, hkz⟩ : ∃ kz, kz = scan isSp s.toList i := ⟨_, rfl⟩
      have hkb := (scan_ge isSp s i (by omega)).2
      have HS1 := Lib.hid (fun W => HS.out i (by omega) W)
      rw [← hkz] at hkb HS1
      obtain ⟨r, m0, m1, m2, m3, hv, hr⟩ := HV.out kz hkb
      have HV1 : Hid (∀ W, Calls Tryz.prog 32 #[.string s, .int .i64 (kz : Int)] W fun e w' => e = .returned (.tuple #[.int .i64 r, .agg #[.string m0, .string m1, .string m2, .string m3]]) ∧ Below W.heap.size W w') := Lib.hid hv
      clear hik hv hkz
      go_wp2_with fail
      refine (HS1.out _).mono ?_
      rintro e w1 ⟨rfl, hd1⟩
      have HB1 := Lib.hid (HB.out.trans (hd1.below.mono HB.out.size))
      clear hd1
      go_wp2_with fail
      refine (HV1.out _).mono ?_
      rintro e w2 ⟨rfl, hd2⟩
      have HB2 := Lib.hid (HB1.out.trans (hd2.mono HB1.out.size))
      have HB3 : Hid (∀ o, Below w.heap.size w (w2.alloc o)) := Lib.hid fun o => HB2.out.alloc HB2.out.size o
      clear hd2
      rcases hr with rfl | ⟨n, rfl, hkn, hns⟩
      · go_wp2_with fail
        go_roundg m
        case measure => exact Nat.lt_succ_self m
        case rel => exact ⟨i + 1, _, _, _, _, _, _, _, _, rfl, by first | rfl | (simp only [hw]) | (congr 1; omega), rfl, rfl, rfl, rfl, rfl, rfl, rfl, rfl, by have := HIK.out; omega, Lib.hid (HB3.out _)⟩
      · have HS2 := Lib.hid (fun W => HS.out n hns W)
        obtain ⟨hz, hhz⟩ : ∃ hz, hz = scan isSp s.toList n := ⟨_, rfl⟩
        have hzb := scan_ge isSp s n hns
        rw [← hhz] at hzb HS2
        clear hhz hns hkn
        go_wp2_with fail
        refine (HS2.out _).mono ?_
        rintro e w3 ⟨rfl, hd3⟩
        have HB4 := Lib.hid ((HB3.out _).trans (hd3.below.mono (HB3.out _).size))
        clear hd3
        by_cases hg1 : n < hz
        · by_cases hg2 : hz < s.size
          · have hg1' : (n : Int) < (hz : Int) := by omega
            have hg2' : (hz : Int) < (s.size : Int) := by omega
            have hg3 : (((s[hz]'hg2).toNat : Int) == 45) = false := by have := (HQ.out.at hg2).1; simp; omega
            clear hzb hkb
            go_wp2_with fail
            go_roundg m
            case measure => exact Nat.lt_succ_self m
            case rel => exact ⟨i + 1, _, _, _, _, _, _, _, _, rfl, by first | rfl | (simp only [hw]) | (congr 1; omega), rfl, rfl, rfl, rfl, rfl, rfl, rfl, rfl, by have := HIK.out; omega, HB4⟩
          · have hg1' : (n : Int) < (hz : Int) := by omega
            have hg2' : decide ((hz : Int) < (s.size : Int)) = false := by simp; omega
            clear hzb hkb
            go_wp2_with fail
            go_roundg m
            case measure => exact Nat.lt_succ_self m
            case rel => exact ⟨i + 1, _, _, _, _, _, _, _, _, rfl, by first | rfl | (simp only [hw]) | (congr 1; omega), rfl, rfl, rfl, rfl, rfl, rfl, rfl, rfl, by have := HIK.out; omega, HB4⟩
        · have hg1' : decide ((n : Int) < (hz : Int)) = false := by simp; omega
          clear hzb hkb
          go_wp2_with fail
          go_roundg m
          case measure => exact Nat.lt_succ_self m
          case rel => exact ⟨i + 1, _, _, _, _, _, _, _, _, rfl, by first | rfl | (simp only [hw]) | (congr 1; omega), rfl, rfl, rfl, rfl, rfl, rfl, rfl, rfl, by have := HIK.out; omega, HB4⟩

/-- What a text of constraints is like at a place (zzValid). -/
def VStep (s : ByteArray) (V : Nat → Prop) : Prop := ∀ i, V i → i ≤ s.size ∧ ∃ (en : Nat) (at_ : Int) (op : ByteArray), i < en ∧ en ≤ s.size ∧ ConSays s i (.tuple #[.int .i64 (en : Int), .int .i64 at_, .string op]) ∧
  (scan isSp s.toList en = s.size ∨ (∃ h : scan isSp s.toList en < s.size, ((s[scan isSp s.toList en]'h).toNat : Int) = 44 ∧ V (scan isSp s.toList (scan isSp s.toList en + 1))) ∨ (∃ h : scan isSp s.toList en < s.size, ((s[scan isSp s.toList en]'h).toNat : Int) ≠ 44 ∧ en < scan isSp s.toList en ∧ V (scan isSp s.toList en)))
set_option maxHeartbeats 4000000 in
theorem valid_walk (s : ByteArray) (hs : s.size ≤ 512) (V : Nat → Prop) (h0 : V (scan isSp s.toList 0)) (hV : VStep s V) (w : World) :
    Calls Tryz.prog 20 #[.string s] w fun e w' => e = .returned (.bool true) ∧ Below w.heap.size w w' := by
  have HS := Lib.hid (fun i hi W => space_calls s (by omega) i hi W)
  have HS0 := Lib.hid (fun W => space_calls s (by omega) 0 (Nat.zero_le _) W)
  obtain ⟨z0, hz0⟩ : ∃ z, z = scan isSp s.toList 0 := ⟨_, rfl⟩
  rw [← hz0] at h0 HS0
  have HV := Lib.hid hV
  have H0 := Lib.hid h0
  have hz := (hV _ h0).1
  clear hV h0 hz0
  go_enter Tryz.func20, Tryz.ntmps20
  go_wp2_with fail
  refine (HS0.out _).mono ?_
  rintro e w1 ⟨rfl, hd1⟩
  have HB1 := Lib.hid hd1.below
  clear hd1
  go_wp2_with fail
  go_loopg [3, 4, 5, 6, 21, 26, 35] (s.size - z0) (fun kq v3 v4 v5 v6 v21 v26 v35 wr => ∃ (i : Nat) (x4 x5 x6 x21 x26 x35 : Value), v3 = .int .i64 (i : Int) ∧ v4 = x4 ∧ v5 = x5 ∧ v6 = x6 ∧ v21 = x21 ∧ v26 = x26 ∧ v35 = x35 ∧ Hid (V i) ∧ i + kq = s.size ∧ Hid (Below w.heap.size w wr))
  case atStart => exact ⟨z0, _, _, _, _, _, _, rfl, rfl, rfl, rfl, rfl, rfl, rfl, H0, by omega, HB1⟩
  case round =>
    obtain ⟨i, x4, x5, x6, x21, x26, x35, rfl, rfl, rfl, rfl, rfl, rfl, rfl, HI, hik, HB⟩ := hrel
    obtain ⟨hi, en, at_, op, hie, hes, hcon, hnext⟩ := HV.out i HI.out
    have HC : Hid (∀ W, Calls Tryz.prog 35 #[.string s, .int .i64 (i : Int)] W fun e w' => e = .returned (.tuple #[.int .i64 (en : Int), .int .i64 at_, .string op]) ∧ Below W.heap.size W w') := Lib.hid hcon
    have HS1 := Lib.hid (fun W => HS.out en hes W)
    have hjb := scan_ge isSp s en hes
    obtain ⟨j, hj⟩ : ∃ j, j = scan isSp s.toList en := ⟨_, rfl⟩
    rw [← hj] at HS1 hjb
    have HNX : Hid (j = s.size ∨ (∃ h : j < s.size, ((s[j]'h).toNat : Int) = 44 ∧ V (scan isSp s.toList (j + 1))) ∨ (∃ h : j < s.size, ((s[j]'h).toNat : Int) ≠ 44 ∧ en < j ∧ V j)) := Lib.hid (by subst hj; exact hnext)
    have HIE := Lib.hid hie
    clear hcon hnext hj hie hi hes
    have HIK := Lib.hid hik
    clear hik
    go_wp2_with fail
    refine (HC.out _).mono ?_
    rintro e w2 ⟨rfl, hd2⟩
    have HB2 := Lib.hid (HB.out.trans (hd2.mono HB.out.size))
    clear hd2
    go_wp2_with fail
    refine (HS1.out _).mono ?_
    rintro e w3 ⟨rfl, hd3⟩
    have HB3 := Lib.hid (HB2.out.trans (hd3.below.mono HB2.out.size))
    clear hd3
    rcases HNX.out with hend | ⟨hlt, h44, hv⟩ | ⟨hlt, h44, hej, hv⟩
    · have hje : ((j : Int) == (s.size : Int)) = true := by rw [hend]; simp
      clear hend hjb
      go_wp2_with fail
      go_ret
      exact ⟨rfl, HB3.out⟩
    · have hje : ((j : Int) == (s.size : Int)) = false := by simp; omega
      have h44' : (((s[j]'hlt).toNat : Int) == 44) = true := by simp [h44]
      have hlt' : (j : Int) < (s.size : Int) := by omega
      have HS2 := Lib.hid (fun W => HS.out (j + 1) (by omega) W)
      obtain ⟨q, hq⟩ : ∃ q, q = scan isSp s.toList (j + 1) := ⟨_, rfl⟩
      have hqb := scan_ge isSp s (j + 1) (by omega)
      rw [← hq] at HS2 hv hqb
      rw [show ((j + 1 : Nat) : Int) = (j : Int) + 1 from rfl] at HS2
      have HVQ := Lib.hid hv
      have HQB := Lib.hid (And.intro hqb hjb)
      clear hjb h44 hv hq hqb
      go_wp2_with fail
      refine (HS2.out _).mono ?_
      rintro e w4 ⟨rfl, hd4⟩
      have HB4 := Lib.hid (HB3.out.trans (hd4.below.mono HB3.out.size))
      clear hd4
      go_wp2_with fail
      go_roundg (s.size - q)
      case measure => have := HIK.out; have := HIE.out; have := HQB.out; omega
      case rel => exact ⟨q, _, _, _, _, _, _, rfl, rfl, rfl, rfl, rfl, rfl, rfl, HVQ, by have := HQB.out; omega, HB4⟩
    · have hje : ((j : Int) == (s.size : Int)) = false := by simp; omega
      have h44' : (((s[j]'hlt).toNat : Int) == 44) = false := by simp [h44]
      have hlt' : (j : Int) < (s.size : Int) := by omega
      have hje2 : ((j : Int) == (en : Int)) = false := by simp; omega
      have HVQ := Lib.hid hv
      have HQB := Lib.hid (And.intro hjb hej)
      clear hjb h44 hv hej
      go_wp2_with fail
      go_roundg (s.size - j)
      case measure => have := HIK.out; have := HIE.out; have := HQB.out; omega
      case rel => exact ⟨j, _, _, _, _, _, _, rfl, rfl, rfl, rfl, rfl, rfl, rfl, HVQ, by omega, HB3⟩

theorem news_cells (w : World) (cs : Array Value) (t : TypeId) : ∀ j u, cs.toList[j]? = some u → (w.alloc (.cells cs t)).cell? ((⟨w.heap.size, 0, none⟩ : Addr).add j) = some u := by
  intro j u hj
  rw [add_plain, blk_cell (heap_alloc_new w _)]
  simpa using hj
theorem one_str {v : Value} (h : v.oneCell' = true) : ∀ u ∈ [v], u.oneCell' = true := fun u hu => by rw [List.mem_singleton.1 hu]; exact h
theorem infoStr : (Tryz.prog.info? 9).map (fun i => (i.zero, i.size, i.bytes)) = some (some (.string ⟨#[]⟩), 1, 16) := by kernel_rfl
/-- What a text of constraints is like at a place (zzFind). -/
def FStep (s : ByteArray) (F : Nat → List ByteArray → Prop) : Prop := ∀ i out, F i out → i ≤ s.size ∧ out.length ≤ i ∧ (i < s.size →
  (∃ (en : Nat) (at_ : Int) (op : ByteArray), i < en ∧ en ≤ s.size ∧ ConSays s i (.tuple #[.int .i64 (en : Int), .int .i64 at_, .string op]) ∧ F en (out ++ [s.extract i en])) ∨
  (ConSays s i (.tuple #[.int .i64 (-1), .int .i64 0, .string ⟨#[]⟩]) ∧ F (i + 1) out))
set_option maxHeartbeats 4000000 in
theorem find_walk (s : ByteArray) (hs : s.size ≤ 512) (F : Nat → List ByteArray → Prop) (h0 : F 0 []) (hF : FStep s F) (w : World) :
    Calls Tryz.prog 22 #[.string s] w fun e w' => ∃ (G : Option Addr) (cap : Nat) (out : List ByteArray), e = .returned (.slice G out.length cap) ∧ Hid (w'.ownsRow w.heap.size 9 1 (.slice G out.length cap) out.length (out.map Value.string)) ∧ Hid (F s.size out) ∧ Hid (Below w.heap.size w w') := by
  have HF := Lib.hid hF
  have H0 := Lib.hid h0
  clear hF h0
  obtain ⟨j0, hj0, hz⟩ := Option.map_eq_some_iff.1 infoStr
  simp only [Prod.mk.injEq] at hz
  obtain ⟨jz0, jz1, jz2⟩ := hz
  go_enter Tryz.func22, Tryz.ntmps22
  go_wp2_with fail
  go_loopg [3, 4, 5, 6, 7] s.size (fun kq v3 v4 v5 v6 v7 wr => ∃ (i m cap : Nat) (G : Option Addr) (out : List ByteArray) (x5 x6 x7 : Value), v3 = .slice G m cap ∧ v4 = .int .i64 (i : Int) ∧ v5 = x5 ∧ v6 = x6 ∧ v7 = x7 ∧ Hid (m = out.length) ∧ Hid (F i out) ∧ i + kq = s.size ∧ Hid (wr.ownsRow w.heap.size 9 1 (.slice G m cap) m (out.map Value.string)) ∧ Hid (Below w.heap.size w wr))
  case atStart => exact ⟨0, 0, 0, none, [], _, _, _, rfl, rfl, rfl, rfl, rfl, Lib.hid rfl, H0, by omega, Lib.hid (World.ownsRow_nil _ _ _ _), Lib.hid (Below.refl _ _)⟩
  case round =>
    obtain ⟨i, m, cap, G, out, x5, x6, x7, rfl, rfl, rfl, rfl, rfl, HM, HI, hik, HO, HB⟩ := hrel
    obtain ⟨hi, hoi, hnext⟩ := HF.out i out HI.out
    by_cases hlt : i < s.size
    · have hlt' : (i : Int) < (s.size : Int) := by omega
      have HIK := Lib.hid hik
      rcases hnext hlt with ⟨en, at_, op, hie, hes, hcon, hf⟩ | ⟨hcon, hf⟩
      · have HC : Hid (∀ W, Calls Tryz.prog 35 #[.string s, .int .i64 (i : Int)] W fun e w' => e = .returned (.tuple #[.int .i64 (en : Int), .int .i64 at_, .string op]) ∧ Below W.heap.size W w') := Lib.hid hcon
        have HFN := Lib.hid hf
        have hb1_ : (i : Int) ≤ (en : Int) := by omega
        have hb2_ : (en : Int) ≤ (s.size : Int) := by omega
        have HIE := Lib.hid (And.intro hie hes)
        have HMS : Hid (m ≤ 512) := Lib.hid (by rw [HM.out]; omega)
        clear hcon hf hnext hik hoi hi hie hes
        go_wp2_with fail
        refine (HC.out _).mono ?_
        rintro e w1 ⟨rfl, hd1⟩
        have HB1 := Lib.hid (HB.out.trans (hd1.mono HB.out.size))
        have HO1 : Hid (w1.ownsRow w.heap.size 9 1 (.slice G m cap) m (out.map Value.string)) := Lib.hid (World.ownsRow.kept (w := wr) HO.out (grown_of_below hd1 none) (by cases G <;> simp [Value.ownBlock]))
        have HS1 := Lib.hid HB1.out.size
        clear hd1
        go_wp2_with (at_builtin; go_must (refine wpList_append_lies _ rfl _ _ 22 rfl w.heap.size 9 j0 _ 1 16 Tryz.underlying22 hj0 jz0 jz1 jz2 rfl (by decide) (.slice G m cap) m (out.map Value.string) rfl (HO1.out.alloc _) ⟨w1.heap.size, 0, none⟩ 1 1 [.string (s.extract i en)] rfl rfl (news_cells _ _ _) (one_str rfl) (by decide) (by unfold maxLen; have := HMS.out; omega) (by have := HMS.out; omega) (by have := HS1.out; simp; omega) _ rfl ?_); intro g2 cap2 w2 hown2 hgrow hat hlt2; refine Hid.out ?_)
        refine Lib.hid ?_
        have HZ := Lib.hid (And.intro hown2 (And.intro hgrow hat))
        clear hown2 hgrow hat hlt2
        go_wp2_with fail
        go_roundg (s.size - en)
        case measure => have := HIK.out; have := HIE.out; omega
        case rel =>
          obtain ⟨hown2, hgrow, hat⟩ := HZ.out
          refine ⟨en, m + 1, cap2, some ⟨g2, 0, none⟩, out ++ [s.extract i en], _, _, _, by simp, rfl, rfl, rfl, rfl, Lib.hid (by rw [HM.out]; simp), HFN, by have := HIE.out; omega, Lib.hid ?_, Lib.hid ?_⟩
          · rw [List.map_append]; exact hown2
          · exact (HB1.out.alloc HS1.out _).grown hgrow (by simp; have := HS1.out; omega) (fun k hk => (HO1.out.lt k hk).1)
      · have HC : Hid (∀ W, Calls Tryz.prog 35 #[.string s, .int .i64 (i : Int)] W fun e w' => e = .returned (.tuple #[.int .i64 (-1), .int .i64 0, .string ⟨#[]⟩]) ∧ Below W.heap.size W w') := Lib.hid hcon
        have HFN := Lib.hid hf
        have hw : wrap64 ((i : Int) + 1) = ((i + 1 : Nat) : Int) := by unfold wrap64; omega
        clear hcon hf hnext hik hoi hi
        go_wp2_with fail
        refine (HC.out _).mono ?_
        rintro e w1 ⟨rfl, hd1⟩
        have HB1 := Lib.hid (HB.out.trans (hd1.mono HB.out.size))
        have HO1 : Hid (w1.ownsRow w.heap.size 9 1 (.slice G m cap) m (out.map Value.string)) := Lib.hid (World.ownsRow.kept (w := wr) HO.out (grown_of_below hd1 none) (by cases G <;> simp [Value.ownBlock]))
        clear hd1
        go_wp2_with fail
        go_roundg (s.size - (i + 1))
        case measure => have := HIK.out; omega
        case rel => exact ⟨i + 1, m, cap, G, out, _, _, _, rfl, by first | rfl | (simp only [hw]) | (congr 1; omega), rfl, rfl, rfl, HM, HFN, by omega, HO1, HB1⟩
    · have hlt' : ¬ (i : Int) < (s.size : Int) := by omega
      have hie : i = s.size := by omega
      have HIE := Lib.hid hie
      clear hnext hie hik hoi hi
      go_wp2_with fail
      go_ret
      exact ⟨G, cap, out, by rw [HM.out]; rfl, by rw [← HM.out]; exact HO, by rw [← HIE.out]; exact HI, HB⟩
end Go.Proofs.YtoebognfkigooaaGreatDoor.Sv
