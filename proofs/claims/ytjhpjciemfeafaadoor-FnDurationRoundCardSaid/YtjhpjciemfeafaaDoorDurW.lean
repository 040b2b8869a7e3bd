/- Walks of sprig's durationRound at a text of whole numbers and units, and at a number of nanoseconds; impl's doors to it. -/
import Derived.Test.YtjhpjciemfeafaaDoorDur
import Derived.Test.YtjhpjciemfeafaaDoorFmtU
import Derived.Lib.ItoaLen
namespace Go.Proofs.YtjhpjciemfeafaaDoor.Giv
open Go.RowKit Go.Proofs.YtjhpjciemfeafaaDoorW.PrintWords Go.Proofs.YtjhpjciemfeafaaDoor.Txt
set_option linter.unusedVariables false
set_option maxRecDepth 20000

/-- A number of nanoseconds in its most significant unit. -/
def roundB (D : Nat) : ByteArray :=
  if D > 31536000000000000 then itoaB ((D / 31536000000000000 : Nat) : Int) ++ ⟨#[121]⟩ else
  if D > 2592000000000000 then itoaB ((D / 2592000000000000 : Nat) : Int) ++ ⟨#[109, 111]⟩ else
  if D > 86400000000000 then itoaB ((D / 86400000000000 : Nat) : Int) ++ ⟨#[100]⟩ else
  if D > 3600000000000 then itoaB ((D / 3600000000000 : Nat) : Int) ++ ⟨#[104]⟩ else
  if D > 60000000000 then itoaB ((D / 60000000000 : Nat) : Int) ++ ⟨#[109]⟩ else
  if D > 1000000000 then itoaB ((D / 1000000000 : Nat) : Int) ++ ⟨#[115]⟩ else
  ⟨#[48, 115]⟩
theorem itoa_le (n : Nat) (h : n ≤ 9223372036854775807) : (itoaB (n : Int)).size ≤ 21 := by
  have := Lib.itoa_length_le (n : Int) (by omega) (by omega)
  unfold itoaB
  simpa [ByteArray.size] using this
set_option maxHeartbeats 4000000 in
theorem roundNano_walk (D : Nat) (hD : D ≤ 9223372036854775807) (w : World) (T : Pow10 w) :
    Calls Tryd.prog 22 #[.iface 2 (.int .i64 (D : Int))] w fun e w' => e = .returned (.string (roundB D)) ∧ Below w.heap.size w w' := by
  have T2 := Lib.hid T
  have hta1 : ∀ w, (Instr.typeAssert (.iface 2 (.int .i64 (D : Int))) 20 9 true).run Tryd.prog w = .ok (.tuple #[.string ⟨#[]⟩, .bool false]) w := fun w => by kernel_rfl
  have hta2 : ∀ w, (Instr.typeAssert (.iface 2 (.int .i64 (D : Int))) 20 2 true).run Tryd.prog w = .ok (.tuple #[.int .i64 (D : Int), .bool true]) w := fun w => by kernel_rfl
  have hnn : ¬ (D : Int) < 0 := by omega
  clear T
  by_cases c0 : D > 31536000000000000
  · have e : ((D / 31536000000000000 : Nat) : Int) = (D : Int) / 31536000000000000 := Int.natCast_ediv _ _
    have hlt : (31536000000000000 : Int) < (D : Int) := by omega
    have hdv : D / 31536000000000000 ≤ 9223372036854775807 := Nat.le_trans (Nat.div_le_self _ _) hD
    have hit := itoa_le _ hdv
    have HF := Lib.hid (fun W (T : Pow10 W) => fmtUint_walk (D / 31536000000000000) (by omega) W T)
    rw [e] at HF
    have hR : roundB D = itoaB ((D / 31536000000000000 : Nat) : Int) ++ ⟨#[121]⟩ := by unfold roundB; rw [if_pos c0]
    rw [e] at hR hit
    obtain ⟨t, ht⟩ : ∃ t, t = itoaB ((D : Int) / 31536000000000000) := ⟨_, rfl⟩
    rw [← ht] at HF hR hit
    have HR := Lib.hid hR
    clear ht hR e hdv
    go_enter Tryd.func22, Tryd.ntmps22
    go_wp2_with fail
    refine (HF.out _ T2.out).mono ?_
    rintro e w2 ⟨rfl, hb2⟩
    have HB2 : Hid (Below w.heap.size w w2) := Lib.hid (hb2)
    clear hb2
    go_wp2_with fail
    go_ret
    exact ⟨by rw [HR.out]; rfl, HB2.out⟩
  have n0 : ¬ (31536000000000000 : Int) < (D : Int) := by omega
  by_cases c1 : D > 2592000000000000
  · have e : ((D / 2592000000000000 : Nat) : Int) = (D : Int) / 2592000000000000 := Int.natCast_ediv _ _
    have hlt : (2592000000000000 : Int) < (D : Int) := by omega
    have hdv : D / 2592000000000000 ≤ 9223372036854775807 := Nat.le_trans (Nat.div_le_self _ _) hD
    have hit := itoa_le _ hdv
    have HF := Lib.hid (fun W (T : Pow10 W) => fmtUint_walk (D / 2592000000000000) (by omega) W T)
    rw [e] at HF
    have hR : roundB D = itoaB ((D / 2592000000000000 : Nat) : Int) ++ ⟨#[109, 111]⟩ := by unfold roundB; rw [if_neg c0, if_pos c1]
    rw [e] at hR hit
    obtain ⟨t, ht⟩ : ∃ t, t = itoaB ((D : Int) / 2592000000000000) := ⟨_, rfl⟩
    rw [← ht] at HF hR hit
    have HR := Lib.hid hR
    clear ht hR e hdv
    go_enter Tryd.func22, Tryd.ntmps22
    go_wp2_with fail
    refine (HF.out _ T2.out).mono ?_
    rintro e w2 ⟨rfl, hb2⟩
    have HB2 : Hid (Below w.heap.size w w2) := Lib.hid (hb2)
    clear hb2
    go_wp2_with fail
    go_ret
    exact ⟨by rw [HR.out]; rfl, HB2.out⟩
  have n1 : ¬ (2592000000000000 : Int) < (D : Int) := by omega
  by_cases c2 : D > 86400000000000
  · have e : ((D / 86400000000000 : Nat) : Int) = (D : Int) / 86400000000000 := Int.natCast_ediv _ _
    have hlt : (86400000000000 : Int) < (D : Int) := by omega
    have hdv : D / 86400000000000 ≤ 9223372036854775807 := Nat.le_trans (Nat.div_le_self _ _) hD
    have hit := itoa_le _ hdv
    have HF := Lib.hid (fun W (T : Pow10 W) => fmtUint_walk (D / 86400000000000) (by omega) W T)
    rw [e] at HF
    have hR : roundB D = itoaB ((D / 86400000000000 : Nat) : Int) ++ ⟨#[100]⟩ := by unfold roundB; rw [if_neg c0, if_neg c1, if_pos c2]
    rw [e] at hR hit
    obtain ⟨t, ht⟩ : ∃ t, t = itoaB ((D : Int) / 86400000000000) := ⟨_, rfl⟩
    rw [← ht] at HF hR hit
    have HR := Lib.hid hR
    clear ht hR e hdv
    go_enter Tryd.func22, Tryd.ntmps22
    go_wp2_with fail
    refine (HF.out _ T2.out).mono ?_
    rintro e w2 ⟨rfl, hb2⟩
    have HB2 : Hid (Below w.heap.size w w2) := Lib.hid (hb2)
    clear hb2
    go_wp2_with fail
    go_ret
    exact ⟨by rw [HR.out]; rfl, HB2.out⟩
  have n2 : ¬ (86400000000000 : Int) < (D : Int) := by omega
  by_cases c3 : D > 3600000000000
  · have e : ((D / 3600000000000 : Nat) : Int) = (D : Int) / 3600000000000 := Int.natCast_ediv _ _
    have hlt : (3600000000000 : Int) < (D : Int) := by omega
    have hdv : D / 3600000000000 ≤ 9223372036854775807 := Nat.le_trans (Nat.div_le_self _ _) hD
    have hit := itoa_le _ hdv
    have HF := Lib.hid (fun W (T : Pow10 W) => fmtUint_walk (D / 3600000000000) (by omega) W T)
    rw [e] at HF
    have hR : roundB D = itoaB ((D / 3600000000000 : Nat) : Int) ++ ⟨#[104]⟩ := by unfold roundB; rw [if_neg c0, if_neg c1, if_neg c2, if_pos c3]
    rw [e] at hR hit
    obtain ⟨t, ht⟩ : ∃ t, t = itoaB ((D : Int) / 3600000000000) := ⟨_, rfl⟩
    rw [← ht] at HF hR hit
    have HR := Lib.hid hR
    clear ht hR e hdv
    go_enter Tryd.func22, Tryd.ntmps22
    go_wp2_with fail
    refine (HF.out _ T2.out).mono ?_
    rintro e w2 ⟨rfl, hb2⟩
    have HB2 : Hid (Below w.heap.size w w2) := Lib.hid (hb2)
    clear hb2
    go_wp2_with fail
    go_ret
    exact ⟨by rw [HR.out]; rfl, HB2.out⟩
  have n3 : ¬ (3600000000000 : Int) < (D : Int) := by omega
  by_cases c4 : D > 60000000000
  · have e : ((D / 60000000000 : Nat) : Int) = (D : Int) / 60000000000 := Int.natCast_ediv _ _
    have hlt : (60000000000 : Int) < (D : Int) := by omega
    have hdv : D / 60000000000 ≤ 9223372036854775807 := Nat.le_trans (Nat.div_le_self _ _) hD
    have hit := itoa_le _ hdv
    have HF := Lib.hid (fun W (T : Pow10 W) => fmtUint_walk (D / 60000000000) (by omega) W T)
    rw [e] at HF
    have hR : roundB D = itoaB ((D / 60000000000 : Nat) : Int) ++ ⟨#[109]⟩ := by unfold roundB; rw [if_neg c0, if_neg c1, if_neg c2, if_neg c3, if_pos c4]
    rw [e] at hR hit
    obtain ⟨t, ht⟩ : ∃ t, t = itoaB ((D : Int) / 60000000000) := ⟨_, rfl⟩
    rw [← ht] at HF hR hit
    have HR := Lib.hid hR
    clear ht hR e hdv
    go_enter Tryd.func22, Tryd.ntmps22
    go_wp2_with fail
    refine (HF.out _ T2.out).mono ?_
    rintro e w2 ⟨rfl, hb2⟩
    have HB2 : Hid (Below w.heap.size w w2) := Lib.hid (hb2)
    clear hb2
    go_wp2_with fail
    go_ret
    exact ⟨by rw [HR.out]; rfl, HB2.out⟩
  have n4 : ¬ (60000000000 : Int) < (D : Int) := by omega
  by_cases c5 : D > 1000000000
  · have e : ((D / 1000000000 : Nat) : Int) = (D : Int) / 1000000000 := Int.natCast_ediv _ _
    have hlt : (1000000000 : Int) < (D : Int) := by omega
    have hdv : D / 1000000000 ≤ 9223372036854775807 := Nat.le_trans (Nat.div_le_self _ _) hD
    have hit := itoa_le _ hdv
    have HF := Lib.hid (fun W (T : Pow10 W) => fmtUint_walk (D / 1000000000) (by omega) W T)
    rw [e] at HF
    have hR : roundB D = itoaB ((D / 1000000000 : Nat) : Int) ++ ⟨#[115]⟩ := by unfold roundB; rw [if_neg c0, if_neg c1, if_neg c2, if_neg c3, if_neg c4, if_pos c5]
    rw [e] at hR hit
    obtain ⟨t, ht⟩ : ∃ t, t = itoaB ((D : Int) / 1000000000) := ⟨_, rfl⟩
    rw [← ht] at HF hR hit
    have HR := Lib.hid hR
    clear ht hR e hdv
    go_enter Tryd.func22, Tryd.ntmps22
    go_wp2_with fail
    refine (HF.out _ T2.out).mono ?_
    rintro e w2 ⟨rfl, hb2⟩
    have HB2 : Hid (Below w.heap.size w w2) := Lib.hid (hb2)
    clear hb2
    go_wp2_with fail
    go_ret
    exact ⟨by rw [HR.out]; rfl, HB2.out⟩
  have n5 : ¬ (1000000000 : Int) < (D : Int) := by omega
  have hR : roundB D = ⟨#[48, 115]⟩ := by unfold roundB; rw [if_neg c0, if_neg c1, if_neg c2, if_neg c3, if_neg c4, if_neg c5]
  have HR := Lib.hid hR
  clear hR
  go_enter Tryd.func22, Tryd.ntmps22
  go_wp2_with fail
  go_ret
  exact ⟨by rw [HR.out]; rfl, (Below.refl _ _)⟩

set_option maxHeartbeats 4000000 in
theorem roundText_walk (ps : List (List UInt8 × UInt8)) (s : ByteArray) (w : World) (T : Pow10 w) (hM : UnitM w) (hs : s.toList = txtP ps) (hok : okP ps) (hne : ps ≠ []) (htot : totP ps ≤ 9223372036854775807) (hsz : s.size ≤ 500) :
    Calls Tryd.prog 22 #[.iface 9 (.string s)] w fun e w' => e = .returned (.string (roundB (totP ps))) ∧ Below w.heap.size w w' := by
  have T2 : Hid (∀ n : Nat, Pow10 (w.drewN n)) := Lib.hid fun n => T.below ⟨rfl, rfl, rfl, Nat.le_refl _, fun _ _ => rfl⟩
  have BB : Hid (∀ {w2 : World} (n : Nat), Below w.heap.size (w.drewN n) w2 → Below w.heap.size w w2) := Lib.hid fun n h => Below.trans (b := w.drewN n) ⟨rfl, rfl, rfl, Nat.le_refl _, fun _ _ => rfl⟩ h
  have HP := Lib.hid (parse_walk ps s w hM hs hok hne htot hsz)
  have hta : ∀ w, (Instr.typeAssert (.iface 9 (.string s)) 20 9 true).run Tryd.prog w = .ok (.tuple #[.string s, .bool true]) w := fun w => by kernel_rfl
  obtain ⟨D, hDe⟩ : ∃ D, D = totP ps := ⟨_, rfl⟩
  rw [← hDe] at HP htot ⊢
  have hD := htot
  have hnn : ¬ (D : Int) < 0 := by omega
  clear T hM hs hok hne htot hsz hDe
  by_cases c0 : D > 31536000000000000
  · have e : ((D / 31536000000000000 : Nat) : Int) = (D : Int) / 31536000000000000 := Int.natCast_ediv _ _
    have hlt : (31536000000000000 : Int) < (D : Int) := by omega
    have hdv : D / 31536000000000000 ≤ 9223372036854775807 := Nat.le_trans (Nat.div_le_self _ _) hD
    have hit := itoa_le _ hdv
    have HF := Lib.hid (fun W (T : Pow10 W) => fmtUint_walk (D / 31536000000000000) (by omega) W T)
    rw [e] at HF
    have hR : roundB D = itoaB ((D / 31536000000000000 : Nat) : Int) ++ ⟨#[121]⟩ := by unfold roundB; rw [if_pos c0]
    rw [e] at hR hit
    obtain ⟨t, ht⟩ : ∃ t, t = itoaB ((D : Int) / 31536000000000000) := ⟨_, rfl⟩
    rw [← ht] at HF hR hit
    have HR := Lib.hid hR
    clear ht hR e hdv
    go_enter Tryd.func22, Tryd.ntmps22
    go_wp2_with fail
    refine (HP.out).mono ?_
    rintro e w1 ⟨rfl, ⟨nd, rfl⟩⟩
    go_wp2_with fail
    refine (HF.out _ (T2.out nd)).mono ?_
    rintro e w2 ⟨rfl, hb2⟩
    have HB2 : Hid (Below w.heap.size w w2) := Lib.hid (BB.out nd hb2)
    clear hb2
    go_wp2_with fail
    go_ret
    exact ⟨by rw [HR.out]; rfl, HB2.out⟩
  have n0 : ¬ (31536000000000000 : Int) < (D : Int) := by omega
  by_cases c1 : D > 2592000000000000
  · have e : ((D / 2592000000000000 : Nat) : Int) = (D : Int) / 2592000000000000 := Int.natCast_ediv _ _
    have hlt : (2592000000000000 : Int) < (D : Int) := by omega
    have hdv : D / 2592000000000000 ≤ 9223372036854775807 := Nat.le_trans (Nat.div_le_self _ _) hD
    have hit := itoa_le _ hdv
    have HF := Lib.hid (fun W (T : Pow10 W) => fmtUint_walk (D / 2592000000000000) (by omega) W T)
    rw [e] at HF
    have hR : roundB D = itoaB ((D / 2592000000000000 : Nat) : Int) ++ ⟨#[109, 111]⟩ := by unfold roundB; rw [if_neg c0, if_pos c1]
    rw [e] at hR hit
    obtain ⟨t, ht⟩ : ∃ t, t = itoaB ((D : Int) / 2592000000000000) := ⟨_, rfl⟩
    rw [← ht] at HF hR hit
    have HR := Lib.hid hR
    clear ht hR e hdv
    go_enter Tryd.func22, Tryd.ntmps22
    go_wp2_with fail
    refine (HP.out).mono ?_
    rintro e w1 ⟨rfl, ⟨nd, rfl⟩⟩
    go_wp2_with fail
    refine (HF.out _ (T2.out nd)).mono ?_
    rintro e w2 ⟨rfl, hb2⟩
    have HB2 : Hid (Below w.heap.size w w2) := Lib.hid (BB.out nd hb2)
    clear hb2
    go_wp2_with fail
    go_ret
    exact ⟨by rw [HR.out]; rfl, HB2.out⟩
  have n1 : ¬ (2592000000000000 : Int) < (D : Int) := by omega
  by_cases c2 : D > 86400000000000
  · have e : ((D / 86400000000000 : Nat) : Int) = (D : Int) / 86400000000000 := Int.natCast_ediv _ _
    have hlt : (86400000000000 : Int) < (D : Int) := by omega
    have hdv : D / 86400000000000 ≤ 9223372036854775807 := Nat.le_trans (Nat.div_le_self _ _) hD
    have hit := itoa_le _ hdv
    have HF := Lib.hid (fun W (T : Pow10 W) => fmtUint_walk (D / 86400000000000) (by omega) W T)
    rw [e] at HF
    have hR : roundB D = itoaB ((D / 86400000000000 : Nat) : Int) ++ ⟨#[100]⟩ := by unfold roundB; rw [if_neg c0, if_neg c1, if_pos c2]
    rw [e] at hR hit
    obtain ⟨t, ht⟩ : ∃ t, t = itoaB ((D : Int) / 86400000000000) := ⟨_, rfl⟩
    rw [← ht] at HF hR hit
    have HR := Lib.hid hR
    clear ht hR e hdv
    go_enter Tryd.func22, Tryd.ntmps22
    go_wp2_with fail
    refine (HP.out).mono ?_
    rintro e w1 ⟨rfl, ⟨nd, rfl⟩⟩
    go_wp2_with fail
    refine (HF.out _ (T2.out nd)).mono ?_
    rintro e w2 ⟨rfl, hb2⟩
    have HB2 : Hid (Below w.heap.size w w2) := Lib.hid (BB.out nd hb2)
    clear hb2
    go_wp2_with fail
    go_ret
    exact ⟨by rw [HR.out]; rfl, HB2.out⟩
  have n2 : ¬ (86400000000000 : Int) < (D : Int) := by omega
  by_cases c3 : D > 3600000000000
  · have e : ((D / 3600000000000 : Nat) : Int) = (D : Int) / 3600000000000 := Int.natCast_ediv _ _
    have hlt : (3600000000000 : Int) < (D : Int) := by omega
    have hdv : D / 3600000000000 ≤ 9223372036854775807 := Nat.le_trans (Nat.div_le_self _ _) hD
    have hit := itoa_le _ hdv
    have HF := Lib.hid (fun W (T : Pow10 W) => fmtUint_walk (D / 3600000000000) (by omega) W T)
    rw [e] at HF
    have hR : roundB D = itoaB ((D / 3600000000000 : Nat) : Int) ++ ⟨#[104]⟩ := by unfold roundB; rw [if_neg c0, if_neg c1, if_neg c2, if_pos c3]
    rw [e] at hR hit
    obtain ⟨t, ht⟩ : ∃ t, t = itoaB ((D : Int) / 3600000000000) := ⟨_, rfl⟩
    rw [← ht] at HF hR hit
    have HR := Lib.hid hR
    clear ht hR e hdv
    go_enter Tryd.func22, Tryd.ntmps22
    go_wp2_with fail
    refine (HP.out).mono ?_
    rintro e w1 ⟨rfl, ⟨nd, rfl⟩⟩
    go_wp2_with fail
    refine (HF.out _ (T2.out nd)).mono ?_
    rintro e w2 ⟨rfl, hb2⟩
    have HB2 : Hid (Below w.heap.size w w2) := Lib.hid (BB.out nd hb2)
    clear hb2
    go_wp2_with fail
    go_ret
    exact ⟨by rw [HR.out]; rfl, HB2.out⟩
  have n3 : ¬ (3600000000000 : Int) < (D : Int) := by omega
  by_cases c4 : D > 60000000000
  · have e : ((D / 60000000000 : Nat) : Int) = (D : Int) / 60000000000 := Int.natCast_ediv _ _
    have hlt : (60000000000 : Int) < (D : Int) := by omega
    have hdv : D / 60000000000 ≤ 9223372036854775807 := Nat.le_trans (Nat.div_le_self _ _) hD
    have hit := itoa_le _ hdv
    have HF := Lib.hid (fun W (T : Pow10 W) => fmtUint_walk (D / 60000000000) (by omega) W T)
    rw [e] at HF
    have hR : roundB D = itoaB ((D / 60000000000 : Nat) : Int) ++ ⟨#[109]⟩ := by unfold roundB; rw [if_neg c0, if_neg c1, if_neg c2, if_neg c3, if_pos c4]
    rw [e] at hR hit
    obtain ⟨t, ht⟩ : ∃ t, t = itoaB ((D : Int) / 60000000000) := ⟨_, rfl⟩
    rw [← ht] at HF hR hit
    have HR := Lib.hid hR
    clear ht hR e hdv
    go_enter Tryd.func22, Tryd.ntmps22
    go_wp2_with fail
    refine (HP.out).mono ?_
    rintro e w1 ⟨rfl, ⟨nd, rfl⟩⟩
    go_wp2_with fail
    refine (HF.out _ (T2.out nd)).mono ?_
    rintro e w2 ⟨rfl, hb2⟩
    have HB2 : Hid (Below w.heap.size w w2) := Lib.hid (BB.out nd hb2)
    clear hb2
    go_wp2_with fail
    go_ret
    exact ⟨by rw [HR.out]; rfl, HB2.out⟩
  have n4 : ¬ (60000000000 : Int) < (D : Int) := by omega
  by_cases c5 : D > 1000000000
  · have e : ((D / 1000000000 : Nat) : Int) = (D : Int) / 1000000000 := Int.natCast_ediv _ _
    have hlt : (1000000000 : Int) < (D : Int) := by omega
    have hdv : D / 1000000000 ≤ 9223372036854775807 := Nat.le_trans (Nat.div_le_self _ _) hD
    have hit := itoa_le _ hdv
    have HF := Lib.hid (fun W (T : Pow10 W) => fmtUint_walk (D / 1000000000) (by omega) W T)
    rw [e] at HF
    have hR : roundB D = itoaB ((D / 1000000000 : Nat) : Int) ++ ⟨#[115]⟩ := by unfold roundB; rw [if_neg c0, if_neg c1, if_neg c2, if_neg c3, if_neg c4, if_pos c5]
    rw [e] at hR hit
    obtain ⟨t, ht⟩ : ∃ t, t = itoaB ((D : Int) / 1000000000) := ⟨_, rfl⟩
    rw [← ht] at HF hR hit
    have HR := Lib.hid hR
    clear ht hR e hdv
    go_enter Tryd.func22, Tryd.ntmps22
    go_wp2_with fail
    refine (HP.out).mono ?_
    rintro e w1 ⟨rfl, ⟨nd, rfl⟩⟩
    go_wp2_with fail
    refine (HF.out _ (T2.out nd)).mono ?_
    rintro e w2 ⟨rfl, hb2⟩
    have HB2 : Hid (Below w.heap.size w w2) := Lib.hid (BB.out nd hb2)
    clear hb2
    go_wp2_with fail
    go_ret
    exact ⟨by rw [HR.out]; rfl, HB2.out⟩
  have n5 : ¬ (1000000000 : Int) < (D : Int) := by omega
  have hR : roundB D = ⟨#[48, 115]⟩ := by unfold roundB; rw [if_neg c0, if_neg c1, if_neg c2, if_neg c3, if_neg c4, if_neg c5]
  have HR := Lib.hid hR
  clear hR
  go_enter Tryd.func22, Tryd.ntmps22
  go_wp2_with fail
  refine (HP.out).mono ?_
  rintro e w1 ⟨rfl, ⟨nd, rfl⟩⟩
  go_wp2_with fail
  go_ret
  exact ⟨by rw [HR.out]; rfl, BB.out nd (Below.refl _ _)⟩

theorem doorRound_walk (x : Value) (R : ByteArray) (w : World) (h : Calls Tryd.prog 22 #[x] w fun e w' => e = .returned (.string R) ∧ Below w.heap.size w w') :
    Calls Tryd.prog 17 #[x] w fun e w' => e = .returned (.string R) ∧ Below w.heap.size w w' := by
  have HC := Lib.hid h
  clear h
  go_enter Tryd.func17, Tryd.ntmps17
  go_wp2_with fail
  refine HC.out.mono ?_
  rintro e w1 ⟨rfl, hb⟩
  have HB := Lib.hid hb
  clear hb
  go_wp2_with fail
  go_ret
  exact ⟨rfl, HB.out⟩
theorem implNano_walk (D : Nat) (hD : D ≤ 9223372036854775807) (w : World) (T : Pow10 w) :
    Calls Tryd.prog 12 #[.int .i64 (D : Int)] w fun e w' => e = .returned (.string (roundB D)) ∧ Below w.heap.size w w' := by
  have HC := Lib.hid (doorRound_walk _ _ w (roundNano_walk D hD w T))
  obtain ⟨R, hR⟩ : ∃ R, R = roundB D := ⟨_, rfl⟩
  rw [← hR] at HC ⊢
  clear T hR
  go_enter Tryd.func12, Tryd.ntmps12
  go_wp2_with fail
  refine HC.out.mono ?_
  rintro e w1 ⟨rfl, hb⟩
  have HB := Lib.hid hb
  clear hb
  go_wp2_with fail
  go_ret
  exact ⟨rfl, HB.out⟩
theorem implText_walk (ps : List (List UInt8 × UInt8)) (s : ByteArray) (w : World) (T : Pow10 w) (hM : UnitM w) (hs : s.toList = txtP ps) (hok : okP ps) (hne : ps ≠ []) (htot : totP ps ≤ 9223372036854775807) (hsz : s.size ≤ 500) :
    Calls Tryd.prog 10 #[.string s] w fun e w' => e = .returned (.string (roundB (totP ps))) ∧ Below w.heap.size w w' := by
  have HC := Lib.hid (doorRound_walk _ _ w (roundText_walk ps s w T hM hs hok hne htot hsz))
  obtain ⟨R, hR⟩ : ∃ R, R = roundB (totP ps) := ⟨_, rfl⟩
  rw [← hR] at HC ⊢
  clear T hM hs hok hne htot hsz hR
  go_enter Tryd.func10, Tryd.ntmps10
  go_wp2_with fail
  refine HC.out.mono ?_
  rintro e w1 ⟨rfl, hb⟩
  have HB := Lib.hid hb
  clear hb
  go_wp2_with fail
  go_ret
  exact ⟨rfl, HB.out⟩
end Go.Proofs.YtjhpjciemfeafaaDoor.Giv
