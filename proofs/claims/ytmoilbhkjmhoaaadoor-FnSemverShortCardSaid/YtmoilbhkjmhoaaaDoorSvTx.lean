/- Semantic versions: spec.TextOf. -/
import Derived.Test.YtmoilbhkjmhoaaaDoorSvNv
import Derived.Test.YtmoilbhkjmhoaaaDoorFmtU
import Derived.Test.YtmoilbhkjmhoaaaDoorNear
import Derived.Deep.RegionWith
import Derived.Laws.IdiomStrings
import Derived.Lib.LazyBuf
namespace Go.Proofs.YtmoilbhkjmhoaaaDoor.Sv
open Go.RowKit Go.Proofs.YtmoilbhkjmhoaaaDoor.Vals Go.Proofs.YtmoilbhkjmhoaaaDoorW.PrintWords Go.Proofs.YtmoilbhkjmhoaaaDoor.Txt Go.Proofs.YtmoilbhkjmhoaaaDoor.Giv Go.Proofs.YtmoilbhkjmhoaaaDoor
set_option linter.unusedVariables false
set_option linter.unusedSimpArgs false
set_option maxRecDepth 20000

/-- A number in decimal. -/
def decB (n : Nat) : ByteArray := ba (Lib.decDigits n)
theorem decB_tl (n : Nat) : (decB n).toList = Lib.decDigits n := tl_ba _
/-- One byte as a text. -/
theorem conv1 (W : World) (b : Nat) (c : Nat) (hc : c < 256) (h : W.cell? ⟨b, 0, none⟩ = some (.int .u8 (c : Int))) : (convert 66 9 (.slice (some ⟨b, 0, none⟩) 1 1)).run Tryd.prog W = .ok (.string ⟨#[UInt8.ofNat c]⟩) W := by
  have e : ((UInt8.ofNat c).toNat : Int) = (c : Int) := by rw [UInt8.toNat_ofNat']; omega
  refine run_convert_bytes_back (P := Tryd.prog) _ 66 9 5 ⟨b, 0, none⟩ 1 [UInt8.ofNat c] Tryd.underlying66 Tryd.underlying5 Tryd.underlying9 ?_
  intro j hj
  have hj0 : j = 0 := by simpa using hj
  subst hj0
  have e1 : (⟨b, 0, none⟩ : Addr).add 0 = ⟨b, 0, none⟩ := by simp [Addr.add]
  rw [e1, h]
  simp only [List.getElem_cons_zero, e]
theorem bcell {W w1 : World} (hb : Below W.heap.size W w1) : ∀ b o, b < W.heap.size → w1.cell? ⟨b, o, none⟩ = W.cell? ⟨b, o, none⟩ := fun b o h => hb.cell (p := ⟨b, o, none⟩) h
theorem decimal16_walk : ∀ (n : Nat), n < 1000000000 → ∀ w : World, Calls Tryd.prog 21 #[.int .u64 (n : Int)] w fun e w' => e = .returned (.string (decB n)) ∧ Below w.heap.size w w' := by
  intro n
  induction n using Nat.strongRecOn with
  | _ n ih =>
    intro hn w
    by_cases h : n < 10
    · have hlt : (n : Int) < 10 := by omega
      obtain ⟨s, hs⟩ : ∃ s, s = (⟨#[UInt8.ofNat (48 + n)]⟩ : ByteArray) := ⟨_, rfl⟩
      have hcv : ∀ (W : World) (b : Nat), W.cell? ⟨b, 0, none⟩ = some (.int .u8 (48 + (n : Int))) → (convert 66 9 (.slice (some ⟨b, 0, none⟩) 1 1)).run Tryd.prog W = .ok (.string s) W := fun W b hc => by rw [hs]; exact conv1 W b (48 + n) (by omega) hc
      have HS := Lib.hid hs
      clear ih hs
      go_enter Tryd.func21, Tryd.ntmps21
      go_wp2_with fail
      go_ret
      refine ⟨?_, (Below.refl _ _).alloc (Nat.le_refl _) _⟩
      have e : decB n = s := by unfold decB; rw [Lib.decDigits_one h, HS.out]; rfl
      rw [e]; rfl
    · have hge : ¬ (n : Int) < 10 := by omega
      obtain ⟨q, hq⟩ : ∃ q, q = n / 10 := ⟨_, rfl⟩
      obtain ⟨r, hr⟩ : ∃ r, r = n % 10 := ⟨_, rfl⟩
      have HI := Lib.hid (ih q (by omega) (by omega))
      have hw1 : IntKind.u64.wrap ((n : Int) / 10) = (q : Int) := by simp [IntKind.wrap, IntKind.signed, IntKind.bits]; omega
      have hw2 : IntKind.u8.wrap ((n : Int).tmod 10) = (r : Int) := by
        rw [Int.tmod_eq_emod_of_nonneg (by omega)]; simp [IntKind.wrap, IntKind.signed, IntKind.bits]; omega
      have hw3 : IntKind.u8.wrap (48 + (r : Int)) = 48 + (r : Int) := by simp [IntKind.wrap, IntKind.signed, IntKind.bits]; omega
      obtain ⟨s, hs⟩ : ∃ s, s = (⟨#[UInt8.ofNat (48 + r)]⟩ : ByteArray) := ⟨_, rfl⟩
      have hcv : ∀ (W : World) (b : Nat), W.cell? ⟨b, 0, none⟩ = some (.int .u8 (48 + (r : Int))) → (convert 66 9 (.slice (some ⟨b, 0, none⟩) 1 1)).run Tryd.prog W = .ok (.string s) W := fun W b hc => by rw [hs]; exact conv1 W b (48 + r) (by omega) hc
      have hsz : s.size = 1 := by rw [hs]; rfl
      have hql : (decB q).size ≤ 9 := by unfold decB; rw [ba_size]; exact dec_len 8 q (by omega)
      have c1 : (9223372036854775807 < (decB q).size + s.size) = False := eq_false (by omega)
      have HS := Lib.hid (And.intro hs (And.intro hq hr))
      clear ih hs hq hr hsz
      go_enter Tryd.func21, Tryd.ntmps21
      go_upto_region 3 with fail
      go_region_with (go_at_call 21; refine (HI.out _).mono ?_; rintro e wx ⟨rfl, hb⟩; have hcx := bcell hb; have HBX := Lib.hid hb)
      all_goals
        go_wp2_with fail
        go_ret
        refine ⟨?_, ?_⟩
        · have e : decB n = decB q ++ s := by
            apply ext_eq
            obtain ⟨e1, e2, e3⟩ := HS.out
            have e4 : Lib.decDigits n = Lib.decDigits (n / 10) ++ [UInt8.ofNat (48 + n % 10)] := by rw [Lib.decDigits]; simp [h]
            rw [tl_append, decB_tl, decB_tl, e4, e1, Lib.toList_data, e2, e3]
          rw [e]; rfl
        · first
            | (have h1 : Below w.heap.size w.drew wx := HBX.out; have h0 : Below w.heap.size w w.drew := ⟨rfl, rfl, rfl, Nat.le_refl _, fun _ _ => rfl⟩; exact (h0.trans h1).alloc h1.size _)
            | exact Below.trans (b := (w.alloc (.cells #[.int .u8 (48 + (r : Int))] 5)).drew) (Below.trans ((Below.refl w.heap.size w).alloc (Nat.le_refl _) _) ⟨rfl, rfl, rfl, Nat.le_refl _, fun _ _ => rfl⟩) (HBX.out.mono (by simp))
/-- Three numbers with points between. -/
def text3 (a m p : Nat) : ByteArray := decB a ++ ⟨#[46]⟩ ++ decB m ++ ⟨#[46]⟩ ++ decB p
theorem decB_size {n : Nat} (h : n < 1000000000) : (decB n).size ≤ 9 := by unfold decB; rw [ba_size]; exact dec_len 8 n (by omega)
theorem point_size : (⟨#[46]⟩ : ByteArray).size = 1 := rfl
set_option maxHeartbeats 1000000 in
theorem textOf_walk (a m p : Nat) (ha : a < 1000000000) (hm : m < 1000000000) (hp : p < 1000000000) (w : World) :
    Calls Tryd.prog 9 #[.agg #[.int .u64 (a : Int), .int .u64 (m : Int), .int .u64 (p : Int), .string ⟨#[]⟩, .string ⟨#[]⟩]] w fun e w' => e = .returned (.string (text3 a m p)) ∧ Below w.heap.size w w' := by
  obtain ⟨w1, hw1⟩ : ∃ w1, w1 = w.alloc (.cells #[.int .u64 (a : Int), .int .u64 (m : Int), .int .u64 (p : Int), .string ⟨#[]⟩, .string ⟨#[]⟩] 26) := ⟨_, rfl⟩
  have hblk : w1.heap[w.heap.size]? = some (.cells #[.int .u64 (a : Int), .int .u64 (m : Int), .int .u64 (p : Int), .string ⟨#[]⟩, .string ⟨#[]⟩] 26 (0, 0)) := by rw [hw1]; exact heap_alloc_new w _
  have hlt := blk_lt hblk
  have d0 : ∀ x : Near w1.heap.size w1, x.W.cell? ⟨w.heap.size, 0, none⟩ = some (.int .u64 (a : Int)) := fun x => x.cell hlt (by rw [blk_cell hblk]; rfl)
  have d1 : ∀ x : Near w1.heap.size w1, x.W.cell? ⟨w.heap.size, 1, none⟩ = some (.int .u64 (m : Int)) := fun x => x.cell hlt (by rw [blk_cell hblk]; rfl)
  have d2 : ∀ x : Near w1.heap.size w1, x.W.cell? ⟨w.heap.size, 2, none⟩ = some (.int .u64 (p : Int)) := fun x => x.cell hlt (by rw [blk_cell hblk]; rfl)
  have HC : ∀ n : Nat, n < 1000000000 → Hid (∀ x : Near w1.heap.size w1, Calls Tryd.prog 21 #[.int .u64 (n : Int)] x.W fun e w' => e = .returned (.string (decB n)) ∧ ∃ y : Near w1.heap.size w1, w' = y.W) := fun n hn => Lib.hid fun x =>
    (decimal16_walk n hn x.W).mono fun e w' ⟨he, hB⟩ => ⟨he, x.of hB (Nat.le_refl _)⟩
  have HA := HC a ha
  have HM := HC m hm
  have HP := HC p hp
  have za := decB_size ha
  have zm := decB_size hm
  have zp := decB_size hp
  have c1 : (9223372036854775807 < (decB a).size + 1) = False := eq_false (by omega)
  have c2 : (9223372036854775807 < (decB a).size + 1 + (decB m).size) = False := eq_false (by omega)
  have c3 : (9223372036854775807 < (decB a).size + 1 + (decB m).size + 1) = False := eq_false (by omega)
  have c4 : (9223372036854775807 < (decB a).size + 1 + (decB m).size + 1 + (decB p).size) = False := eq_false (by omega)
  have HB1 : Hid (Below w.heap.size w w1) := Lib.hid (by rw [hw1]; exact (Below.refl _ _).alloc (Nat.le_refl _) _)
  have HBLK := Lib.hid hblk
  clear HC hblk hlt za zm zp
  go_enter Tryd.func9, Tryd.ntmps9
  go_upto_region 1 with fail
  rw [← hw1]
  clear hw1
  refine wp_region_near w1.heap.size w1 (by kernel_rfl) (by kernel_rfl) (Below.refl _ _) ?_
  iterate 4 (go_big_quiet_step ((exact HA.out _)))
  iterate 4 (go_big_quiet_step ((exact HM.out _)))
  repeat (go_big_quiet_step ((exact HP.out _)))
  refine wpQuiet_nil ?_
  intro W1 hw'
  obtain ⟨x_, hx_⟩ := hw'
  have hW1 : Below w1.heap.size w1 W1 := by rw [hx_]; exact x_.h
  clear hx_
  have HB2 := Lib.hid (HB1.out.trans (hW1.mono HB1.out.size))
  have hb2 := (hW1.block _ (blk_lt HBLK.out)).trans HBLK.out
  have e3 : W1.cell? ⟨w.heap.size, 3, none⟩ = some (.string ⟨#[]⟩) := by rw [blk_cell hb2]; rfl
  have e4 : W1.cell? ⟨w.heap.size, 4, none⟩ = some (.string ⟨#[]⟩) := by rw [blk_cell hb2]; rfl
  clear hW1 hb2 d0 d1 d2
  go_wp2_with fail
  go_ret
  exact ⟨rfl, HB2.out⟩
end Go.Proofs.YtmoilbhkjmhoaaaDoor.Sv
