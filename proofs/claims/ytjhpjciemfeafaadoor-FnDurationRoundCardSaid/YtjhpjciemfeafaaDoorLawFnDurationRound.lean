-- Written by gprint.py (a program of this session, over the kit's print) out of Lean's own print of the program.
import Derived.Test.YtjhpjciemfeafaaDoorRows
import Derived.Test.YtjhpjciemfeafaaDoorPFnDurationRoundx1
import Derived.Test.YtjhpjciemfeafaaDoorPureFnDurationRound
import Derived.Test.YtjhpjciemfeafaaDoorTie
import Derived.Test.YtjhpjciemfeafaaDoorDurLaid
import Derived.Test.YtjhpjciemfeafaaDoorCards
import Derived.LaidMore
import Derived.Lay
import Derived.SevenTiedAt
import Derived.Stop.Joined
import Derived.WalkKit
import Derived.ProofKit
import Derived.OpenShut
import Derived.ShutString
import Derived.ChangeOld
import Derived.Below
import Derived.SizedLaws
namespace Go.Proofs.YtjhpjciemfeafaaDoor.fnDurationRound
open Go.ChangeShapes Go.WideShapes Go.ChangeAt Go.RowKit
open Go.ChangeMaps (open_string shut_string)
set_option linter.unusedVariables false
theorem own : ownKnob Tryd.prog.godebug = none := by kernel_rfl
set_option maxRecDepth 100000 in
theorem lifted (os : Os) (started : os.Started) (H : Type) (enc : TypeId × Value → H) :
    ReturnsInHanded {} Tryd.checked os 4 .any (fun w args => (Rows.fnDurationRoundSpec.pre enc Tryd.prog Tryd.f4 Rows.fnDurationRoundRow.domain false w args ∧ laidMetH Tryd.prog Rows.fnDurationRoundRow.laid w) ∧ sizedMet enc Tryd.prog Tryd.f4 (OpenSpec.ofChange Rows.fnDurationRoundSpec) false w args)
      (Rows.fnDurationRoundSpec.post enc Tryd.prog Tryd.f4 false true false false) := by
  refine returnsInHanded_of_change_and (C := Tryd.checked) (X := (fun w _ => laidMetH Tryd.prog Rows.fnDurationRoundRow.laid w)) (fun _ _ _ hh h => h.of_heap hh) own started (by kernel_rfl) Tryd.func4
    (ChangeSpec.witness_shaped (enc := enc) (C := Tryd.checked) (os := os) (X := (fun w _ => laidMetH Tryd.prog Rows.fnDurationRoundRow.laid w)) false (World.doorLaid Tryd.prog 800 os) #[.int .i64 0] 8 rfl (World.shaped_of_RefB (by kernel_rfl) (by kernel_rfl)) (by kernel_rfl) (by kernel_rfl) (by kernel_rfl) (laidMetH_of_parts3 (fuel := 8) (laidMet_of_run' 8 (by kernel_rfl) (by kernel_rfl)) (by kernel_rfl) (by kernel_rfl))) ?_
  intro W base args ds gs before hval0 hW hcnd hsz0 hL _
  have hsz : (DataW.weightsEach Tryd.prog (Tryd.f4.params.toList ++ Rows.fnDurationRoundSpec.plain.varTypes Tryd.prog) (ds ++ gs)).all (· ≤ reachBytes) = true := hsz0
  have hval : ∀ (j : Nat) t v, Tryd.f4.params[j]? = some t → args[j]? = some v → Value.okWide Tryd.prog W .any base t v := hval0
  have hW' := hW
  obtain ⟨p, q, hA0, hV, rfl, hfz, hnd⟩ := hW
  have hA : DataW.TrodAll enc Tryd.prog W 0 (fun _ => true) true Tryd.f4.params.toList args.toList ds p := hA0
  rw [Tryd.params4] at hA hval hsz
  obtain ⟨v0, vs0, d0, ds0, p0, q0, hargs, rfl, rfl, h0, r0⟩ := trodAll_cons hA
  obtain ⟨rfl, rfl, rfl⟩ := trodAll_nil r0
  obtain rfl : args = #[v0] := by cases args; simp_all
  obtain ⟨rfl, rfl⟩ := trodVars_none hV
  obtain ⟨a0, rfl, rfl, rfl, w0⟩ := open_int Tryd.underlying2 (hval 0 2 v0 rfl rfl) h0
  clear hA0 hval0 hsz0 hsz
  have hTabs : Giv.DurT W := Giv.dur_of_laid hL (fun w => MakeChecks.laidMetH_plain _ _ _ (by kernel_rfl)) (by unfold Rows.fnDurationRoundRow; simp) (by unfold Rows.fnDurationRoundRow; simp)
  refine (PFnDurationRound.laws_FnDurationRound.walk Pure.FnDurationRound a0 W hTabs w0).mono fun e W' ⟨he, bel⟩ => ?_
  subst he
  exact ⟨_, rfl, _, _, _, [], _, [], hW', trodAll_mk1 (shut_bool Tryd.underlying4 _), (trodAll_cons_mk (shut_int Tryd.underlying2 w0) trodAll_mk0), rfl, bel.frame _, fun h => by cases h⟩
theorem over : Rows.fnDurationRoundRow.holds Tryd.pinned (OpenSpec.ofChange Rows.fnDurationRoundSpec) :=
  OpenClaim.holds_of_wide 4 Tryd.f4 rfl rfl rfl rfl rfl rfl rfl ⟨rfl, rfl, rfl, rfl, rfl⟩ rfl rfl rfl rfl rfl (by kernel_rfl) Tryd.func4 (by kernel_rfl)
    (of_decide_eq_true (by kernel_rfl)) (by unfold Func.isWrapper; first | (rw [if_pos (by decide +kernel)]; kernel_rfl) | (rw [if_neg (by decide +kernel)]; exact ⟨rfl, rfl⟩))
    (fun os started H enc _ => lifted os started H enc)
theorem proved : Rows.FnDurationRoundSaid := over
#print axioms proved
end Go.Proofs.YtjhpjciemfeafaaDoor.fnDurationRound
namespace Go.Proofs.YtjhpjciemfeafaaDoor
open Go.RowKit in
/-- The tied card, under a short name, for the claim. -/
theorem fnDurationRound_holds : Rows.FnDurationRoundCardSaid :=
  Claim7.holds_tied_plain_at .later [] [.data, .data, .data, .sentinel, .mapped] true (true, "6c22c721a8229d3f5617661b37134ea1031d06c5578e766b5400baad5bd0f2a4") true fnDurationRound.proved (fun _ h => by cases h) (by kernel_rfl) (fun _ h => by cases h) fnDurationRound_row_tie rfl ⟨rfl, rfl⟩ (by kernel_rfl) rfl
    (fun f fn hf hfn => by
      obtain rfl : f = 4 := Option.some.inj ((show Tryd.prog.funcNamed "given.example/pub-budwood/laws.FnDurationRound" = some 4 by kernel_rfl).symm.trans hf) |>.symm
      obtain rfl : fn = Tryd.f4 := (Option.some.inj (Tryd.func4.symm.trans hfn)).symm
      exact ⟨by kernel_rfl, fun j t ht => by
        rw [Tryd.params4] at ht
        have hm : t ∈ [2] := by simpa using Array.mem_of_getElem? ht
        have hall : ([2].all fun u => !Tryd.prog.wantsStandIn u) = true := by kernel_rfl
        exact (show Tryd.prog.wantsStandIn t = false by simpa using List.all_eq_true.1 hall t hm)⟩)
    (by kernel_rfl)
end Go.Proofs.YtjhpjciemfeafaaDoor
