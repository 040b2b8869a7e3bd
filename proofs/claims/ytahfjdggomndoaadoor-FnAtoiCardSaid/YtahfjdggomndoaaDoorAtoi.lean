/- Walks of sprig.atoi and spec.Integer over the shelf's contracts: what they answer. -/
import Derived.Test.YtahfjdggomndoaaDoorShelf
import Derived.Test.YtahfjdggomndoaaDoorTxt
import Derived.WalkKit
import Derived.BigCall
import Derived.Lib.Hide
import Derived.Lib.AtoiErrMem
namespace Go.Proofs.YtahfjdggomndoaaDoor.Giv
open Go.RowKit Go.Proofs.YtahfjdggomndoaaDoorW.PrintWords Go.Proofs.YtahfjdggomndoaaDoor.Txt
set_option linter.unusedVariables false
set_option maxRecDepth 20000

/-- strconv.ErrSyntax holds an error. -/
def ErrV (w : World) : Prop := ∃ (tp : TypeId) (p : Value), w.var? Tryd.prog "strconv.ErrSyntax" = some #[.iface tp p]
theorem ErrV.below {w w' : World} (h : ErrV w) (hb : Below w.heap.size w w') : ErrV w' := by
  have hg : Tryd.prog.globalNamed "strconv.ErrSyntax" = some 1 := by kernel_rfl
  obtain ⟨tp, p, h⟩ := h
  refine ⟨tp, p, ?_⟩
  unfold World.var? at h ⊢
  rw [hg] at h ⊢
  simp only [Option.bind_some] at h ⊢
  have hlt : 1 < w.heap.size := by
    rcases Nat.lt_or_ge 1 w.heap.size with h' | h'
    · exact h'
    · rw [Array.getElem?_eq_none h'] at h; cases h
  rw [hb.block _ hlt]
  exact h
theorem bytesW (w w' : World) (h : w' = w ∨ ∃ t, w' = Lib.bytesWorld w 5 t) : Below w.heap.size w w' := by
  rcases h with rfl | ⟨t, rfl⟩
  · exact Below.refl _ _
  · exact Lib.bytesWorld_below _ _ _
/-- What atoi answers. -/
def atoiF (s : ByteArray) : Option Int := match Lib.atoiAll s.toList with
  | .ok v => some v
  | .range => none
  | _ => some 0
set_option maxHeartbeats 1000000 in
theorem atoi_walk (s : ByteArray) (r : Int) (w : World) (hs : s.size ≤ 140737488351232) (T : ErrV w) (h : atoiF s = some r) :
    Calls Tryd.prog 22 #[.string s] w fun e w' => e = .returned (.int .i64 r) ∧ Below w.heap.size w w' := by
  unfold atoiF at h
  rw [Lib.toList_data] at h
  have HM : Calls Tryd.prog 30 #[.string s] w fun e w' => ∃ er : Value, e = .returned (.tuple #[.int .i64 r, er]) ∧ Below w.heap.size w w' := by
    cases ha : Lib.atoiAll s.data.toList with
    | ok v =>
      rw [ha] at h
      obtain rfl := Option.some.inj h
      refine (Tryd.strconv_Atoi_ok s (by omega) v ha w).mono ?_
      rintro e w' ⟨rfl, hw⟩
      exact ⟨_, rfl, bytesW _ _ hw⟩
    | range => rw [ha] at h; cases h
    | _ =>
      rw [ha] at h
      obtain rfl := Option.some.inj h
      obtain ⟨tp, p, hv⟩ := T
      refine (Tryd.strconv_Atoi_syntax_var s (by omega) ha tp p w hv).mono ?_
      rintro e w' ⟨N, rfl, -, -, hb⟩
      exact ⟨_, rfl, hb⟩
  have HH := Lib.hid HM
  clear HM h T
  go_enter Tryd.func22, Tryd.ntmps22
  go_wp2_with fail
  refine HH.out.mono ?_
  rintro e w1 ⟨er, rfl, hb1⟩
  have HB := Lib.hid hb1
  clear hb1
  go_wp2_with fail
  go_ret
  exact ⟨rfl, HB.out⟩
def sprig_atoi.f (a0 : ByteArray) : Option (Int) := if a0.size ≤ 140737488351232 then atoiF a0 else none
theorem sprig_atoi.calls (a0 : ByteArray) (r : Int) (w : World) (T : ErrV w) (h : sprig_atoi.f a0 = some r) :
    Calls Tryd.prog 22 #[.string a0] w fun e w' => e = .returned (.int .i64 r) ∧ Below w.heap.size w w' := by
  unfold sprig_atoi.f at h
  split at h
  · exact atoi_walk a0 r w (by assumption) T h
  · exact absurd h (by simp)
/-- The number that a text says. -/
def intF (s : ByteArray) : Option Int := match Lib.parseIntB 64 s.toList with
  | .ok v => some v
  | _ => none
def spec_Integer.f (a0 : ByteArray) : Option (Int) := if a0.size ≤ 140737488351232 then intF a0 else none
set_option maxHeartbeats 1000000 in
theorem spec_Integer.calls (a0 : ByteArray) (r : Int) (w : World) (h : spec_Integer.f a0 = some r) :
    Calls Tryd.prog 11 #[.string a0] w fun e w' => e = .returned (.int .i64 r) ∧ Below w.heap.size w w' := by
  unfold spec_Integer.f at h
  split at h
  case isFalse => exact absurd h (by simp)
  rename_i hs
  unfold intF at h
  rw [Lib.toList_data] at h
  have HM : Calls Tryd.prog 17 #[.string a0, .int .i64 10, .int .i64 64] w fun e w' => ∃ er : Value, e = .returned (.tuple #[.int .i64 r, er]) ∧ Below w.heap.size w w' := by
    cases ha : Lib.parseIntB 64 a0.data.toList with
    | ok v =>
      rw [ha] at h
      obtain rfl := Option.some.inj h
      refine (Tryd.strconv_ParseInt_10_at64_ok a0 (by omega) v ha w).mono ?_
      rintro e w' ⟨rfl, hw⟩
      exact ⟨_, rfl, bytesW _ _ hw⟩
    | _ => rw [ha] at h; cases h
  have HH := Lib.hid HM
  clear HM h
  go_enter Tryd.func11, Tryd.ntmps11
  go_wp2_with fail
  refine HH.out.mono ?_
  rintro e w1 ⟨er, rfl, hb1⟩
  have HB := Lib.hid hb1
  clear hb1
  go_wp2_with fail
  go_ret
  exact ⟨rfl, HB.out⟩

end Go.Proofs.YtahfjdggomndoaaDoor.Giv
