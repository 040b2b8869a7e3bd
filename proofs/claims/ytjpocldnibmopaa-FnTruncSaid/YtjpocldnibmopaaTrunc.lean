/- Walks of sprig's trunc and of impl.Trunc: what they answer, for every text of at most 1000 bytes and every number of 64 bits. -/
import Derived.Test.YtjpocldnibmopaaCaught
namespace Go.Proofs.Ytjpocldnibmopaa.Giv
open Go.RowKit Go.Proofs.YtjpocldnibmopaaW.PrintWords Go.Proofs.Ytjpocldnibmopaa.Txt
set_option linter.unusedVariables false

def truncS (c : Int) (s : ByteArray) : ByteArray := if c < 0 ∧ 0 < (s.size : Int) + c then s.extract ((s.size : Int) + c).toNat s.size else if 0 ≤ c ∧ c < (s.size : Int) then s.extract 0 c.toNat else s
theorem trunc_in (c : Int) (s : ByteArray) (w : World) (hs : s.size ≤ 1000) (h0 : -9223372036854775808 ≤ c) (h1 : c ≤ 9223372036854775807) :
    Calls Try.prog 61 #[.int .i64 c, .string s] w fun e w' => e = .returned (.string (truncS c s)) ∧ Drawn0 w w' := by
  unfold truncS
  by_cases hc : c < 0
  · by_cases hp : 0 < (s.size : Int) + c
    · rw [if_pos ⟨hc, hp⟩]
      go_enter Try.func61, Try.ntmps61
      go_wp2_with fail
      go_ret
      exact ⟨rfl, by repeat (first | exact Drawn0.refl _ | apply Drawn0.step)⟩
    · rw [if_neg (by omega), if_neg (by omega)]
      go_enter Try.func61, Try.ntmps61
      go_wp2_with fail
      go_ret
      exact ⟨rfl, by repeat (first | exact Drawn0.refl _ | apply Drawn0.step)⟩
  · rw [if_neg (by omega)]
    by_cases hp : c < (s.size : Int)
    · rw [if_pos (by omega)]
      go_enter Try.func61, Try.ntmps61
      go_wp2_with fail
      go_ret
      exact ⟨rfl, by repeat (first | exact Drawn0.refl _ | apply Drawn0.step)⟩
    · rw [if_neg (by omega)]
      go_enter Try.func61, Try.ntmps61
      go_wp2_with fail
      go_ret
      exact ⟨rfl, by repeat (first | exact Drawn0.refl _ | apply Drawn0.step)⟩
theorem trunc_door (c : Int) (s : ByteArray) (w : World) (hs : s.size ≤ 1000) (h0 : -9223372036854775808 ≤ c) (h1 : c ≤ 9223372036854775807) :
    Calls Try.prog 44 #[.int .i64 c, .string s] w fun e w' => e = .returned (.string (truncS c s)) ∧ Drawn0 w w' := by
  have hc : ∀ w, Calls Try.prog 61 #[.int .i64 c, .string s] w fun e w' => e = .returned (.string (truncS c s)) ∧ Drawn0 w w' := fun w => trunc_in c s w hs h0 h1
  obtain ⟨r, hr⟩ : ∃ r, r = truncS c s := ⟨_, rfl⟩
  rw [← hr] at hc ⊢
  have Hc := Lib.hid hc
  clear hc hr
  go_enter Try.func44, Try.ntmps44
  go_wp2_with fail
  refine (Hc.out _).mono ?_
  rintro e w' ⟨rfl, ⟨nd, rfl⟩⟩
  go_wp2_with fail
  go_ret
  exact ⟨rfl, by repeat (first | exact Drawn0.refl _ | apply Drawn0.step)⟩
theorem trunc_closure (c : Int) (s x : ByteArray) (p0 p1 p2 : Addr) (w : World) (hs : s.size ≤ 1000) (h0 : -9223372036854775808 ≤ c) (h1 : c ≤ 9223372036854775807)
    (c0 : w.cell? p0 = some (.int .i64 c)) (c1 : w.cell? p1 = some (.string s)) (c2 : w.cell? p2 = some (.string x)) (z2 : w.frozen? p2 = false) :
    Calls Try.prog 43 #[.pointer (some p0), .pointer (some p1), .pointer (some p2)] w fun e w' => e = .returned (.tuple #[]) ∧ ∃ n, w' = (w.setCell p2 (.string (truncS c s))).drewN n := by
  have hc : ∀ w, Calls Try.prog 44 #[.int .i64 c, .string s] w fun e w' => e = .returned (.string (truncS c s)) ∧ Drawn0 w w' := fun w => trunc_door c s w hs h0 h1
  obtain ⟨r, hr⟩ : ∃ r, r = truncS c s := ⟨_, rfl⟩
  rw [← hr] at hc ⊢
  have Hc := Lib.hid hc
  clear hc hr
  go_enter Try.func43, Try.ntmps43
  go_wp2_with fail
  refine (Hc.out _).mono ?_
  rintro e w' ⟨rfl, ⟨nd, rfl⟩⟩
  go_wp2_with fail
  go_end0
  exact ⟨rfl, nd, rfl⟩
theorem Trunc_walk (c : Int) (s : ByteArray) (w : World) (hs : s.size ≤ 1000) (h0 : -9223372036854775808 ≤ c) (h1 : c ≤ 9223372036854775807) :
    Calls Try.prog 18 #[.int .i64 c, .string s] w fun e w' => e = .returned (.tuple #[.string (truncS c s), .bool true]) ∧ Below w.heap.size w w' := by
  have hmf : ∀ (fn : Fn) (first cap : Array Value) (w : World), (Instr.makeFunc fn first cap).run Try.prog w = .ok (.func fn first cap) w := fun _ _ _ _ => rfl
  obtain ⟨r, hr⟩ : ∃ r, r = truncS c s := ⟨_, rfl⟩
  have Hr := Lib.hid hr
  rw [← hr]
  clear hr
  go_enter Try.func18, Try.ntmps18
  go_wp2_with fail
  refine (caught_text 43 _ _ (w.heap.size + 1 + 1) r w.heap.size w (fun W => by kernel_rfl) (by omega) (by simp) ((((Below.refl _ _).alloc (Nat.le_refl _) _).alloc (by simp) _).alloc (by simp; omega) _) (by simp [go_sem]) (by simp [go_sem]) ?_).mono ?_
  · refine (trunc_closure c s ⟨#[]⟩ ⟨w.heap.size, 0, none⟩ ⟨w.heap.size + 1, 0, none⟩ ⟨w.heap.size + 1 + 1, 0, none⟩ _ hs h0 h1 (by simp [go_sem]) (by simp [go_sem]) (by simp [go_sem]) (by simp [go_sem])).mono ?_
    rintro e w' ⟨rfl, n, rfl⟩
    exact ⟨rfl, _, pw_below_drewN (Below.refl _ _) n, by rw [Hr.out]; rfl⟩
  · rintro e W2 ⟨rfl, k2, z2, b2⟩
    have B2 := Lib.hid b2
    clear b2
    go_wp2_with fail
    have k3 : (W2.setCell ⟨w.heap.size + 1 + 1, 0, none⟩ (.string r)).cell? ⟨w.heap.size + 1 + 1, 0, none⟩ = some (.string r) := World.cell?_setCell_same _ _ _ k2
    exact bodyPost_ret (v := .tuple #[.string r, .bool true]) (by simp [results, Try.results18, go_sem, k3]) rfl ⟨rfl, B2.out.setCell (by simp; omega) _⟩
def impl_Trunc.f (a0 : Int) (a1 : ByteArray) : Option (ByteArray × Bool) := if -9223372036854775808 ≤ a0 ∧ a0 ≤ 9223372036854775807 ∧ a1.size ≤ 1000 then some (truncS a0 a1, true) else none
theorem impl_Trunc.calls (a0 : Int) (a1 : ByteArray) (r1 : ByteArray) (r2 : Bool) (w : World) (h : impl_Trunc.f a0 a1 = some (r1, r2)) :
    Calls Try.prog 18 #[.int .i64 a0, .string a1] w fun e w' => e = .returned (.tuple #[.string r1, .bool r2]) ∧ Below w.heap.size w w' := by
  unfold impl_Trunc.f at h
  split at h
  case isFalse => exact absurd h (by simp)
  rename_i hb
  obtain ⟨rfl, rfl⟩ := Prod.mk.inj (Option.some.inj h)
  exact Trunc_walk a0 a1 w hb.2.2 hb.1 hb.2.1

end Go.Proofs.Ytjpocldnibmopaa.Giv
