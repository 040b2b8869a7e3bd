/- Walks of sprig's substring and of impl.Substr: what they answer, and where they panic, for every text of at most 1000 bytes and all numbers of 64 bits. -/
import Derived.Test.YtjpocldnibmopaaCaught
namespace Go.Proofs.Ytjpocldnibmopaa.Giv
open Go.RowKit Go.Proofs.YtjpocldnibmopaaW.PrintWords Go.Proofs.Ytjpocldnibmopaa.Txt
set_option linter.unusedVariables false

theorem sub_panic1 (a b : Int) (s : ByteArray) (w : World) (hs : s.size ≤ 1000) (a0 : -9223372036854775808 ≤ a) (a1 : a ≤ 9223372036854775807) (b0 : -9223372036854775808 ≤ b) (b1 : b ≤ 9223372036854775807) (c1 : a < 0) (c2 : b < 0) :
    ∃ pv, Calls Try.prog 60 #[.int .i64 a, .int .i64 b, .string s] w fun e w' => e = .panicked [{ v := .iface 8 pv, recovered := false }] ∧ Drawn0 w w' := by
  obtain ⟨pv, n, hrun⟩ := run_bounds64 (α := Nat) w b s.size .sliceAlen
  refine ⟨pv, ?_⟩
  go_enter Try.func60, Try.ntmps60
  go_wp2_with fail
  exact ⟨rfl, rfl, ⟨n, rfl⟩⟩
theorem sub_panic1b (a b : Int) (s : ByteArray) (w : World) (hs : s.size ≤ 1000) (a0 : -9223372036854775808 ≤ a) (a1 : a ≤ 9223372036854775807) (b0 : -9223372036854775808 ≤ b) (b1 : b ≤ 9223372036854775807) (c1 : a < 0) (c2 : s.size < b) :
    ∃ pv, Calls Try.prog 60 #[.int .i64 a, .int .i64 b, .string s] w fun e w' => e = .panicked [{ v := .iface 8 pv, recovered := false }] ∧ Drawn0 w w' := by
  obtain ⟨pv, n, hrun⟩ := run_bounds64 (α := Nat) w b s.size .sliceAlen
  refine ⟨pv, ?_⟩
  go_enter Try.func60, Try.ntmps60
  go_wp2_with fail
  exact ⟨rfl, rfl, ⟨n, rfl⟩⟩
theorem sub_panic2 (a b : Int) (s : ByteArray) (w : World) (hs : s.size ≤ 1000) (a0 : -9223372036854775808 ≤ a) (a1 : a ≤ 9223372036854775807) (b0 : -9223372036854775808 ≤ b) (b1 : b ≤ 9223372036854775807) (c1 : s.size < a) (c2 : b < 0) :
    ∃ pv, Calls Try.prog 60 #[.int .i64 a, .int .i64 b, .string s] w fun e w' => e = .panicked [{ v := .iface 8 pv, recovered := false }] ∧ Drawn0 w w' := by
  obtain ⟨pv, n, hrun⟩ := run_bounds64 (α := Nat) w a s.size .sliceB
  refine ⟨pv, ?_⟩
  go_enter Try.func60, Try.ntmps60
  go_wp2_with fail
  exact ⟨rfl, rfl, ⟨n, rfl⟩⟩
theorem sub_panic2b (a b : Int) (s : ByteArray) (w : World) (hs : s.size ≤ 1000) (a0 : -9223372036854775808 ≤ a) (a1 : a ≤ 9223372036854775807) (b0 : -9223372036854775808 ≤ b) (b1 : b ≤ 9223372036854775807) (c1 : s.size < a) (c2 : s.size < b) :
    ∃ pv, Calls Try.prog 60 #[.int .i64 a, .int .i64 b, .string s] w fun e w' => e = .panicked [{ v := .iface 8 pv, recovered := false }] ∧ Drawn0 w w' := by
  obtain ⟨pv, n, hrun⟩ := run_bounds64 (α := Nat) w a s.size .sliceB
  refine ⟨pv, ?_⟩
  go_enter Try.func60, Try.ntmps60
  go_wp2_with fail
  exact ⟨rfl, rfl, ⟨n, rfl⟩⟩
theorem sub_panic3 (a b : Int) (s : ByteArray) (w : World) (hs : s.size ≤ 1000) (a0 : -9223372036854775808 ≤ a) (a1 : a ≤ 9223372036854775807) (b0 : -9223372036854775808 ≤ b) (b1 : b ≤ 9223372036854775807) (c1 : 0 ≤ a) (c2 : 0 ≤ b) (c3 : b ≤ s.size) (c4 : b < a) :
    ∃ pv, Calls Try.prog 60 #[.int .i64 a, .int .i64 b, .string s] w fun e w' => e = .panicked [{ v := .iface 8 pv, recovered := false }] ∧ Drawn0 w w' := by
  obtain ⟨pv, n, hrun⟩ := run_bounds64 (α := Nat) w a (max b 0) .sliceB
  refine ⟨pv, ?_⟩
  go_enter Try.func60, Try.ntmps60
  go_wp2_with fail
  exact ⟨rfl, rfl, ⟨n, rfl⟩⟩
theorem sub_ok1 (a b : Int) (s : ByteArray) (w : World) (hs : s.size ≤ 1000) (a0 : -9223372036854775808 ≤ a) (a1 : a ≤ 9223372036854775807) (b0 : -9223372036854775808 ≤ b) (b1 : b ≤ 9223372036854775807) (c1 : a < 0) (c2 : 0 ≤ b) (c3 : b ≤ s.size) :
    Calls Try.prog 60 #[.int .i64 a, .int .i64 b, .string s] w fun e w' => e = .returned (.string (s.extract 0 b.toNat)) ∧ Drawn0 w w' := by
  go_enter Try.func60, Try.ntmps60
  go_wp2_with fail
  go_ret
  exact ⟨rfl, by repeat (first | exact Drawn0.refl _ | apply Drawn0.step)⟩
theorem sub_ok2 (a b : Int) (s : ByteArray) (w : World) (hs : s.size ≤ 1000) (a0 : -9223372036854775808 ≤ a) (a1 : a ≤ 9223372036854775807) (b0 : -9223372036854775808 ≤ b) (b1 : b ≤ 9223372036854775807) (c1 : 0 ≤ a) (c2 : b < 0) (c3 : a ≤ s.size) :
    Calls Try.prog 60 #[.int .i64 a, .int .i64 b, .string s] w fun e w' => e = .returned (.string (s.extract a.toNat s.size)) ∧ Drawn0 w w' := by
  go_enter Try.func60, Try.ntmps60
  go_wp2_with fail
  go_ret
  exact ⟨rfl, by repeat (first | exact Drawn0.refl _ | apply Drawn0.step)⟩
theorem sub_ok2b (a b : Int) (s : ByteArray) (w : World) (hs : s.size ≤ 1000) (a0 : -9223372036854775808 ≤ a) (a1 : a ≤ 9223372036854775807) (b0 : -9223372036854775808 ≤ b) (b1 : b ≤ 9223372036854775807) (c1 : 0 ≤ a) (c2 : s.size < b) (c3 : a ≤ s.size) :
    Calls Try.prog 60 #[.int .i64 a, .int .i64 b, .string s] w fun e w' => e = .returned (.string (s.extract a.toNat s.size)) ∧ Drawn0 w w' := by
  go_enter Try.func60, Try.ntmps60
  go_wp2_with fail
  go_ret
  exact ⟨rfl, by repeat (first | exact Drawn0.refl _ | apply Drawn0.step)⟩
theorem sub_ok3 (a b : Int) (s : ByteArray) (w : World) (hs : s.size ≤ 1000) (a0 : -9223372036854775808 ≤ a) (a1 : a ≤ 9223372036854775807) (b0 : -9223372036854775808 ≤ b) (b1 : b ≤ 9223372036854775807) (c1 : 0 ≤ a) (c2 : a ≤ b) (c3 : b ≤ s.size) :
    Calls Try.prog 60 #[.int .i64 a, .int .i64 b, .string s] w fun e w' => e = .returned (.string (s.extract a.toNat b.toNat)) ∧ Drawn0 w w' := by
  go_enter Try.func60, Try.ntmps60
  go_wp2_with fail
  go_ret
  exact ⟨rfl, by repeat (first | exact Drawn0.refl _ | apply Drawn0.step)⟩

/-- The bytes that substring answers; none: it panics. -/
def subS (a b : Int) (s : ByteArray) : Option ByteArray :=
  if a < 0 then (if 0 ≤ b ∧ b ≤ s.size then some (s.extract 0 b.toNat) else none)
  else if b < 0 ∨ (s.size : Int) < b then (if a ≤ s.size then some (s.extract a.toNat s.size) else none)
  else if a ≤ b then some (s.extract a.toNat b.toNat) else none
theorem sub_some (a b : Int) (s r : ByteArray) (w : World) (hs : s.size ≤ 1000) (a0 : -9223372036854775808 ≤ a) (a1 : a ≤ 9223372036854775807) (b0 : -9223372036854775808 ≤ b) (b1 : b ≤ 9223372036854775807) (h : subS a b s = some r) :
    Calls Try.prog 60 #[.int .i64 a, .int .i64 b, .string s] w fun e w' => e = .returned (.string r) ∧ Drawn0 w w' := by
  unfold subS at h
  by_cases c1 : a < 0
  · rw [if_pos c1] at h
    split at h
    · obtain rfl := Option.some.inj h; rename_i hc; exact sub_ok1 a b s w hs a0 a1 b0 b1 c1 hc.1 hc.2
    · exact absurd h (by simp)
  · rw [if_neg c1] at h
    by_cases c2 : b < 0 ∨ (s.size : Int) < b
    · rw [if_pos c2] at h
      split at h
      · obtain rfl := Option.some.inj h; rename_i hc
        rcases c2 with c2 | c2
        · exact sub_ok2 a b s w hs a0 a1 b0 b1 (by omega) c2 hc
        · exact sub_ok2b a b s w hs a0 a1 b0 b1 (by omega) c2 hc
      · exact absurd h (by simp)
    · rw [if_neg c2] at h
      split at h
      · obtain rfl := Option.some.inj h; rename_i hc; exact sub_ok3 a b s w hs a0 a1 b0 b1 (by omega) hc (by omega)
      · exact absurd h (by simp)
theorem sub_none (a b : Int) (s : ByteArray) (w : World) (hs : s.size ≤ 1000) (a0 : -9223372036854775808 ≤ a) (a1 : a ≤ 9223372036854775807) (b0 : -9223372036854775808 ≤ b) (b1 : b ≤ 9223372036854775807) (h : subS a b s = none) :
    ∃ pv, Calls Try.prog 60 #[.int .i64 a, .int .i64 b, .string s] w fun e w' => e = .panicked [{ v := .iface 8 pv, recovered := false }] ∧ Drawn0 w w' := by
  unfold subS at h
  by_cases c1 : a < 0
  · rw [if_pos c1] at h
    split at h
    · exact absurd h (by simp)
    · rename_i hc
      by_cases c2 : b < 0
      · exact sub_panic1 a b s w hs a0 a1 b0 b1 c1 c2
      · exact sub_panic1b a b s w hs a0 a1 b0 b1 c1 (by omega)
  · rw [if_neg c1] at h
    by_cases c2 : b < 0 ∨ (s.size : Int) < b
    · rw [if_pos c2] at h
      split at h
      · exact absurd h (by simp)
      · rename_i hc
        rcases c2 with c2 | c2
        · exact sub_panic2 a b s w hs a0 a1 b0 b1 (by omega) c2
        · exact sub_panic2b a b s w hs a0 a1 b0 b1 (by omega) c2
    · rw [if_neg c2] at h
      split at h
      · exact absurd h (by simp)
      · rename_i hc; exact sub_panic3 a b s w hs a0 a1 b0 b1 (by omega) (by omega) (by omega) (by omega)
theorem door_some (a b : Int) (s r : ByteArray) (w : World) (hs : s.size ≤ 1000) (a0 : -9223372036854775808 ≤ a) (a1 : a ≤ 9223372036854775807) (b0 : -9223372036854775808 ≤ b) (b1 : b ≤ 9223372036854775807) (h : subS a b s = some r) :
    Calls Try.prog 42 #[.int .i64 a, .int .i64 b, .string s] w fun e w' => e = .returned (.string r) ∧ Drawn0 w w' := by
  have Hc := Lib.hid (fun w => sub_some a b s r w hs a0 a1 b0 b1 h)
  clear h
  go_enter Try.func42, Try.ntmps42
  go_wp2_with fail
  refine (Hc.out _).mono ?_
  rintro e w' ⟨rfl, ⟨nd, rfl⟩⟩
  go_wp2_with fail
  go_ret
  exact ⟨rfl, by repeat (first | exact Drawn0.refl _ | apply Drawn0.step)⟩
theorem door_none (a b : Int) (s : ByteArray) (w : World) (hs : s.size ≤ 1000) (a0 : -9223372036854775808 ≤ a) (a1 : a ≤ 9223372036854775807) (b0 : -9223372036854775808 ≤ b) (b1 : b ≤ 9223372036854775807) (h : subS a b s = none) :
    ∃ pv, Calls Try.prog 42 #[.int .i64 a, .int .i64 b, .string s] w fun e w' => e = .panicked [{ v := .iface 8 pv, recovered := false }] ∧ Drawn0 w w' := by
  obtain ⟨pv, hc⟩ := sub_none a b s w hs a0 a1 b0 b1 h
  refine ⟨pv, ?_⟩
  have Hc := Lib.hid hc
  clear hc h
  go_enter Try.func42, Try.ntmps42
  go_wp2_with fail
  refine Hc.out.mono ?_
  rintro e w' ⟨rfl, ⟨nd, rfl⟩⟩
  exact ⟨rfl, rfl, ⟨nd, rfl⟩⟩
theorem sub_closure_some (a b : Int) (s x r : ByteArray) (p0 p1 p2 p3 : Addr) (w : World) (hs : s.size ≤ 1000) (a0 : -9223372036854775808 ≤ a) (a1 : a ≤ 9223372036854775807) (b0 : -9223372036854775808 ≤ b) (b1 : b ≤ 9223372036854775807) (h : subS a b s = some r)
    (c0 : w.cell? p0 = some (.int .i64 a)) (c1 : w.cell? p1 = some (.int .i64 b)) (c2 : w.cell? p2 = some (.string s)) (c3 : w.cell? p3 = some (.string x)) (z3 : w.frozen? p3 = false) :
    Calls Try.prog 41 #[.pointer (some p0), .pointer (some p1), .pointer (some p2), .pointer (some p3)] w fun e w' => e = .returned (.tuple #[]) ∧ ∃ n, w' = (w.setCell p3 (.string r)).drewN n := by
  have Hc := Lib.hid (fun w => door_some a b s r w hs a0 a1 b0 b1 h)
  clear h
  go_enter Try.func41, Try.ntmps41
  go_wp2_with fail
  refine (Hc.out _).mono ?_
  rintro e w' ⟨rfl, ⟨nd, rfl⟩⟩
  go_wp2_with fail
  go_end0
  exact ⟨rfl, nd, rfl⟩
theorem sub_closure_none (a b : Int) (s : ByteArray) (p0 p1 p2 p3 : Addr) (w : World) (hs : s.size ≤ 1000) (a0 : -9223372036854775808 ≤ a) (a1 : a ≤ 9223372036854775807) (b0 : -9223372036854775808 ≤ b) (b1 : b ≤ 9223372036854775807) (h : subS a b s = none)
    (c0 : w.cell? p0 = some (.int .i64 a)) (c1 : w.cell? p1 = some (.int .i64 b)) (c2 : w.cell? p2 = some (.string s)) :
    ∃ pv, Calls Try.prog 41 #[.pointer (some p0), .pointer (some p1), .pointer (some p2), .pointer (some p3)] w fun e w' => e = .panicked [{ v := .iface 8 pv, recovered := false }] ∧ Drawn0 w w' := by
  obtain ⟨pv, hc⟩ := door_none a b s w hs a0 a1 b0 b1 h
  refine ⟨pv, ?_⟩
  have Hc := Lib.hid hc
  clear hc h
  go_enter Try.func41, Try.ntmps41
  go_wp2_with fail
  refine Hc.out.mono ?_
  rintro e w' ⟨rfl, ⟨nd, rfl⟩⟩
  exact ⟨rfl, rfl, ⟨nd, rfl⟩⟩
theorem Substr_some (a b : Int) (s r : ByteArray) (w : World) (hs : s.size ≤ 1000) (a0 : -9223372036854775808 ≤ a) (a1 : a ≤ 9223372036854775807) (b0 : -9223372036854775808 ≤ b) (b1 : b ≤ 9223372036854775807) (h : subS a b s = some r) :
    Calls Try.prog 17 #[.int .i64 a, .int .i64 b, .string s] w fun e w' => e = .returned (.tuple #[.string r, .bool true]) ∧ Below w.heap.size w w' := by
  have hmf : ∀ (fn : Fn) (first cap : Array Value) (w : World), (Instr.makeFunc fn first cap).run Try.prog w = .ok (.func fn first cap) w := fun _ _ _ _ => rfl
  have Hh := Lib.hid h
  clear h
  go_enter Try.func17, Try.ntmps17
  go_wp2_with fail
  refine (caught_text 41 _ _ (w.heap.size + 1 + 1 + 1) r w.heap.size w (fun W => by kernel_rfl) (by omega) (by simp) (((((Below.refl _ _).alloc (Nat.le_refl _) _).alloc (by simp) _).alloc (by simp; omega) _).alloc (by simp; omega) _) (by simp [go_sem]) (by simp [go_sem]) ?_).mono ?_
  · refine (sub_closure_some a b s ⟨#[]⟩ r ⟨w.heap.size, 0, none⟩ ⟨w.heap.size + 1, 0, none⟩ ⟨w.heap.size + 1 + 1, 0, none⟩ ⟨w.heap.size + 1 + 1 + 1, 0, none⟩ _ hs a0 a1 b0 b1 Hh.out (by simp [go_sem]) (by simp [go_sem]) (by simp [go_sem]) (by simp [go_sem]) (by simp [go_sem])).mono ?_
    rintro e w' ⟨rfl, n, rfl⟩
    exact ⟨rfl, _, pw_below_drewN (Below.refl _ _) n, rfl⟩
  · rintro e W2 ⟨rfl, k2, z2, b2⟩
    have B2 := Lib.hid b2
    clear b2
    go_wp2_with fail
    have k3 : (W2.setCell ⟨w.heap.size + 1 + 1 + 1, 0, none⟩ (.string r)).cell? ⟨w.heap.size + 1 + 1 + 1, 0, none⟩ = some (.string r) := World.cell?_setCell_same _ _ _ k2
    exact bodyPost_ret (v := .tuple #[.string r, .bool true]) (by simp [results, Try.results17, go_sem, k3]) rfl ⟨rfl, B2.out.setCell (by simp; omega) _⟩
theorem Substr_none (a b : Int) (s : ByteArray) (w : World) (hs : s.size ≤ 1000) (a0 : -9223372036854775808 ≤ a) (a1 : a ≤ 9223372036854775807) (b0 : -9223372036854775808 ≤ b) (b1 : b ≤ 9223372036854775807) (h : subS a b s = none) :
    Calls Try.prog 17 #[.int .i64 a, .int .i64 b, .string s] w fun e w' => e = .returned (.tuple #[.string ⟨#[]⟩, .bool false]) ∧ Below w.heap.size w w' := by
  have hmf : ∀ (fn : Fn) (first cap : Array Value) (w : World), (Instr.makeFunc fn first cap).run Try.prog w = .ok (.func fn first cap) w := fun _ _ _ _ => rfl
  have Hh := Lib.hid h
  clear h
  go_enter Try.func17, Try.ntmps17
  go_wp2_with fail
  refine (caught_text_no 41 _ _ (w.heap.size + 1 + 1 + 1) ⟨#[]⟩ w.heap.size w 8 (fun W => by kernel_rfl) (by omega) (by simp) (((((Below.refl _ _).alloc (Nat.le_refl _) _).alloc (by simp) _).alloc (by simp; omega) _).alloc (by simp; omega) _) (by simp [go_sem]) (by simp [go_sem]) ?_).mono ?_
  · obtain ⟨pv, hc⟩ := sub_closure_none a b s ⟨w.heap.size, 0, none⟩ ⟨w.heap.size + 1, 0, none⟩ ⟨w.heap.size + 1 + 1, 0, none⟩ ⟨w.heap.size + 1 + 1 + 1, 0, none⟩ ((((((w.alloc (.cells #[.int .i64 a] 3)).alloc (.cells #[.int .i64 b] 3)).alloc (.cells #[.string s] 9)).alloc (.cells #[.string ⟨#[]⟩] 9))).alloc (.cells #[.bool false] 4)) hs a0 a1 b0 b1 Hh.out (by simp [go_sem]) (by simp [go_sem]) (by simp [go_sem])
    refine ⟨pv, hc.mono ?_⟩
    rintro e w' ⟨rfl, n, rfl⟩
    exact ⟨rfl, pw_below_drewN (Below.refl _ _) n⟩
  · rintro e W2 ⟨rfl, k2, z2, b2⟩
    have B2 := Lib.hid b2
    clear b2
    go_wp2_with fail
    have k3 : (W2.setCell ⟨w.heap.size + 1 + 1 + 1, 0, none⟩ (.string ⟨#[]⟩)).cell? ⟨w.heap.size + 1 + 1 + 1, 0, none⟩ = some (.string ⟨#[]⟩) := World.cell?_setCell_same _ _ _ k2
    exact bodyPost_ret (v := .tuple #[.string ⟨#[]⟩, .bool false]) (by simp [results, Try.results17, go_sem, k3]) rfl ⟨rfl, B2.out.setCell (by simp; omega) _⟩
def impl_Substr.f (a0 : Int) (a1 : Int) (a2 : ByteArray) : Option (ByteArray × Bool) :=
  if -9223372036854775808 ≤ a0 ∧ a0 ≤ 9223372036854775807 ∧ -9223372036854775808 ≤ a1 ∧ a1 ≤ 9223372036854775807 ∧ a2.size ≤ 1000 then some ((subS a0 a1 a2).getD ⟨#[]⟩, (subS a0 a1 a2).isSome) else none
theorem impl_Substr.calls (a0 : Int) (a1 : Int) (a2 : ByteArray) (r1 : ByteArray) (r2 : Bool) (w : World) (h : impl_Substr.f a0 a1 a2 = some (r1, r2)) :
    Calls Try.prog 17 #[.int .i64 a0, .int .i64 a1, .string a2] w fun e w' => e = .returned (.tuple #[.string r1, .bool r2]) ∧ Below w.heap.size w w' := by
  unfold impl_Substr.f at h
  split at h
  case isFalse => exact absurd h (by simp)
  rename_i hb
  obtain ⟨rfl, rfl⟩ := Prod.mk.inj (Option.some.inj h)
  cases hx : subS a0 a1 a2 with
  | none => exact Substr_none a0 a1 a2 w hb.2.2.2.2 hb.1 hb.2.1 hb.2.2.1 hb.2.2.2.1 hx
  | some r => exact Substr_some a0 a1 a2 r w hb.2.2.2.2 hb.1 hb.2.1 hb.2.2.1 hb.2.2.2.1 hx

end Go.Proofs.Ytjpocldnibmopaa.Giv
