/- impl.SliceText and spec.SliceText: what they answer, in the print's form. -/
import Derived.Test.YtjpocldnibmopaaDoorSlice
import Derived.Test.YtjpocldnibmopaaDoorSliceSpec
namespace Go.Proofs.YtjpocldnibmopaaDoor.Giv
open Go.RowKit Go.Proofs.YtjpocldnibmopaaDoorW.PrintWords Go.Proofs.YtjpocldnibmopaaDoor.Txt
set_option linter.unusedVariables false

/-- The text that xstrings.Slice answers; none: it panics. -/
def sliceS (s : ByteArray) (a e : Int) : Option ByteArray :=
  if a < 0 ∨ (s.size : Int) < e ∨ (0 ≤ e ∧ e < a) then none
  else if 0 < (adv s a.toNat 0).1 then none
  else if e < 0 then some (s.extract (adv s a.toNat 0).2 s.size)
  else if 0 < (adv s (e - a).toNat (adv s a.toNat 0).2).1 then none
  else some (s.extract (adv s a.toNat 0).2 (adv s (e - a).toNat (adv s a.toNat 0).2).2)
theorem slice_some (s r : ByteArray) (a e : Int) (w : World) (T : Tabs w) (hs : s.size ≤ 1000) (a0 : -9223372036854775808 ≤ a) (a1 : a ≤ 9223372036854775807) (e0 : -9223372036854775808 ≤ e) (e1 : e ≤ 9223372036854775807) (h : sliceS s a e = some r) :
    Calls Tryd.prog 19 #[.string s, .int .i64 a, .int .i64 e] w fun e w' => e = .returned (.string r) ∧ Below w.heap.size w w' := by
  unfold sliceS at h
  by_cases c1 : a < 0 ∨ (s.size : Int) < e ∨ (0 ≤ e ∧ e < a)
  · rw [if_pos c1] at h; exact absurd h (by simp)
  rw [if_neg c1] at h
  obtain ⟨n, rfl⟩ : ∃ n : Nat, a = (n : Int) := ⟨a.toNat, by omega⟩
  rw [Int.toNat_natCast] at h
  by_cases c2 : 0 < (adv s n 0).1
  · rw [if_pos c2] at h; exact absurd h (by simp)
  rw [if_neg c2] at h
  by_cases c3 : e < 0
  · rw [if_pos c3] at h
    obtain rfl := Option.some.inj h
    exact slice_tail s n e w T hs a1 e0 c3 (by omega)
  rw [if_neg c3] at h
  obtain ⟨b, rfl⟩ : ∃ b : Nat, e = ((n + b : Nat) : Int) := ⟨(e - n).toNat, by omega⟩
  have eb : (((n + b : Nat) : Int) - (n : Int)).toNat = b := by omega
  rw [eb] at h
  by_cases c4 : 0 < (adv s b (adv s n 0).2).1
  · rw [if_pos c4] at h; exact absurd h (by simp)
  rw [if_neg c4] at h
  obtain rfl := Option.some.inj h
  exact slice_mid s n b _ w T hs a1 (by omega) (by omega) rfl (by omega)
theorem slice_none (s : ByteArray) (a e : Int) (w : World) (T : Tabs w) (hs : s.size ≤ 1000) (a0 : -9223372036854775808 ≤ a) (a1 : a ≤ 9223372036854775807) (e0 : -9223372036854775808 ≤ e) (e1 : e ≤ 9223372036854775807) (h : sliceS s a e = none) :
    ∃ pv, Calls Tryd.prog 19 #[.string s, .int .i64 a, .int .i64 e] w fun e w' => e = .panicked [{ v := .iface 9 pv, recovered := false }] ∧ Below w.heap.size w w' := by
  unfold sliceS at h
  by_cases c1 : a < 0 ∨ (s.size : Int) < e ∨ (0 ≤ e ∧ e < a)
  · exact slice_bad s a e w hs a0 a1 e0 e1 c1
  rw [if_neg c1] at h
  obtain ⟨n, rfl⟩ : ∃ n : Nat, a = (n : Int) := ⟨a.toNat, by omega⟩
  rw [Int.toNat_natCast] at h
  by_cases c2 : 0 < (adv s n 0).1
  · exact slice_far s n e w T hs a1 e0 (by omega) (by omega) c2
  rw [if_neg c2] at h
  by_cases c3 : e < 0
  · rw [if_pos c3] at h; exact absurd h (by simp)
  rw [if_neg c3] at h
  obtain ⟨b, rfl⟩ : ∃ b : Nat, e = ((n + b : Nat) : Int) := ⟨(e - n).toNat, by omega⟩
  have eb : (((n + b : Nat) : Int) - (n : Int)).toNat = b := by omega
  rw [eb] at h
  by_cases c4 : 0 < (adv s b (adv s n 0).2).1
  · exact slice_far2 s n b _ w T hs a1 (by omega) (by omega) rfl c4
  · rw [if_neg c4] at h; exact absurd h (by simp)

theorem slice_closure_some (s x r : ByteArray) (a b : Int) (p0 p1 p2 p3 : Addr) (w : World) (T : Tabs w) (hs : s.size ≤ 1000) (a0 : -9223372036854775808 ≤ a) (a1 : a ≤ 9223372036854775807) (b0 : -9223372036854775808 ≤ b) (b1 : b ≤ 9223372036854775807) (h : sliceS s a b = some r) (hp3 : p3.block < w.heap.size)
    (c0 : w.cell? p0 = some (.string s)) (c1 : w.cell? p1 = some (.int .i64 a)) (c2 : w.cell? p2 = some (.int .i64 b)) (c3 : w.cell? p3 = some (.string x)) (z3 : w.frozen? p3 = false) :
    Calls Tryd.prog 18 #[.pointer (some p0), .pointer (some p1), .pointer (some p2), .pointer (some p3)] w fun e w' => e = .returned (.tuple #[]) ∧ ∃ W1, Below w.heap.size w W1 ∧ w' = W1.setCell p3 (.string r) := by
  have Hc := Lib.hid (slice_some s r a b w T hs a0 a1 b0 b1 h)
  have HP := Lib.hid hp3
  clear h T hp3
  go_enter Tryd.func18, Tryd.ntmps18
  go_wp2_with fail
  refine Hc.out.mono ?_
  rintro e w' ⟨rfl, hb⟩
  have c3' : w'.cell? p3 = some (.string x) := (hb.cell HP.out).trans c3
  have z3' : w'.frozen? p3 = false := (hb.frozen HP.out).trans z3
  have HB := Lib.hid hb
  clear hb
  go_wp2_with fail
  go_end0
  exact ⟨rfl, _, HB.out, rfl⟩
theorem slice_closure_none (s : ByteArray) (a b : Int) (p0 p1 p2 p3 : Addr) (w : World) (T : Tabs w) (hs : s.size ≤ 1000) (a0 : -9223372036854775808 ≤ a) (a1 : a ≤ 9223372036854775807) (b0 : -9223372036854775808 ≤ b) (b1 : b ≤ 9223372036854775807) (h : sliceS s a b = none)
    (c0 : w.cell? p0 = some (.string s)) (c1 : w.cell? p1 = some (.int .i64 a)) (c2 : w.cell? p2 = some (.int .i64 b)) :
    ∃ pv, Calls Tryd.prog 18 #[.pointer (some p0), .pointer (some p1), .pointer (some p2), .pointer (some p3)] w fun e w' => e = .panicked [{ v := .iface 9 pv, recovered := false }] ∧ Below w.heap.size w w' := by
  obtain ⟨pv, hc⟩ := slice_none s a b w T hs a0 a1 b0 b1 h
  refine ⟨pv, ?_⟩
  have Hc := Lib.hid hc
  clear hc h T
  go_enter Tryd.func18, Tryd.ntmps18
  go_wp2_with fail
  refine Hc.out.mono ?_
  rintro e w' ⟨rfl, hb⟩
  exact ⟨rfl, rfl, hb⟩
theorem SliceText_some (s r : ByteArray) (a b : Int) (w : World) (T : Tabs w) (hs : s.size ≤ 1000) (a0 : -9223372036854775808 ≤ a) (a1 : a ≤ 9223372036854775807) (b0 : -9223372036854775808 ≤ b) (b1 : b ≤ 9223372036854775807) (h : sliceS s a b = some r) :
    Calls Tryd.prog 10 #[.string s, .int .i64 a, .int .i64 b] w fun e w' => e = .returned (.tuple #[.string r, .bool true]) ∧ Below w.heap.size w w' := by
  have hmf : ∀ (fn : Fn) (first cap : Array Value) (w : World), (Instr.makeFunc fn first cap).run Tryd.prog w = .ok (.func fn first cap) w := fun _ _ _ _ => rfl
  have Hh := Lib.hid h
  have HT := Lib.hid T
  clear h T
  go_enter Tryd.func10, Tryd.ntmps10
  go_wp2_with fail
  refine (caught_text 18 _ _ (w.heap.size + 1 + 1 + 1) r w.heap.size w (fun W => by kernel_rfl) (by omega) (by simp) (((((Below.refl _ _).alloc (Nat.le_refl _) _).alloc (by simp) _).alloc (by simp; omega) _).alloc (by simp; omega) _) (by simp [go_sem]) (by simp [go_sem]) ?_).mono ?_
  · exact slice_closure_some s ⟨#[]⟩ r a b ⟨w.heap.size, 0, none⟩ ⟨w.heap.size + 1, 0, none⟩ ⟨w.heap.size + 1 + 1, 0, none⟩ ⟨w.heap.size + 1 + 1 + 1, 0, none⟩ _ (((((HT.out.alloc _).alloc _).alloc _).alloc _).alloc _) hs a0 a1 b0 b1 Hh.out (by simp) (by simp [go_sem]) (by simp [go_sem]) (by simp [go_sem]) (by simp [go_sem]) (by simp [go_sem])
  · rintro e W2 ⟨rfl, k2, z2, b2⟩
    have B2 := Lib.hid b2
    clear b2
    go_wp2_with fail
    have k3 : (W2.setCell ⟨w.heap.size + 1 + 1 + 1, 0, none⟩ (.string r)).cell? ⟨w.heap.size + 1 + 1 + 1, 0, none⟩ = some (.string r) := World.cell?_setCell_same _ _ _ k2
    exact bodyPost_ret (v := .tuple #[.string r, .bool true]) (by simp [results, Tryd.results10, go_sem, k3]) rfl ⟨rfl, B2.out.setCell (by simp; omega) _⟩
theorem SliceText_none (s : ByteArray) (a b : Int) (w : World) (T : Tabs w) (hs : s.size ≤ 1000) (a0 : -9223372036854775808 ≤ a) (a1 : a ≤ 9223372036854775807) (b0 : -9223372036854775808 ≤ b) (b1 : b ≤ 9223372036854775807) (h : sliceS s a b = none) :
    Calls Tryd.prog 10 #[.string s, .int .i64 a, .int .i64 b] w fun e w' => e = .returned (.tuple #[.string ⟨#[]⟩, .bool false]) ∧ Below w.heap.size w w' := by
  have hmf : ∀ (fn : Fn) (first cap : Array Value) (w : World), (Instr.makeFunc fn first cap).run Tryd.prog w = .ok (.func fn first cap) w := fun _ _ _ _ => rfl
  have Hh := Lib.hid h
  have HT := Lib.hid T
  clear h T
  go_enter Tryd.func10, Tryd.ntmps10
  go_wp2_with fail
  refine (caught_text_no 18 _ _ (w.heap.size + 1 + 1 + 1) ⟨#[]⟩ w.heap.size w 9 (fun W => by kernel_rfl) (by omega) (by simp) (((((Below.refl _ _).alloc (Nat.le_refl _) _).alloc (by simp) _).alloc (by simp; omega) _).alloc (by simp; omega) _) (by simp [go_sem]) (by simp [go_sem]) ?_).mono ?_
  · exact slice_closure_none s a b ⟨w.heap.size, 0, none⟩ ⟨w.heap.size + 1, 0, none⟩ ⟨w.heap.size + 1 + 1, 0, none⟩ ⟨w.heap.size + 1 + 1 + 1, 0, none⟩ _ (((((HT.out.alloc _).alloc _).alloc _).alloc _).alloc _) hs a0 a1 b0 b1 Hh.out (by simp [go_sem]) (by simp [go_sem]) (by simp [go_sem])
  · rintro e W2 ⟨rfl, k2, z2, b2⟩
    have B2 := Lib.hid b2
    clear b2
    go_wp2_with fail
    have k3 : (W2.setCell ⟨w.heap.size + 1 + 1 + 1, 0, none⟩ (.string ⟨#[]⟩)).cell? ⟨w.heap.size + 1 + 1 + 1, 0, none⟩ = some (.string ⟨#[]⟩) := World.cell?_setCell_same _ _ _ k2
    exact bodyPost_ret (v := .tuple #[.string ⟨#[]⟩, .bool false]) (by simp [results, Tryd.results10, go_sem, k3]) rfl ⟨rfl, B2.out.setCell (by simp; omega) _⟩

/-! ### in the print's form -/
def impl_SliceText.f (a0 : ByteArray) (a1 : Int) (a2 : Int) : Option (ByteArray × Bool) :=
  if -9223372036854775808 ≤ a1 ∧ a1 ≤ 9223372036854775807 ∧ -9223372036854775808 ≤ a2 ∧ a2 ≤ 9223372036854775807 ∧ a0.size ≤ 1000 then some ((sliceS a0 a1 a2).getD ⟨#[]⟩, (sliceS a0 a1 a2).isSome) else none
theorem impl_SliceText.calls (a0 : ByteArray) (a1 : Int) (a2 : Int) (r1 : ByteArray) (r2 : Bool) (w : World) (T : Tabs w) (h : impl_SliceText.f a0 a1 a2 = some (r1, r2)) :
    Calls Tryd.prog 10 #[.string a0, .int .i64 a1, .int .i64 a2] w fun e w' => e = .returned (.tuple #[.string r1, .bool r2]) ∧ Below w.heap.size w w' := by
  unfold impl_SliceText.f at h
  split at h
  case isFalse => exact absurd h (by simp)
  rename_i hb
  obtain ⟨rfl, rfl⟩ := Prod.mk.inj (Option.some.inj h)
  cases hx : sliceS a0 a1 a2 with
  | none => exact SliceText_none a0 a1 a2 w T hb.2.2.2.2 hb.1 hb.2.1 hb.2.2.1 hb.2.2.2.1 hx
  | some r => exact SliceText_some a0 r a1 a2 w T hb.2.2.2.2 hb.1 hb.2.1 hb.2.2.1 hb.2.2.2.1 hx
def specS (s : ByteArray) (a e : Int) : ByteArray × Bool :=
  if a < 0 ∨ (e < 0 ∧ ((runes s).length : Int) < a) ∨ (0 ≤ e ∧ (e < a ∨ ((runes s).length : Int) < e)) then (⟨#[]⟩, false)
  else if e < 0 then (runesBytes (((runes s).drop a.toNat).take ((runes s).length - a.toNat)), true)
  else (runesBytes (((runes s).drop a.toNat).take (e - a).toNat), true)
def spec_SliceText.f (a0 : ByteArray) (a1 : Int) (a2 : Int) : Option (ByteArray × Bool) := if a0.size ≤ 1000 then some (specS a0 a1 a2) else none
theorem spec_SliceText.calls (a0 : ByteArray) (a1 : Int) (a2 : Int) (r1 : ByteArray) (r2 : Bool) (w : World) (h : spec_SliceText.f a0 a1 a2 = some (r1, r2)) :
    Calls Tryd.prog 9 #[.string a0, .int .i64 a1, .int .i64 a2] w fun e w' => e = .returned (.tuple #[.string r1, .bool r2]) ∧ Below w.heap.size w w' := by
  unfold spec_SliceText.f at h
  split at h
  case isFalse => exact absurd h (by simp)
  rename_i hs
  have h := Option.some.inj h
  unfold specS at h
  split at h
  · rename_i hc
    obtain ⟨rfl, rfl⟩ := Prod.mk.inj h
    exact spec_slice_no a0 a1 a2 w hs hc
  · rename_i hc
    obtain ⟨n, rfl⟩ : ∃ n : Nat, a1 = (n : Int) := ⟨a1.toNat, by omega⟩
    rw [Int.toNat_natCast] at h
    split at h
    · rename_i he
      obtain ⟨rfl, rfl⟩ := Prod.mk.inj h
      exact spec_slice_end a0 n a2 w hs he (by omega)
    · rename_i he
      obtain ⟨rfl, rfl⟩ := Prod.mk.inj h
      obtain ⟨b, rfl⟩ : ∃ b : Nat, a2 = ((n + b : Nat) : Int) := ⟨(a2 - n).toNat, by omega⟩
      have eb : (((n + b : Nat) : Int) - (n : Int)).toNat = b := by omega
      rw [eb]
      exact spec_slice_to a0 n b w hs (by omega)

end Go.Proofs.YtjpocldnibmopaaDoor.Giv
