/- Walks of sprig's repeat and of impl.Repeat, over the shelf's strings.Repeat: for a number from 0 on and a text of which so many are at most 2^47 bytes. -/
import Derived.Test.YtpkdoinofenahaaCaught
import Derived.Test.YtpkdoinofenahaaShelf
namespace Go.Proofs.Ytpkdoinofenahaa.Giv
open Go.RowKit Go.Proofs.YtpkdoinofenahaaW.PrintWords Go.Proofs.Ytpkdoinofenahaa.Txt
set_option linter.unusedVariables false

def repeatS (c : Nat) (s : ByteArray) : ByteArray := ⟨(Lib.repeatL s.data.toList c).toArray⟩
theorem repeat_in (c : Nat) (s : ByteArray) (w : World) (hc : c ≤ 1000) (hs : s.size ≤ 1000) :
    Calls Try.prog 33 #[.int .i64 (c : Int), .string s] w fun e w' => e = .returned (.string (repeatS c s)) ∧ Below w.heap.size w w' := by
  have hm : s.size * c ≤ 1000 * 1000 := Nat.mul_le_mul hs hc
  have hc : ∀ w, Calls Try.prog 39 #[.string s, .int .i64 (c : Int)] w fun e w' => e = .returned (.string (repeatS c s)) ∧ Below w.heap.size w w' := fun w => Try.strings_Repeat s c w (by omega) (by omega)
  obtain ⟨r, hr⟩ : ∃ r, r = repeatS c s := ⟨_, rfl⟩
  rw [← hr] at hc ⊢
  have Hc := Lib.hid hc
  clear hc hr hm
  go_enter Try.func33, Try.ntmps33
  go_wp2_with fail
  refine (Hc.out _).mono ?_
  rintro e w' ⟨rfl, hb⟩
  have HB := Lib.hid hb
  clear hb
  go_wp2_with fail
  go_ret
  exact ⟨rfl, HB.out⟩
theorem repeat_door (c : Nat) (s : ByteArray) (w : World) (hc : c ≤ 1000) (hs : s.size ≤ 1000) :
    Calls Try.prog 24 #[.int .i64 (c : Int), .string s] w fun e w' => e = .returned (.string (repeatS c s)) ∧ Below w.heap.size w w' := by
  have hc : ∀ w, Calls Try.prog 33 #[.int .i64 (c : Int), .string s] w fun e w' => e = .returned (.string (repeatS c s)) ∧ Below w.heap.size w w' := fun w => repeat_in c s w hc hs
  obtain ⟨r, hr⟩ : ∃ r, r = repeatS c s := ⟨_, rfl⟩
  rw [← hr] at hc ⊢
  have Hc := Lib.hid hc
  clear hc hr
  go_enter Try.func24, Try.ntmps24
  go_wp2_with fail
  refine (Hc.out _).mono ?_
  rintro e w' ⟨rfl, hb⟩
  have HB := Lib.hid hb
  clear hb
  go_wp2_with fail
  go_ret
  exact ⟨rfl, HB.out⟩
theorem repeat_closure (c : Nat) (s x : ByteArray) (p0 p1 p2 : Addr) (w : World) (hc : c ≤ 1000) (hs : s.size ≤ 1000) (hp2 : p2.block < w.heap.size)
    (c0 : w.cell? p0 = some (.int .i64 (c : Int))) (c1 : w.cell? p1 = some (.string s)) (c2 : w.cell? p2 = some (.string x)) (z2 : w.frozen? p2 = false) :
    Calls Try.prog 23 #[.pointer (some p0), .pointer (some p1), .pointer (some p2)] w fun e w' => e = .returned (.tuple #[]) ∧ ∃ W1, Below w.heap.size w W1 ∧ w' = W1.setCell p2 (.string (repeatS c s)) := by
  have hc : ∀ w, Calls Try.prog 24 #[.int .i64 (c : Int), .string s] w fun e w' => e = .returned (.string (repeatS c s)) ∧ Below w.heap.size w w' := fun w => repeat_door c s w hc hs
  obtain ⟨r, hr⟩ : ∃ r, r = repeatS c s := ⟨_, rfl⟩
  rw [← hr] at hc ⊢
  have Hc := Lib.hid hc
  have HP := Lib.hid hp2
  clear hc hr hp2
  go_enter Try.func23, Try.ntmps23
  go_wp2_with fail
  refine (Hc.out _).mono ?_
  rintro e w' ⟨rfl, hb⟩
  have c2' : w'.cell? p2 = some (.string x) := (hb.cell HP.out).trans c2
  have z2' : w'.frozen? p2 = false := (hb.frozen HP.out).trans z2
  have HB := Lib.hid hb
  clear hb
  go_wp2_with fail
  go_end0
  exact ⟨rfl, _, HB.out, rfl⟩
theorem Repeat_walk (c : Nat) (s : ByteArray) (w : World) (hc : c ≤ 1000) (hs : s.size ≤ 1000) :
    Calls Try.prog 14 #[.int .i64 (c : Int), .string s] w fun e w' => e = .returned (.tuple #[.string (repeatS c s), .bool true]) ∧ Below w.heap.size w w' := by
  have hmf : ∀ (fn : Fn) (first cap : Array Value) (w : World), (Instr.makeFunc fn first cap).run Try.prog w = .ok (.func fn first cap) w := fun _ _ _ _ => rfl
  obtain ⟨r, hr⟩ : ∃ r, r = repeatS c s := ⟨_, rfl⟩
  have Hr := Lib.hid hr
  rw [← hr]
  clear hr
  go_enter Try.func14, Try.ntmps14
  go_wp2_with fail
  refine (caught_text 23 _ _ (w.heap.size + 1 + 1) r w.heap.size w (fun W => by kernel_rfl) (by omega) (by simp) ((((Below.refl _ _).alloc (Nat.le_refl _) _).alloc (by simp) _).alloc (by simp; omega) _) (by simp [go_sem]) (by simp [go_sem]) ?_).mono ?_
  · refine (repeat_closure c s ⟨#[]⟩ ⟨w.heap.size, 0, none⟩ ⟨w.heap.size + 1, 0, none⟩ ⟨w.heap.size + 1 + 1, 0, none⟩ _ hc hs (by simp) (by simp [go_sem]) (by simp [go_sem]) (by simp [go_sem]) (by simp [go_sem])).mono ?_
    rintro e w' ⟨rfl, W1, hB, rfl⟩
    exact ⟨rfl, W1, hB, by rw [Hr.out]⟩
  · rintro e W2 ⟨rfl, k2, z2, b2⟩
    have B2 := Lib.hid b2
    clear b2
    go_wp2_with fail
    have k3 : (W2.setCell ⟨w.heap.size + 1 + 1, 0, none⟩ (.string r)).cell? ⟨w.heap.size + 1 + 1, 0, none⟩ = some (.string r) := World.cell?_setCell_same _ _ _ k2
    exact bodyPost_ret (v := .tuple #[.string r, .bool true]) (by simp [results, Try.results14, go_sem, k3]) rfl ⟨rfl, B2.out.setCell (by simp; omega) _⟩
def impl_Repeat.f (a0 : Int) (a1 : ByteArray) : Option (ByteArray × Bool) := if 0 ≤ a0 ∧ a0 ≤ 1000 ∧ a1.size ≤ 1000 then some (repeatS a0.toNat a1, true) else none
theorem impl_Repeat.calls (a0 : Int) (a1 : ByteArray) (r1 : ByteArray) (r2 : Bool) (w : World) (h : impl_Repeat.f a0 a1 = some (r1, r2)) :
    Calls Try.prog 14 #[.int .i64 a0, .string a1] w fun e w' => e = .returned (.tuple #[.string r1, .bool r2]) ∧ Below w.heap.size w w' := by
  unfold impl_Repeat.f at h
  split at h
  case isFalse => exact absurd h (by simp)
  rename_i hb
  obtain ⟨rfl, rfl⟩ := Prod.mk.inj (Option.some.inj h)
  obtain ⟨c, rfl⟩ : ∃ c : Nat, a0 = (c : Int) := ⟨a0.toNat, by omega⟩
  rw [Int.toNat_natCast]
  exact Repeat_walk c a1 w (by omega) hb.2.2

end Go.Proofs.Ytpkdoinofenahaa.Giv
