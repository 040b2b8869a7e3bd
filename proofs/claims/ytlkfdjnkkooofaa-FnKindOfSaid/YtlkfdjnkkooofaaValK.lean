/- Walks of impl.TypeOf and impl.KindOf and what they call: the names of a value's type and kind. -/
import Derived.Test.YtlkfdjnkkooofaaValG3
namespace Go.Proofs.Ytlkfdjnkkooofaa.Vals
open Go.RowKit Go.ChangeMaps Go.Proofs.YtlkfdjnkkooofaaW.PrintWords
set_option linter.unusedVariables false
set_option maxRecDepth 20000
def typeNames : List ByteArray := [⟨#[60, 110, 105, 108, 62]⟩, ⟨#[98, 111, 111, 108]⟩, ⟨#[105, 110, 116]⟩, ⟨#[105, 110, 116, 54, 52]⟩, ⟨#[102, 108, 111, 97, 116, 54, 52]⟩, ⟨#[115, 116, 114, 105, 110, 103]⟩, ⟨#[91, 93, 105, 110, 116, 101, 114, 102, 97, 99, 101, 32, 123, 125]⟩, ⟨#[109, 97, 112, 91, 115, 116, 114, 105, 110, 103, 93, 105, 110, 116, 101, 114, 102, 97, 99, 101, 32, 123, 125]⟩]
def kindNames : List ByteArray := [⟨#[105, 110, 118, 97, 108, 105, 100]⟩, ⟨#[98, 111, 111, 108]⟩, ⟨#[105, 110, 116]⟩, ⟨#[105, 110, 116, 54, 52]⟩, ⟨#[102, 108, 111, 97, 116, 54, 52]⟩, ⟨#[115, 116, 114, 105, 110, 103]⟩, ⟨#[115, 108, 105, 99, 101]⟩, ⟨#[109, 97, 112]⟩]
theorem zzType_walk (v : V) (x : Value) (P : Nat → Prop) (w : World) (h : GoV w P v x) :
    Calls Try.prog 92 #[x] w fun e w' => e = .returned (.string (typeNames.getD v.k.toNat ⟨#[]⟩)) ∧ w' = w := by
  obtain ⟨k, n, r, t, ks, l⟩ := v
  unfold GoV at h
  rcases h with ⟨rfl, rfl⟩ | ⟨rfl, rfl⟩ | ⟨rfl, rfl⟩ | ⟨rfl, rfl⟩ | ⟨rfl, rfl⟩ | ⟨rfl, rfl⟩ | ⟨rfl, a, c, xs, rfl, _⟩ | ⟨rfl, b, es, clk, xs, rfl, _⟩
  · skip
    have ta0 : ∀ w, (Instr.typeAssert .nilIface 20 4 true).run Try.prog w = .ok (.tuple #[.bool false, .bool false]) w := fun w => by kernel_rfl
    have ta1 : ∀ w, (Instr.typeAssert .nilIface 20 3 true).run Try.prog w = .ok (.tuple #[.int .i64 0, .bool false]) w := fun w => by kernel_rfl
    have ta2 : ∀ w, (Instr.typeAssert .nilIface 20 2 true).run Try.prog w = .ok (.tuple #[.int .i64 0, .bool false]) w := fun w => by kernel_rfl
    have ta3 : ∀ w, (Instr.typeAssert .nilIface 20 22 true).run Try.prog w = .ok (.tuple #[.float .f64 0, .bool false]) w := fun w => by kernel_rfl
    have ta4 : ∀ w, (Instr.typeAssert .nilIface 20 9 true).run Try.prog w = .ok (.tuple #[.string ⟨#[]⟩, .bool false]) w := fun w => by kernel_rfl
    have ta5 : ∀ w, (Instr.typeAssert .nilIface 20 64 true).run Try.prog w = .ok (.tuple #[.slice none 0 0, .bool false]) w := fun w => by kernel_rfl
    have ta6 : ∀ w, (Instr.typeAssert .nilIface 20 23 true).run Try.prog w = .ok (.tuple #[.slice none 0 0, .bool false]) w := fun w => by kernel_rfl
    have ta7 : ∀ w, (Instr.typeAssert .nilIface 20 71 true).run Try.prog w = .ok (.tuple #[.map none, .bool false]) w := fun w => by kernel_rfl
    go_enter Try.func92, Try.ntmps92
    go_wp2_with fail
    go_ret
    exact ⟨rfl, rfl⟩
  · obtain ⟨y, hy⟩ : ∃ y : Value, y = .bool (n == 1) := ⟨_, rfl⟩
    rw [← hy]
    clear hy
    have ta0 : ∀ w, (Instr.typeAssert (.iface 4 y) 20 4 true).run Try.prog w = .ok (.tuple #[y, .bool true]) w := fun w => by kernel_rfl
    have ta1 : ∀ w, (Instr.typeAssert (.iface 4 y) 20 3 true).run Try.prog w = .ok (.tuple #[.int .i64 0, .bool false]) w := fun w => by kernel_rfl
    have ta2 : ∀ w, (Instr.typeAssert (.iface 4 y) 20 2 true).run Try.prog w = .ok (.tuple #[.int .i64 0, .bool false]) w := fun w => by kernel_rfl
    have ta3 : ∀ w, (Instr.typeAssert (.iface 4 y) 20 22 true).run Try.prog w = .ok (.tuple #[.float .f64 0, .bool false]) w := fun w => by kernel_rfl
    have ta4 : ∀ w, (Instr.typeAssert (.iface 4 y) 20 9 true).run Try.prog w = .ok (.tuple #[.string ⟨#[]⟩, .bool false]) w := fun w => by kernel_rfl
    have ta5 : ∀ w, (Instr.typeAssert (.iface 4 y) 20 64 true).run Try.prog w = .ok (.tuple #[.slice none 0 0, .bool false]) w := fun w => by kernel_rfl
    have ta6 : ∀ w, (Instr.typeAssert (.iface 4 y) 20 23 true).run Try.prog w = .ok (.tuple #[.slice none 0 0, .bool false]) w := fun w => by kernel_rfl
    have ta7 : ∀ w, (Instr.typeAssert (.iface 4 y) 20 71 true).run Try.prog w = .ok (.tuple #[.map none, .bool false]) w := fun w => by kernel_rfl
    go_enter Try.func92, Try.ntmps92
    go_wp2_with fail
    go_ret
    exact ⟨rfl, rfl⟩
  · obtain ⟨y, hy⟩ : ∃ y : Value, y = .int .i64 n := ⟨_, rfl⟩
    rw [← hy]
    clear hy
    have ta0 : ∀ w, (Instr.typeAssert (.iface 3 y) 20 4 true).run Try.prog w = .ok (.tuple #[.bool false, .bool false]) w := fun w => by kernel_rfl
    have ta1 : ∀ w, (Instr.typeAssert (.iface 3 y) 20 3 true).run Try.prog w = .ok (.tuple #[y, .bool true]) w := fun w => by kernel_rfl
    have ta2 : ∀ w, (Instr.typeAssert (.iface 3 y) 20 2 true).run Try.prog w = .ok (.tuple #[.int .i64 0, .bool false]) w := fun w => by kernel_rfl
    have ta3 : ∀ w, (Instr.typeAssert (.iface 3 y) 20 22 true).run Try.prog w = .ok (.tuple #[.float .f64 0, .bool false]) w := fun w => by kernel_rfl
    have ta4 : ∀ w, (Instr.typeAssert (.iface 3 y) 20 9 true).run Try.prog w = .ok (.tuple #[.string ⟨#[]⟩, .bool false]) w := fun w => by kernel_rfl
    have ta5 : ∀ w, (Instr.typeAssert (.iface 3 y) 20 64 true).run Try.prog w = .ok (.tuple #[.slice none 0 0, .bool false]) w := fun w => by kernel_rfl
    have ta6 : ∀ w, (Instr.typeAssert (.iface 3 y) 20 23 true).run Try.prog w = .ok (.tuple #[.slice none 0 0, .bool false]) w := fun w => by kernel_rfl
    have ta7 : ∀ w, (Instr.typeAssert (.iface 3 y) 20 71 true).run Try.prog w = .ok (.tuple #[.map none, .bool false]) w := fun w => by kernel_rfl
    go_enter Try.func92, Try.ntmps92
    go_wp2_with fail
    go_ret
    exact ⟨rfl, rfl⟩
  · obtain ⟨y, hy⟩ : ∃ y : Value, y = .int .i64 n := ⟨_, rfl⟩
    rw [← hy]
    clear hy
    have ta0 : ∀ w, (Instr.typeAssert (.iface 2 y) 20 4 true).run Try.prog w = .ok (.tuple #[.bool false, .bool false]) w := fun w => by kernel_rfl
    have ta1 : ∀ w, (Instr.typeAssert (.iface 2 y) 20 3 true).run Try.prog w = .ok (.tuple #[.int .i64 0, .bool false]) w := fun w => by kernel_rfl
    have ta2 : ∀ w, (Instr.typeAssert (.iface 2 y) 20 2 true).run Try.prog w = .ok (.tuple #[y, .bool true]) w := fun w => by kernel_rfl
    have ta3 : ∀ w, (Instr.typeAssert (.iface 2 y) 20 22 true).run Try.prog w = .ok (.tuple #[.float .f64 0, .bool false]) w := fun w => by kernel_rfl
    have ta4 : ∀ w, (Instr.typeAssert (.iface 2 y) 20 9 true).run Try.prog w = .ok (.tuple #[.string ⟨#[]⟩, .bool false]) w := fun w => by kernel_rfl
    have ta5 : ∀ w, (Instr.typeAssert (.iface 2 y) 20 64 true).run Try.prog w = .ok (.tuple #[.slice none 0 0, .bool false]) w := fun w => by kernel_rfl
    have ta6 : ∀ w, (Instr.typeAssert (.iface 2 y) 20 23 true).run Try.prog w = .ok (.tuple #[.slice none 0 0, .bool false]) w := fun w => by kernel_rfl
    have ta7 : ∀ w, (Instr.typeAssert (.iface 2 y) 20 71 true).run Try.prog w = .ok (.tuple #[.map none, .bool false]) w := fun w => by kernel_rfl
    go_enter Try.func92, Try.ntmps92
    go_wp2_with fail
    go_ret
    exact ⟨rfl, rfl⟩
  · obtain ⟨y, hy⟩ : ∃ y : Value, y = .float .f64 r := ⟨_, rfl⟩
    rw [← hy]
    clear hy
    have ta0 : ∀ w, (Instr.typeAssert (.iface 22 y) 20 4 true).run Try.prog w = .ok (.tuple #[.bool false, .bool false]) w := fun w => by kernel_rfl
    have ta1 : ∀ w, (Instr.typeAssert (.iface 22 y) 20 3 true).run Try.prog w = .ok (.tuple #[.int .i64 0, .bool false]) w := fun w => by kernel_rfl
    have ta2 : ∀ w, (Instr.typeAssert (.iface 22 y) 20 2 true).run Try.prog w = .ok (.tuple #[.int .i64 0, .bool false]) w := fun w => by kernel_rfl
    have ta3 : ∀ w, (Instr.typeAssert (.iface 22 y) 20 22 true).run Try.prog w = .ok (.tuple #[y, .bool true]) w := fun w => by kernel_rfl
    have ta4 : ∀ w, (Instr.typeAssert (.iface 22 y) 20 9 true).run Try.prog w = .ok (.tuple #[.string ⟨#[]⟩, .bool false]) w := fun w => by kernel_rfl
    have ta5 : ∀ w, (Instr.typeAssert (.iface 22 y) 20 64 true).run Try.prog w = .ok (.tuple #[.slice none 0 0, .bool false]) w := fun w => by kernel_rfl
    have ta6 : ∀ w, (Instr.typeAssert (.iface 22 y) 20 23 true).run Try.prog w = .ok (.tuple #[.slice none 0 0, .bool false]) w := fun w => by kernel_rfl
    have ta7 : ∀ w, (Instr.typeAssert (.iface 22 y) 20 71 true).run Try.prog w = .ok (.tuple #[.map none, .bool false]) w := fun w => by kernel_rfl
    go_enter Try.func92, Try.ntmps92
    go_wp2_with fail
    go_ret
    exact ⟨rfl, rfl⟩
  · obtain ⟨y, hy⟩ : ∃ y : Value, y = .string t := ⟨_, rfl⟩
    rw [← hy]
    clear hy
    have ta0 : ∀ w, (Instr.typeAssert (.iface 9 y) 20 4 true).run Try.prog w = .ok (.tuple #[.bool false, .bool false]) w := fun w => by kernel_rfl
    have ta1 : ∀ w, (Instr.typeAssert (.iface 9 y) 20 3 true).run Try.prog w = .ok (.tuple #[.int .i64 0, .bool false]) w := fun w => by kernel_rfl
    have ta2 : ∀ w, (Instr.typeAssert (.iface 9 y) 20 2 true).run Try.prog w = .ok (.tuple #[.int .i64 0, .bool false]) w := fun w => by kernel_rfl
    have ta3 : ∀ w, (Instr.typeAssert (.iface 9 y) 20 22 true).run Try.prog w = .ok (.tuple #[.float .f64 0, .bool false]) w := fun w => by kernel_rfl
    have ta4 : ∀ w, (Instr.typeAssert (.iface 9 y) 20 9 true).run Try.prog w = .ok (.tuple #[y, .bool true]) w := fun w => by kernel_rfl
    have ta5 : ∀ w, (Instr.typeAssert (.iface 9 y) 20 64 true).run Try.prog w = .ok (.tuple #[.slice none 0 0, .bool false]) w := fun w => by kernel_rfl
    have ta6 : ∀ w, (Instr.typeAssert (.iface 9 y) 20 23 true).run Try.prog w = .ok (.tuple #[.slice none 0 0, .bool false]) w := fun w => by kernel_rfl
    have ta7 : ∀ w, (Instr.typeAssert (.iface 9 y) 20 71 true).run Try.prog w = .ok (.tuple #[.map none, .bool false]) w := fun w => by kernel_rfl
    go_enter Try.func92, Try.ntmps92
    go_wp2_with fail
    go_ret
    exact ⟨rfl, rfl⟩
  · obtain ⟨y, hy⟩ : ∃ y : Value, y = .slice (some a) l.length c := ⟨_, rfl⟩
    rw [← hy]
    clear hy
    have ta0 : ∀ w, (Instr.typeAssert (.iface 64 y) 20 4 true).run Try.prog w = .ok (.tuple #[.bool false, .bool false]) w := fun w => by kernel_rfl
    have ta1 : ∀ w, (Instr.typeAssert (.iface 64 y) 20 3 true).run Try.prog w = .ok (.tuple #[.int .i64 0, .bool false]) w := fun w => by kernel_rfl
    have ta2 : ∀ w, (Instr.typeAssert (.iface 64 y) 20 2 true).run Try.prog w = .ok (.tuple #[.int .i64 0, .bool false]) w := fun w => by kernel_rfl
    have ta3 : ∀ w, (Instr.typeAssert (.iface 64 y) 20 22 true).run Try.prog w = .ok (.tuple #[.float .f64 0, .bool false]) w := fun w => by kernel_rfl
    have ta4 : ∀ w, (Instr.typeAssert (.iface 64 y) 20 9 true).run Try.prog w = .ok (.tuple #[.string ⟨#[]⟩, .bool false]) w := fun w => by kernel_rfl
    have ta5 : ∀ w, (Instr.typeAssert (.iface 64 y) 20 64 true).run Try.prog w = .ok (.tuple #[y, .bool true]) w := fun w => by kernel_rfl
    have ta6 : ∀ w, (Instr.typeAssert (.iface 64 y) 20 23 true).run Try.prog w = .ok (.tuple #[.slice none 0 0, .bool false]) w := fun w => by kernel_rfl
    have ta7 : ∀ w, (Instr.typeAssert (.iface 64 y) 20 71 true).run Try.prog w = .ok (.tuple #[.map none, .bool false]) w := fun w => by kernel_rfl
    go_enter Try.func92, Try.ntmps92
    go_wp2_with fail
    go_ret
    exact ⟨rfl, rfl⟩
  · obtain ⟨y, hy⟩ : ∃ y : Value, y = .map (some b) := ⟨_, rfl⟩
    rw [← hy]
    clear hy
    have ta0 : ∀ w, (Instr.typeAssert (.iface 71 y) 20 4 true).run Try.prog w = .ok (.tuple #[.bool false, .bool false]) w := fun w => by kernel_rfl
    have ta1 : ∀ w, (Instr.typeAssert (.iface 71 y) 20 3 true).run Try.prog w = .ok (.tuple #[.int .i64 0, .bool false]) w := fun w => by kernel_rfl
    have ta2 : ∀ w, (Instr.typeAssert (.iface 71 y) 20 2 true).run Try.prog w = .ok (.tuple #[.int .i64 0, .bool false]) w := fun w => by kernel_rfl
    have ta3 : ∀ w, (Instr.typeAssert (.iface 71 y) 20 22 true).run Try.prog w = .ok (.tuple #[.float .f64 0, .bool false]) w := fun w => by kernel_rfl
    have ta4 : ∀ w, (Instr.typeAssert (.iface 71 y) 20 9 true).run Try.prog w = .ok (.tuple #[.string ⟨#[]⟩, .bool false]) w := fun w => by kernel_rfl
    have ta5 : ∀ w, (Instr.typeAssert (.iface 71 y) 20 64 true).run Try.prog w = .ok (.tuple #[.slice none 0 0, .bool false]) w := fun w => by kernel_rfl
    have ta6 : ∀ w, (Instr.typeAssert (.iface 71 y) 20 23 true).run Try.prog w = .ok (.tuple #[.slice none 0 0, .bool false]) w := fun w => by kernel_rfl
    have ta7 : ∀ w, (Instr.typeAssert (.iface 71 y) 20 71 true).run Try.prog w = .ok (.tuple #[y, .bool true]) w := fun w => by kernel_rfl
    go_enter Try.func92, Try.ntmps92
    go_wp2_with fail
    go_ret
    exact ⟨rfl, rfl⟩
theorem zzKind_walk (v : V) (x : Value) (P : Nat → Prop) (w : World) (h : GoV w P v x) :
    Calls Try.prog 93 #[x] w fun e w' => e = .returned (.string (kindNames.getD v.k.toNat ⟨#[]⟩)) ∧ w' = w := by
  have HT : Hid (∀ w0, w0 = w → Calls Try.prog 92 #[x] w0 fun e w' => e = .returned (.string (typeNames.getD v.k.toNat ⟨#[]⟩)) ∧ w' = w0) := Lib.hid (fun w0 h0 => by rw [h0]; exact zzType_walk v x P w h)
  obtain ⟨k, n, r, t, ks, l⟩ := v
  unfold GoV at h
  rcases h with ⟨rfl, rfl⟩ | ⟨rfl, rfl⟩ | ⟨rfl, rfl⟩ | ⟨rfl, rfl⟩ | ⟨rfl, rfl⟩ | ⟨rfl, rfl⟩ | ⟨rfl, a, c, xs, rfl, _⟩ | ⟨rfl, b, es, clk, xs, rfl, _⟩
  · skip
    have ta0 : ∀ w, (Instr.typeAssert .nilIface 20 64 true).run Try.prog w = .ok (.tuple #[.slice none 0 0, .bool false]) w := fun w => by kernel_rfl
    have ta1 : ∀ w, (Instr.typeAssert .nilIface 20 23 true).run Try.prog w = .ok (.tuple #[.slice none 0 0, .bool false]) w := fun w => by kernel_rfl
    have ta2 : ∀ w, (Instr.typeAssert .nilIface 20 71 true).run Try.prog w = .ok (.tuple #[.map none, .bool false]) w := fun w => by kernel_rfl
    go_enter Try.func93, Try.ntmps93
    go_wp2_with fail
    go_ret
    exact ⟨rfl, rfl⟩
  · obtain ⟨y, hy⟩ : ∃ y : Value, y = .bool (n == 1) := ⟨_, rfl⟩
    rw [← hy] at HT ⊢
    clear hy
    have hne : ∀ w, (binOp .eql 20 (.iface 4 y) .nilIface).run Try.prog w = .ok (.bool false) w := fun w => by kernel_rfl
    have ta0 : ∀ w, (Instr.typeAssert (.iface 4 y) 20 64 true).run Try.prog w = .ok (.tuple #[.slice none 0 0, .bool false]) w := fun w => by kernel_rfl
    have ta1 : ∀ w, (Instr.typeAssert (.iface 4 y) 20 23 true).run Try.prog w = .ok (.tuple #[.slice none 0 0, .bool false]) w := fun w => by kernel_rfl
    have ta2 : ∀ w, (Instr.typeAssert (.iface 4 y) 20 71 true).run Try.prog w = .ok (.tuple #[.map none, .bool false]) w := fun w => by kernel_rfl
    go_enter Try.func93, Try.ntmps93
    go_wp2_with fail
    refine (HT.out _ rfl).mono ?_
    rintro e w' ⟨rfl, rfl⟩
    go_wp2_with fail
    go_ret
    exact ⟨rfl, rfl⟩
  · obtain ⟨y, hy⟩ : ∃ y : Value, y = .int .i64 n := ⟨_, rfl⟩
    rw [← hy] at HT ⊢
    clear hy
    have hne : ∀ w, (binOp .eql 20 (.iface 3 y) .nilIface).run Try.prog w = .ok (.bool false) w := fun w => by kernel_rfl
    have ta0 : ∀ w, (Instr.typeAssert (.iface 3 y) 20 64 true).run Try.prog w = .ok (.tuple #[.slice none 0 0, .bool false]) w := fun w => by kernel_rfl
    have ta1 : ∀ w, (Instr.typeAssert (.iface 3 y) 20 23 true).run Try.prog w = .ok (.tuple #[.slice none 0 0, .bool false]) w := fun w => by kernel_rfl
    have ta2 : ∀ w, (Instr.typeAssert (.iface 3 y) 20 71 true).run Try.prog w = .ok (.tuple #[.map none, .bool false]) w := fun w => by kernel_rfl
    go_enter Try.func93, Try.ntmps93
    go_wp2_with fail
    refine (HT.out _ rfl).mono ?_
    rintro e w' ⟨rfl, rfl⟩
    go_wp2_with fail
    go_ret
    exact ⟨rfl, rfl⟩
  · obtain ⟨y, hy⟩ : ∃ y : Value, y = .int .i64 n := ⟨_, rfl⟩
    rw [← hy] at HT ⊢
    clear hy
    have hne : ∀ w, (binOp .eql 20 (.iface 2 y) .nilIface).run Try.prog w = .ok (.bool false) w := fun w => by kernel_rfl
    have ta0 : ∀ w, (Instr.typeAssert (.iface 2 y) 20 64 true).run Try.prog w = .ok (.tuple #[.slice none 0 0, .bool false]) w := fun w => by kernel_rfl
    have ta1 : ∀ w, (Instr.typeAssert (.iface 2 y) 20 23 true).run Try.prog w = .ok (.tuple #[.slice none 0 0, .bool false]) w := fun w => by kernel_rfl
    have ta2 : ∀ w, (Instr.typeAssert (.iface 2 y) 20 71 true).run Try.prog w = .ok (.tuple #[.map none, .bool false]) w := fun w => by kernel_rfl
    go_enter Try.func93, Try.ntmps93
    go_wp2_with fail
    refine (HT.out _ rfl).mono ?_
    rintro e w' ⟨rfl, rfl⟩
    go_wp2_with fail
    go_ret
    exact ⟨rfl, rfl⟩
  · obtain ⟨y, hy⟩ : ∃ y : Value, y = .float .f64 r := ⟨_, rfl⟩
    rw [← hy] at HT ⊢
    clear hy
    have hne : ∀ w, (binOp .eql 20 (.iface 22 y) .nilIface).run Try.prog w = .ok (.bool false) w := fun w => by kernel_rfl
    have ta0 : ∀ w, (Instr.typeAssert (.iface 22 y) 20 64 true).run Try.prog w = .ok (.tuple #[.slice none 0 0, .bool false]) w := fun w => by kernel_rfl
    have ta1 : ∀ w, (Instr.typeAssert (.iface 22 y) 20 23 true).run Try.prog w = .ok (.tuple #[.slice none 0 0, .bool false]) w := fun w => by kernel_rfl
    have ta2 : ∀ w, (Instr.typeAssert (.iface 22 y) 20 71 true).run Try.prog w = .ok (.tuple #[.map none, .bool false]) w := fun w => by kernel_rfl
    go_enter Try.func93, Try.ntmps93
    go_wp2_with fail
    refine (HT.out _ rfl).mono ?_
    rintro e w' ⟨rfl, rfl⟩
    go_wp2_with fail
    go_ret
    exact ⟨rfl, rfl⟩
  · obtain ⟨y, hy⟩ : ∃ y : Value, y = .string t := ⟨_, rfl⟩
    rw [← hy] at HT ⊢
    clear hy
    have hne : ∀ w, (binOp .eql 20 (.iface 9 y) .nilIface).run Try.prog w = .ok (.bool false) w := fun w => by kernel_rfl
    have ta0 : ∀ w, (Instr.typeAssert (.iface 9 y) 20 64 true).run Try.prog w = .ok (.tuple #[.slice none 0 0, .bool false]) w := fun w => by kernel_rfl
    have ta1 : ∀ w, (Instr.typeAssert (.iface 9 y) 20 23 true).run Try.prog w = .ok (.tuple #[.slice none 0 0, .bool false]) w := fun w => by kernel_rfl
    have ta2 : ∀ w, (Instr.typeAssert (.iface 9 y) 20 71 true).run Try.prog w = .ok (.tuple #[.map none, .bool false]) w := fun w => by kernel_rfl
    go_enter Try.func93, Try.ntmps93
    go_wp2_with fail
    refine (HT.out _ rfl).mono ?_
    rintro e w' ⟨rfl, rfl⟩
    go_wp2_with fail
    go_ret
    exact ⟨rfl, rfl⟩
  · obtain ⟨y, hy⟩ : ∃ y : Value, y = .slice (some a) l.length c := ⟨_, rfl⟩
    rw [← hy] at HT ⊢
    clear hy
    have hne : ∀ w, (binOp .eql 20 (.iface 64 y) .nilIface).run Try.prog w = .ok (.bool false) w := fun w => by kernel_rfl
    have ta0 : ∀ w, (Instr.typeAssert (.iface 64 y) 20 64 true).run Try.prog w = .ok (.tuple #[y, .bool true]) w := fun w => by kernel_rfl
    have ta1 : ∀ w, (Instr.typeAssert (.iface 64 y) 20 23 true).run Try.prog w = .ok (.tuple #[.slice none 0 0, .bool false]) w := fun w => by kernel_rfl
    have ta2 : ∀ w, (Instr.typeAssert (.iface 64 y) 20 71 true).run Try.prog w = .ok (.tuple #[.map none, .bool false]) w := fun w => by kernel_rfl
    go_enter Try.func93, Try.ntmps93
    go_wp2_with fail
    go_ret
    exact ⟨rfl, rfl⟩
  · obtain ⟨y, hy⟩ : ∃ y : Value, y = .map (some b) := ⟨_, rfl⟩
    rw [← hy] at HT ⊢
    clear hy
    have hne : ∀ w, (binOp .eql 20 (.iface 71 y) .nilIface).run Try.prog w = .ok (.bool false) w := fun w => by kernel_rfl
    have ta0 : ∀ w, (Instr.typeAssert (.iface 71 y) 20 64 true).run Try.prog w = .ok (.tuple #[.slice none 0 0, .bool false]) w := fun w => by kernel_rfl
    have ta1 : ∀ w, (Instr.typeAssert (.iface 71 y) 20 23 true).run Try.prog w = .ok (.tuple #[.slice none 0 0, .bool false]) w := fun w => by kernel_rfl
    have ta2 : ∀ w, (Instr.typeAssert (.iface 71 y) 20 71 true).run Try.prog w = .ok (.tuple #[y, .bool true]) w := fun w => by kernel_rfl
    go_enter Try.func93, Try.ntmps93
    go_wp2_with fail
    go_ret
    exact ⟨rfl, rfl⟩
theorem typeOf_walk (v : V) (x : Value) (P : Nat → Prop) (w : World) (h : GoV w P v x) :
    Calls Try.prog 73 #[x] w fun e w' => e = .returned (.string (typeNames.getD v.k.toNat ⟨#[]⟩)) ∧ w' = w := by
  have HT := Lib.hid (zzType_walk v x P w h)
  clear h
  go_enter Try.func73, Try.ntmps73
  go_wp2_with fail
  refine HT.out.mono ?_
  rintro e w' ⟨rfl, rfl⟩
  go_wp2_with fail
  go_ret
  exact ⟨rfl, rfl⟩
theorem sTypeOf_walk (v : V) (x : Value) (P : Nat → Prop) (w : World) (h : GoV w P v x) :
    Calls Try.prog 46 #[x] w fun e w' => e = .returned (.string (typeNames.getD v.k.toNat ⟨#[]⟩)) ∧ w' = w := by
  have HT := Lib.hid (typeOf_walk v x P w h)
  clear h
  go_enter Try.func46, Try.ntmps46
  go_wp2_with fail
  refine HT.out.mono ?_
  rintro e w' ⟨rfl, rfl⟩
  go_wp2_with fail
  go_ret
  exact ⟨rfl, rfl⟩
theorem kindOf_walk (v : V) (x : Value) (P : Nat → Prop) (w : World) (h : GoV w P v x) :
    Calls Try.prog 74 #[x] w fun e w' => e = .returned (.string (kindNames.getD v.k.toNat ⟨#[]⟩)) ∧ w' = w := by
  have HT := Lib.hid (zzKind_walk v x P w h)
  clear h
  go_enter Try.func74, Try.ntmps74
  go_wp2_with fail
  refine HT.out.mono ?_
  rintro e w' ⟨rfl, rfl⟩
  go_wp2_with fail
  go_ret
  exact ⟨rfl, rfl⟩
theorem sKindOf_walk (v : V) (x : Value) (P : Nat → Prop) (w : World) (h : GoV w P v x) :
    Calls Try.prog 47 #[x] w fun e w' => e = .returned (.string (kindNames.getD v.k.toNat ⟨#[]⟩)) ∧ w' = w := by
  have HT := Lib.hid (kindOf_walk v x P w h)
  clear h
  go_enter Try.func47, Try.ntmps47
  go_wp2_with fail
  refine HT.out.mono ?_
  rintro e w' ⟨rfl, rfl⟩
  go_wp2_with fail
  go_ret
  exact ⟨rfl, rfl⟩
theorem iTypeOf_walk (v : V) (d : Int) (hR : Right v d) (kv lv : Value) (P : Nat → Prop) (w : World) (h : IsV w P v [.int .i64 v.k, .int .i64 v.n, .float .f64 v.r, .string v.t, kv, lv]) :
    Calls Try.prog 14 #[.agg #[.int .i64 v.k, .int .i64 v.n, .float .f64 v.r, .string v.t, kv, lv]] w fun e w' => e = .returned (.tuple #[.string (typeNames.getD v.k.toNat ⟨#[]⟩), .bool true]) ∧ Below w.heap.size w w' := by
  have HBX : Hid (∀ o, Below w.heap.size w (w.alloc o)) := Lib.hid fun o => (Below.refl _ _).alloc (Nat.le_refl _) o
  have HG := Lib.hid (fun o => goOf_walk v d hR kv lv P (w.alloc o) (IsV.keep (Kept.below (HBX.out o)) v h))
  clear h
  go_enter Try.func14, Try.ntmps14
  go_wp2_with fail
  refine (HG.out _).mono ?_
  rintro e w1 ⟨x, rfl, HX, HB⟩
  have HT := Lib.hid (sTypeOf_walk v x _ w1 HX.out)
  go_wp2_with fail
  refine HT.out.mono ?_
  rintro e w' ⟨rfl, rfl⟩
  go_wp2_with fail
  go_ret2
  exact ⟨rfl, (HBX.out _).trans (HB.out.mono (by simp))⟩
theorem iKindOf_walk (v : V) (d : Int) (hR : Right v d) (kv lv : Value) (P : Nat → Prop) (w : World) (h : IsV w P v [.int .i64 v.k, .int .i64 v.n, .float .f64 v.r, .string v.t, kv, lv]) :
    Calls Try.prog 15 #[.agg #[.int .i64 v.k, .int .i64 v.n, .float .f64 v.r, .string v.t, kv, lv]] w fun e w' => e = .returned (.tuple #[.string (kindNames.getD v.k.toNat ⟨#[]⟩), .bool true]) ∧ Below w.heap.size w w' := by
  have HBX : Hid (∀ o, Below w.heap.size w (w.alloc o)) := Lib.hid fun o => (Below.refl _ _).alloc (Nat.le_refl _) o
  have HG := Lib.hid (fun o => goOf_walk v d hR kv lv P (w.alloc o) (IsV.keep (Kept.below (HBX.out o)) v h))
  clear h
  go_enter Try.func15, Try.ntmps15
  go_wp2_with fail
  refine (HG.out _).mono ?_
  rintro e w1 ⟨x, rfl, HX, HB⟩
  have HT := Lib.hid (sKindOf_walk v x _ w1 HX.out)
  go_wp2_with fail
  refine HT.out.mono ?_
  rintro e w' ⟨rfl, rfl⟩
  go_wp2_with fail
  go_ret2
  exact ⟨rfl, (HBX.out _).trans (HB.out.mono (by simp))⟩
end Go.Proofs.Ytlkfdjnkkooofaa.Vals
