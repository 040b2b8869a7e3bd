/- Walks of impl.First, Last, Rest, Initial. -/
import Derived.Test.YtaclgcpfcejplaaGreatDoorValE
import Derived.Test.YtaclgcpfcejplaaGreatDoorValA
namespace Go.Proofs.YtaclgcpfcejplaaGreatDoor.Vals
open Go.RowKit Go.Proofs.YtaclgcpfcejplaaGreatDoorW.PrintWords
set_option linter.unusedVariables false
set_option maxRecDepth 20000

def V.nil : V := .mk 0 0 0 ⟨#[]⟩ [] []
theorem fine_nil : Fine V.nil := by
  unfold V.nil Fine
  exact ⟨by omega, i64_small (by omega) (by omega), by show 0 ≤ maxLen; omega, by simp, fun h => absurd h (by omega), by unfold Fines; trivial⟩
theorem norm_nil : norm V.nil = V.nil := by unfold V.nil; rw [norm_0]
theorem GoV.nil (w : World) (P : Nat → Prop) : GoV w P V.nil .nilIface := by unfold V.nil GoV; exact .inl ⟨rfl, rfl⟩
theorem GoVs.head {w : World} {P : Nat → Prop} : ∀ {l : List V} {xs : List Value}, GoVs w P l xs → GoV w P (l.headD V.nil) (xs.headD .nilIface)
  | [], xs, h => by unfold GoVs at h; subst h; exact GoV.nil w P
  | v :: l, xs, h => by unfold GoVs at h; obtain ⟨x, r, rfl, h1, _⟩ := h; exact h1
theorem GoVs.last {w : World} {P : Nat → Prop} : ∀ {l : List V} {xs : List Value}, GoVs w P l xs → GoV w P (l.getLastD V.nil) (xs.getLastD .nilIface)
  | [], xs, h => by unfold GoVs at h; subst h; exact GoV.nil w P
  | [v], xs, h => by
    unfold GoVs at h; obtain ⟨x, r, rfl, h1, h2⟩ := h
    unfold GoVs at h2; subst h2; exact h1
  | v :: u :: l, xs, h => by
    unfold GoVs at h; obtain ⟨x, r, rfl, _, h2⟩ := h
    have := GoVs.last h2
    unfold GoVs at h2; obtain ⟨y, s, rfl, _, _⟩ := h2
    simpa using this
theorem Fines.head : ∀ {l : List V}, Fines l → Fine (l.headD V.nil)
  | [], _ => fine_nil
  | v :: l, h => by unfold Fines at h; exact h.1
theorem Fines.last : ∀ {l : List V}, Fines l → Fine (l.getLastD V.nil)
  | [], _ => fine_nil
  | [v], h => by unfold Fines at h; exact h.1
  | v :: u :: r, h => by
    unfold Fines at h
    have := Fines.last (l := u :: r) h.2
    simpa using this
def PickRes (v : V) (w : World) (e : Ending) (w' : World) : Prop := ∃ kv lv, e = .returned (.tuple #[.agg #[.int .i64 (norm v).k, .int .i64 (norm v).n, .float .f64 (norm v).r, .string (norm v).t, kv, lv], .bool true]) ∧
  Hid (IsV w' (fun b => w.heap.size ≤ b) (norm v) [.int .i64 (norm v).k, .int .i64 (norm v).n, .float .f64 (norm v).r, .string (norm v).t, kv, lv]) ∧ Hid (Below w.heap.size w w')
def ListRes (l : List V) (w : World) (e : Ending) (w' : World) : Prop := ∃ A c ys, e = .returned (.tuple #[.slice A l.length c, .bool true]) ∧
  Hid (RowIs w' (fun b => w.heap.size ≤ b) 6 (.slice A l.length c) l.length ys ∧ IsVs w' (fun b => w.heap.size ≤ b) (norms l) ys) ∧ Hid (Below w.heap.size w w')

end Go.Proofs.YtaclgcpfcejplaaGreatDoor.Vals
