/- Semantic versions, plain: parts with points between, taken apart again. -/
import Derived.Test.YtmoilbhkjmhoaaaDoorSvNv
namespace Go.Proofs.YtmoilbhkjmhoaaaDoor.Sv
open Go.RowKit Go.Proofs.YtmoilbhkjmhoaaaDoor.PFnSemverOrderThree Go.Proofs.YtmoilbhkjmhoaaaDoorW.PrintWords Go.Proofs.YtmoilbhkjmhoaaaDoorW.PrintLast Go.Proofs.YtmoilbhkjmhoaaaDoor.Txt Go.Proofs.YtmoilbhkjmhoaaaDoor
set_option linter.unusedVariables false
set_option linter.unusedSimpArgs false

theorem zz_ev (s p : ByteArray) (hs : s.size ≤ 1000) (hp : p.size ≤ 1000) : Ev (fun k => semver_zzIndex.f k s p) (at_ 0 (idx p.toList s.toList)) := by
  have hl := len_eq s; have hl' := len_eq p
  have := search (fun k x => semver_zzIndex.l0 k s p x) s.toList p.toList (by omega) (by omega) (fun k x => by
    simp only [semver_zzIndex.l0, tl_extract, hl, hl']) 0 (.inl (Nat.zero_le _)) (by omega)
  simpa [semver_zzIndex.f] using this
theorem idx_no : ∀ (p : List UInt8), (∀ x ∈ p, x ≠ 46) → idx [46] p = none
  | [], _ => rfl
  | c :: r, h => by
    rw [idx_miss _ _ _ (by simp only [List.isPrefixOf, Bool.and_true, beq_iff_eq]; exact fun e => h c (by simp) e.symm), idx_no r fun x hx => h x (by simp [hx])]; rfl
theorem idx_at : ∀ (p r : List UInt8), (∀ x ∈ p, x ≠ 46) → idx [46] (p ++ 46 :: r) = some p.length
  | [], r, _ => idx_hit _ _ (by simp [List.isPrefixOf])
  | c :: q, r, h => by
    rw [List.cons_append, idx_miss _ _ _ (by simp only [List.isPrefixOf, Bool.and_true, beq_iff_eq]; exact fun e => h c (by simp) e.symm), idx_at q r fun x hx => h x (by simp [hx])]; rfl
def DOT : ByteArray := ⟨#[46]⟩
theorem tl_dot : DOT.toList = [46] := by unfold DOT; rw [Lib.toList_data]
theorem no46 {p : List UInt8} (h : p.all isPart = true) : ∀ x ∈ p, x ≠ 46 := fun x hx e => by
  have := List.all_eq_true.1 h x hx
  rw [e] at this
  exact absurd this (by decide)
theorem dsplit_ev : ∀ (ps : List (List UInt8)) (s : ByteArray) (acc : List ByteArray), ps ≠ [] → (∀ p ∈ ps, ∀ x ∈ p, x ≠ 46) → s.toList = dots ps → s.size ≤ 1000 → acc.length + ps.length ≤ 200000 →
    Ev (fun k => semver_zzSplit.l0 k s DOT acc) (acc ++ ps.map ba)
  | [], _, _, h, _, _, _, _ => absurd rfl h
  | [a], s, acc, _, hn, hs, hz, hb => by
    have hx : idx DOT.toList s.toList = none := by rw [tl_dot, hs]; exact idx_no a (hn a (by simp))
    have e : s = ba a := ext_eq (by rw [tl_ba, hs]; rfl)
    refine Ev.step (f := fun k => (semver_zzIndex.f k s DOT).bind fun t => _) (fun k => by simp only [semver_zzSplit.l0]; rfl) ?_
    refine Ev.andThen (zz_ev s DOT hz (by decide)) ?_
    rw [hx, show at_ 0 none = -1 from rfl]
    refine Ev.pos (by decide) (Ev.pos (by simp at hb; omega) ?_)
    rw [e]; exact Ev.now _
  | a :: b :: r, s, acc, _, hn, hs, hz, hb => by
    have hl := len_eq s
    have hd : s.toList = a ++ 46 :: dots (b :: r) := hs
    have hx : idx DOT.toList s.toList = some a.length := by rw [tl_dot, hd]; exact idx_at a _ (hn a (by simp))
    have hlen : s.size = a.length + ((dots (b :: r)).length + 1) := by rw [hl, hd, List.length_append, List.length_cons]
    have hds : DOT.size = 1 := rfl
    have ih := dsplit_ev (b :: r) (s.extract (a.length + 1) s.size) (acc ++ [s.extract 0 a.length]) (by simp) (fun p hp => hn p (by simp only [List.mem_cons] at hp ⊢; exact .inr hp)) (by
      rw [extract_self, hd, show a ++ 46 :: dots (b :: r) = (a ++ [46]) ++ dots (b :: r) by simp, List.drop_left' (by simp)])
      (by rw [size_extract _ _ _ (by omega) (by omega)]; omega) (by simp at hb ⊢; omega)
    have e : s.extract 0 a.length = ba a := ext_eq (by rw [tl_ba, extract_upto, hd, List.take_left' rfl])
    refine Ev.step (f := fun k => (semver_zzIndex.f k s DOT).bind fun t => _) (fun k => by simp only [semver_zzSplit.l0]; rfl) ?_
    refine Ev.andThen (zz_ev s DOT hz (by decide)) ?_
    rw [hx, show at_ 0 (some a.length) = ((a.length + 0 : Nat) : Int) from rfl, Nat.add_zero, hds, wadd _ _ (by omega), Int.toNat_natCast, Int.toNat_natCast]
    refine Ev.neg (by omega) (Ev.pos (by omega) (Ev.pos (by omega) (Ev.pos (by simp at hb; omega) (Ev.pos (by omega) (Ev.pos (by omega) ?_)))))
    have e2 : acc ++ (a :: b :: r).map ba = (acc ++ [s.extract 0 a.length]) ++ (b :: r).map ba := by rw [e]; simp
    rw [e2]
    exact ih
/-- The split of parts: the parts. -/
theorem split_dots {ps : List (List UInt8)} (h : PartsOk ps) (hz : (dots ps).length ≤ 1000) : Ev (fun k => semver_zzSplit.f k (ba (dots ps)) DOT) (ps.map ba) := by
  have hlen : ∀ qs : List (List UInt8), (∀ p ∈ qs, p ≠ []) → qs.length ≤ (dots qs).length := by
    intro qs
    induction qs with
    | nil => simp
    | cons a r ih =>
      intro hq
      have ha := List.length_pos_iff.2 (hq a (by simp))
      have := ih fun p hp => hq p (by simp [hp])
      cases r with
      | nil => simp [dots]; omega
      | cons b r => simp only [dots, List.length_append, List.length_cons] at this ⊢; omega
  have := hlen ps fun p hp => (h.2 p hp).1
  have := dsplit_ev ps (ba (dots ps)) [] h.1 (fun p hp => no46 (h.2 p hp).2) (tl_ba _) (by rw [ba_size]; exact hz) (by simp; omega)
  simpa [semver_zzSplit.f] using this
end Go.Proofs.YtmoilbhkjmhoaaaDoor.Sv
