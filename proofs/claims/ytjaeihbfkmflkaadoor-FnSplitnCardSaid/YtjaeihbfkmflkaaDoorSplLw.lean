/- FnSplitn, plain: what zzSplitN makes of a count is the law's list. -/
import Derived.Test.YtjaeihbfkmflkaaDoorSplitnPl
namespace Go.Proofs.YtjaeihbfkmflkaaDoor.Pure
open Go.RowKit Go.Proofs.YtjaeihbfkmflkaaDoor.PFnSplitn Go.Proofs.YtjaeihbfkmflkaaDoorW.PrintWords Go.Proofs.YtjaeihbfkmflkaaDoorW.PrintLast Go.Proofs.YtjaeihbfkmflkaaDoor.Txt Go.Proofs.YtjaeihbfkmflkaaDoor

theorem zzneg_ev (n : Int) (hn : n < 0) (p : ByteArray) (hp : p.size ≤ 1000) (hp0 : p.toList ≠ []) : ∀ (d : Nat) (s : ByteArray) (acc : List ByteArray), s.size ≤ d → s.size ≤ 1000 → acc.length + d ≤ 200000 →
    ∃ l : List ByteArray, Ev (fun k => sprig_zzSplitN.l0 k s p n acc) l ∧ l.map ByteArray.toList = acc.map ByteArray.toList ++ splitL p.toList s.toList := by
  have hl' := len_eq p
  have hpp := List.length_pos_iff.2 hp0
  have hz : ¬ (p.size : Int) = 0 := by omega
  intro d
  induction d with
  | zero =>
    intro s acc hd hs ha
    have hl := len_eq s
    have e : s.toList = [] := List.eq_nil_of_length_eq_zero (by omega)
    have hx : idx p.toList s.toList = none := by rw [e, idx, if_neg hp0]
    refine ⟨acc ++ [s], Ev.step (f := fun k => sprig_zzSplitN.j1 k s p n acc true) (fun k => by simp only [sprig_zzSplitN.l0]; rw [if_pos hn]) (Ev.step (fun k => by simp only [sprig_zzSplitN.j1, if_true]; rw [if_neg hz]) ?_), ?_⟩
    · refine Ev.andThen (zz_ev s p hs hp) ?_
      rw [hx, show at_ 0 none = -1 from rfl]
      exact Ev.pos (by decide) (Ev.pos (by omega) (Ev.now _))
    · rw [splitL_none hp0 hx, List.map_append, List.map_singleton]
  | succ d ih =>
    intro s acc hd hs ha
    have hl := len_eq s
    cases hx : idx p.toList s.toList with
    | none =>
      refine ⟨acc ++ [s], Ev.step (f := fun k => sprig_zzSplitN.j1 k s p n acc true) (fun k => by simp only [sprig_zzSplitN.l0]; rw [if_pos hn]) (Ev.step (fun k => by simp only [sprig_zzSplitN.j1, if_true]; rw [if_neg hz]) ?_), ?_⟩
      · refine Ev.andThen (zz_ev s p hs hp) ?_
        rw [hx, show at_ 0 none = -1 from rfl]
        exact Ev.pos (by decide) (Ev.pos (by omega) (Ev.now _))
      · rw [splitL_none hp0 hx, List.map_append, List.map_singleton]
    | some j =>
      have hj := (idx_some hx).1
      have z2 := size_extract s (j + p.size) s.size (by omega) (by omega)
      obtain ⟨l, hl1, hl2⟩ := ih (s.extract (j + p.size) s.size) (acc ++ [s.extract 0 j]) (by omega) (by omega) (by simp; omega)
      refine ⟨l, Ev.step (f := fun k => sprig_zzSplitN.j1 k s p n acc true) (fun k => by simp only [sprig_zzSplitN.l0]; rw [if_pos hn]) (Ev.step (fun k => by simp only [sprig_zzSplitN.j1, if_true]; rw [if_neg hz]) ?_), ?_⟩
      · refine Ev.andThen (zz_ev s p hs hp) ?_
        rw [hx, show at_ 0 (some j) = ((j + 0 : Nat) : Int) from rfl, Nat.add_zero, wadd _ _ (by omega), Int.toNat_natCast, Int.toNat_natCast]
        exact Ev.neg (by omega) (Ev.pos (by omega) (Ev.pos (by omega) (Ev.pos (by omega) (Ev.pos (by omega) (Ev.pos (by omega) hl1)))))
      · rw [hl2, splitL_some hp0 hx, List.map_append, List.map_singleton, tl_extract, List.append_assoc, List.singleton_append, extract_self]
        congr 2
        rw [hl']
theorem joinL_join (p : List UInt8) : ∀ l : List (List UInt8), joinL p l = Lib.join l p
  | [] => by simp [joinL, Lib.join]
  | [x] => by simp [joinL, Lib.join]
  | x :: y :: l => by
    rw [joinL, joinL_join p (y :: l)]
    unfold Lib.join
    simp [List.intercalate]

theorem cut_small (p : List UInt8) (_hp : p ≠ []) : ∀ (m : Nat) (s x : List UInt8), x ∈ cutN p m s → x.length ≤ s.length := by
  intro m
  induction m with
  | zero => intro s x hx; rw [cutN, List.mem_singleton] at hx; rw [hx]; exact Nat.le_refl _
  | succ m ih =>
    intro s x hx
    rw [cutN] at hx
    cases hi : idx p s with
    | none => rw [hi] at hx; simp only [List.mem_singleton] at hx; rw [hx]; exact Nat.le_refl _
    | some j =>
      rw [hi] at hx
      simp only [List.mem_cons] at hx
      rcases hx with rfl | hx
      · rw [List.length_take]; omega
      · have := ih _ x hx
        rw [List.length_drop] at this
        omega
/-- The law's list of parts. -/
theorem parts (p s : ByteArray) (hp : p.size ≤ 500) (hs : s.size ≤ 500) (hp0 : p.toList ≠ []) :
    ∃ l : List ByteArray, Ev (fun k => spec_SplitList.f k p s) l ∧ (∀ x ∈ l, x.size ≤ 500) ∧ l.length ≤ 100000 ∧
      (∀ n : Int, n < 0 → ∃ k, sprig_zzSplitN.f k s p n = some l) ∧
      (∀ n : Nat, 0 < n → n ≤ 1000 → l.length ≤ n → ∃ k, sprig_zzSplitN.f k s p (n : Int) = some l) ∧
      (∀ n : Nat, 0 < n → n ≤ 1000 → n < l.length → ∃ r : ByteArray, Ev (fun k => spec_Joined.f k p (l.drop (n - 1))) r ∧ r.size ≤ 500 ∧ ∃ k, sprig_zzSplitN.f k s p (n : Int) = some (l.take (n - 1) ++ [r])) := by
  have hl := len_eq s
  obtain ⟨l, h1, h2⟩ := split_ev p s (by omega) (by omega) hp0
  obtain ⟨s1, s2⟩ := split_small p.toList hp0 _ s.toList (Nat.le_refl _)
  have hll : l.length = (splitL p.toList s.toList).length := by rw [← h2, List.length_map]
  have hsz : ∀ x ∈ l, x.size ≤ 500 := fun x hx => by
    have := s2 x.toList (by rw [← h2]; exact List.mem_map_of_mem hx)
    have := len_eq x
    omega
  refine ⟨l, h1, hsz, by omega, fun n hn => ?_, fun n h0 hn hln => ?_, fun n h0 hn hln => ?_⟩
  · obtain ⟨l', g1, g2⟩ := zzneg_ev n hn p (by omega) hp0 s.size s [] (Nat.le_refl _) (by omega) (by simp; omega)
    have e : l' = l := map_inj (by rw [g2, h2]; rfl)
    subst e
    obtain ⟨k, hk⟩ := Ev.rounds g1
    exact ⟨k, by unfold sprig_zzSplitN.f; rw [if_neg (by omega)]; exact hk⟩
  · obtain ⟨l', g1, g2⟩ := zzcut_ev p (by omega) hp0 n hn (n - 1) s [] (by simp; omega) (by omega)
    have e : l' = l := map_inj (by
      rw [g2, h2, cutN_split p.toList hp0, if_pos (by omega)]; rfl)
    subst e
    obtain ⟨k, hk⟩ := Ev.rounds g1
    exact ⟨k, by unfold sprig_zzSplitN.f; rw [if_neg (by omega)]; exact hk⟩
  · obtain ⟨l', g1, g2⟩ := zzcut_ev p (by omega) hp0 n hn (n - 1) s [] (by simp; omega) (by omega)
    obtain ⟨r, r1, r2⟩ := joined_ev p (l.drop (n - 1)) (by omega) (by rw [List.length_drop]; omega) (fun x hx => by have := hsz x (List.mem_of_mem_drop hx); omega)
    have hcut := cutN_split p.toList hp0 (n - 1) s.toList
    rw [if_neg (by omega)] at hcut
    have hr : r.toList = Lib.join ((splitL p.toList s.toList).drop (n - 1)) p.toList := by
      rw [r2, joinL_join, List.map_drop, h2]
    have e : l' = l.take (n - 1) ++ [r] := map_inj (by
      rw [g2, hcut, List.map_append, List.map_take, h2, List.map_singleton, hr]; rfl)
    have hrs : r.size ≤ 500 := by
      have e1 := cut_small p.toList hp0 (n - 1) s.toList r.toList (by rw [hcut, ← hr]; simp)
      have := len_eq r
      omega
    subst e
    obtain ⟨k, hk⟩ := Ev.rounds g1
    exact ⟨r, r1, hrs, k, by unfold sprig_zzSplitN.f; rw [if_neg (by omega)]; exact hk⟩
end Go.Proofs.YtjaeihbfkmflkaaDoor.Pure
