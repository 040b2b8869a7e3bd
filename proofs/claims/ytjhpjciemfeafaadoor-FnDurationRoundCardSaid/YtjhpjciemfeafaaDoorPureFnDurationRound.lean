/- FnDurationRound, as a plain statement: a number of seconds, written out in hours, minutes and seconds, or in nanoseconds, is told in its most significant unit. For all numbers of 64 bits. -/
import Derived.Test.YtjhpjciemfeafaaDoorPFnDurationRoundx1
import Derived.Test.YtjhpjciemfeafaaDoorTxt
namespace Go.Proofs.YtjhpjciemfeafaaDoor.Pure
set_option linter.unusedSimpArgs false
open Go.RowKit Go.Proofs.YtjhpjciemfeafaaDoor.PFnDurationRound Go.Proofs.YtjhpjciemfeafaaDoorW.PrintWords Go.Proofs.YtjhpjciemfeafaaDoorW.PrintLast Go.Proofs.YtjhpjciemfeafaaDoor.Txt Go.Proofs.YtjhpjciemfeafaaDoor.Giv

theorem dec_f (n : Nat) (h : n ≤ 9223372036854775807) : spec_Decimal.f (n : Int) = some (itoaB (n : Int)) := by
  unfold spec_Decimal.f
  rw [if_pos ⟨by omega, by omega⟩]
theorem itoa_tl (n : Nat) : (itoaB (n : Int)).toList = Lib.decDigits n := by
  rw [Lib.toList_data]
  unfold itoaB
  rw [Lib.itoa_nonneg]
theorem scan_digs : ∀ (d l : List UInt8) (tot x : Nat) (b : Bool), digs d → d ≠ [] → scanP (d ++ l) tot x b = scanP l tot (val10 x d) true
  | [], l, tot, x, b, _, h => absurd rfl h
  | [c], l, tot, x, b, hd, _ => by
    have hc := hd c (by simp)
    show scanP (c :: l) tot x b = _
    rw [scanP, if_pos hc]; rfl
  | c :: e :: d, l, tot, x, b, hd, _ => by
    have hc := hd c (by simp)
    show scanP (c :: ((e :: d) ++ l)) tot x b = _
    rw [scanP, if_pos hc, scan_digs (e :: d) l tot _ true (fun y hy => hd y (List.mem_cons_of_mem _ hy)) (by simp)]
    rfl
theorem scan_txt : ∀ (ps : List (List UInt8 × UInt8)) (tot : Nat), okP ps → scanP (txtP ps) tot 0 false = some (tot + totP ps)
  | [], tot, _ => by simp [txtP, scanP, totP]
  | (d, u) :: r, tot, h => by
    obtain ⟨h1, h2, h3, h4⟩ := h (d, u) List.mem_cons_self
    simp only at h1 h2 h3 h4
    show scanP (d ++ u :: txtP r) tot 0 false = _
    have hn : ¬ (48 ≤ u.toNat ∧ u.toNat ≤ 57) := by rcases h3 with rfl | rfl | rfl <;> decide
    rw [scan_digs d _ tot 0 false h1 h2, scanP, if_neg hn, if_pos ⟨h3, rfl, h4⟩, scan_txt r _ (fun q hq => h q (List.mem_cons_of_mem _ hq))]
    simp only [totP]
    congr 1
    omega
theorem ok_part (n : Nat) (u : UInt8) (hn : n ≤ 9000000000) (hu : u = 104 ∨ u = 109 ∨ u = 115) : digs (Lib.decDigits n, u).1 ∧ (Lib.decDigits n, u).1 ≠ [] ∧ ((Lib.decDigits n, u).2 = 104 ∨ (Lib.decDigits n, u).2 = 109 ∨ (Lib.decDigits n, u).2 = 115) ∧ val10 0 (Lib.decDigits n, u).1 ≤ 9000000000 := by
  obtain ⟨h1, h2, h3⟩ := dec_digs n
  exact ⟨h1, h3, hu, by show val10 0 (Lib.decDigits n) ≤ _; rw [h2]; exact hn⟩

/-- A text of whole numbers and units is told in its most significant unit. -/
theorem told (t : ByteArray) (ps : List (List UInt8 × UInt8)) (h : t.toList = txtP ps) (hok : okP ps) (htot : totP ps ≤ 9223372036854775807) (h0 : 0 < t.size) (h5 : t.size ≤ 500) : impl_DurationRound.f t = some (roundB (totP ps)) := by
  unfold impl_DurationRound.f
  rw [if_pos ⟨h0, h5⟩, h, scan_txt ps 0 hok]
  simp only [Option.bind_some, Nat.zero_add]
  rw [if_pos htot]

theorem seconds_told (n : Nat) (hn : n ≤ 9000000000) : ∃ t, spec_Seconds.f (n : Int) = some t ∧ impl_DurationRound.f t = some (roundB (n * 1000000000)) := by
  have e1 : Int.tmod (n : Int) 60 = ((n % 60 : Nat) : Int) := by rw [Int.tmod_eq_emod_of_nonneg (by omega)]; omega
  have e2 : wrap64 (Int.tdiv (n : Int) 60) = ((n / 60 : Nat) : Int) := by rw [Int.tdiv_eq_ediv_of_nonneg (by omega), w64 (by omega) (by omega)]; omega
  have e3 : Int.tmod ((n / 60 : Nat) : Int) 60 = ((n / 60 % 60 : Nat) : Int) := by rw [Int.tmod_eq_emod_of_nonneg (by omega)]; omega
  have e4 : wrap64 (Int.tdiv (n : Int) 3600) = ((n / 3600 : Nat) : Int) := by rw [Int.tdiv_eq_ediv_of_nonneg (by omega), w64 (by omega) (by omega)]; omega
  have hs := itoa_le (n % 60) (by omega)
  have hm := itoa_le (n / 60 % 60) (by omega)
  have hh := itoa_le (n / 3600) (by omega)
  have u1 : (⟨#[115]⟩ : ByteArray).size = 1 := rfl
  have u2 : (⟨#[109]⟩ : ByteArray).size = 1 := rfl
  have u3 : (⟨#[104]⟩ : ByteArray).size = 1 := rfl
  have l1 : (⟨#[115]⟩ : ByteArray).toList = [115] := by rw [Lib.toList_data]
  have l2 : (⟨#[109]⟩ : ByteArray).toList = [109] := by rw [Lib.toList_data]
  have l3 : (⟨#[104]⟩ : ByteArray).toList = [104] := by rw [Lib.toList_data]
  have p1 := ok_part (n % 60) 115 (by omega) (by decide)
  have p2 := ok_part (n / 60 % 60) 109 (by omega) (by decide)
  have p3 := ok_part (n / 3600) 104 (by omega) (by decide)
  have v1 := (dec_digs (n % 60)).2.1
  have v2 := (dec_digs (n / 60 % 60)).2.1
  have v3 := (dec_digs (n / 3600)).2.1
  have a1 : unitV 115 = 1000000000 := by decide
  have a2 : unitV 109 = 60000000000 := by decide
  have a3 : unitV 104 = 3600000000000 := by decide
  unfold spec_Seconds.f
  rw [e1, dec_f _ (by omega)]
  simp only [Option.bind_some]
  rw [if_pos (by omega)]
  by_cases h60 : n < 60
  · refine ⟨itoaB ((n % 60 : Nat) : Int) ++ ⟨#[115]⟩, ?_, ?_⟩
    · rw [if_neg (by omega), if_neg (by omega)]
    · have ht : totP [(Lib.decDigits (n % 60), 115)] = n * 1000000000 := by simp only [totP, v1, a1]; omega
      rw [← ht]
      refine told _ _ (by rw [tl_append, itoa_tl, l1]; rfl) (fun q hq => ?_) (by rw [ht]; omega) (by rw [ByteArray.size_append]; omega) (by rw [ByteArray.size_append]; omega)
      rw [List.mem_singleton.1 hq]; exact p1
  · rw [if_pos (by omega), e2, e3, dec_f _ (by omega)]
    simp only [Option.bind_some]
    rw [if_pos (by omega), if_pos (by rw [ByteArray.size_append, ByteArray.size_append]; omega)]
    by_cases h36 : n < 3600
    · refine ⟨(itoaB ((n / 60 % 60 : Nat) : Int) ++ ⟨#[109]⟩) ++ (itoaB ((n % 60 : Nat) : Int) ++ ⟨#[115]⟩), ?_, ?_⟩
      · rw [if_neg (by omega)]
      · have ht : totP [(Lib.decDigits (n / 60 % 60), 109), (Lib.decDigits (n % 60), 115)] = n * 1000000000 := by simp only [totP, v1, v2, a1, a2]; omega
        rw [← ht]
        refine told _ _ (by simp only [tl_append, itoa_tl, l1, l2, txtP, List.append_assoc]; rfl) (fun q hq => ?_) (by rw [ht]; omega) (by simp only [ByteArray.size_append]; omega) (by simp only [ByteArray.size_append]; omega)
        simp only [List.mem_cons, List.not_mem_nil, or_false] at hq
        rcases hq with rfl | rfl
        · exact p2
        · exact p1
    · refine ⟨(itoaB ((n / 3600 : Nat) : Int) ++ ⟨#[104]⟩) ++ ((itoaB ((n / 60 % 60 : Nat) : Int) ++ ⟨#[109]⟩) ++ (itoaB ((n % 60 : Nat) : Int) ++ ⟨#[115]⟩)), ?_, ?_⟩
      · rw [if_pos (by omega), e4, dec_f _ (by omega)]
        simp only [Option.bind_some]
        rw [if_pos (by omega), if_pos (by simp only [ByteArray.size_append]; omega)]
      · have ht : totP [(Lib.decDigits (n / 3600), 104), (Lib.decDigits (n / 60 % 60), 109), (Lib.decDigits (n % 60), 115)] = n * 1000000000 := by simp only [totP, v1, v2, v3, a1, a2, a3]; omega
        rw [← ht]
        refine told _ _ (by simp only [tl_append, itoa_tl, l1, l2, l3, txtP, List.append_assoc]; rfl) (fun q hq => ?_) (by rw [ht]; omega) (by simp only [ByteArray.size_append]; omega) (by simp only [ByteArray.size_append]; omega)
        simp only [List.mem_cons, List.not_mem_nil, or_false] at hq
        rcases hq with rfl | rfl | rfl
        · exact p3
        · exact p2
        · exact p1

abbrev L6 : List Int := [31536000, 2592000, 86400, 3600, 60, 1]
abbrev M6 : List ByteArray := [⟨#[121]⟩, ⟨#[109, 111]⟩, ⟨#[100]⟩, ⟨#[104]⟩, ⟨#[109]⟩, ⟨#[115]⟩]
theorem sig_eq (n i U : Nat) (hi : i < 6) (hU : rd L6 (i : Int) = (U : Int)) (h : n = U) : Ev (fun k => spec_Significant.l0 k (n : Int) L6 M6 (i : Int)) (⟨#[]⟩, false) := by
  refine Ev.step (f := fun _ => some (⟨#[]⟩, false)) (fun k => ?_) (Ev.now _)
  simp only [spec_Significant.l0]
  rw [if_pos (by show (i : Int) < 6; omega), if_pos (by omega), if_pos (by rw [hU, h])]
theorem sig_gt (n i U : Nat) (s : ByteArray) (hn : n ≤ 9000000000) (hi : i < 6) (hU : rd L6 (i : Int) = (U : Int)) (hs : rdOf ByteArray.empty M6 (i : Int) = s) (hss : s.size ≤ 2) (h0 : 0 < U) (h : U < n) : Ev (fun k => spec_Significant.l0 k (n : Int) L6 M6 (i : Int)) (itoaB ((n / U : Nat) : Int) ++ s, true) := by
  have hd : n / U ≤ 9000000000 := Nat.le_trans (Nat.div_le_self _ _) hn
  have e : wrap64 (Int.tdiv (n : Int) (U : Int)) = ((n / U : Nat) : Int) := by
    rw [Int.tdiv_eq_ediv_of_nonneg (by omega), ← Int.natCast_ediv]
    generalize n / U = q at hd
    exact w64 (by omega) (by omega)
  have hz := itoa_le (n / U) (Nat.le_trans hd (by omega))
  refine Ev.step (f := fun _ => some (itoaB ((n / U : Nat) : Int) ++ s, true)) (fun k => ?_) (Ev.now _)
  simp only [spec_Significant.l0]
  rw [if_pos (by show (i : Int) < 6; omega), if_pos (by omega), if_neg (by rw [hU]; omega), if_pos (by rw [hU]; omega), if_neg (by rw [hU]; omega), hU, e, dec_f _ (Nat.le_trans hd (by omega))]
  simp only [Option.bind_some]
  rw [if_pos (by show (i : Int) < 6; omega), hs, if_pos (by omega)]
theorem sig_lt (n i U : Nat) (r : ByteArray × Bool) (hi : i < 6) (hU : rd L6 (i : Int) = (U : Int)) (h : n < U) (hr : Ev (fun k => spec_Significant.l0 k (n : Int) L6 M6 ((i + 1 : Nat) : Int)) r) : Ev (fun k => spec_Significant.l0 k (n : Int) L6 M6 (i : Int)) r := by
  refine Ev.step (fun k => ?_) hr
  simp only [spec_Significant.l0]
  rw [if_pos (by show (i : Int) < 6; omega), if_pos (by omega), if_neg (by rw [hU]; omega), if_neg (by rw [hU]; omega), wsucc i (by omega)]
theorem div9 (n U : Nat) (_ : 0 < U) : (n * 1000000000) / (U * 1000000000) = n / U := Nat.mul_div_mul_right n U (by decide)
theorem sig_ev (n : Nat) (hn : n ≤ 9000000000) : ∃ r : ByteArray × Bool, Ev (fun k => spec_Significant.f k (n : Int)) r ∧ (r.2 = true → r.1 = roundB (n * 1000000000)) := by
  unfold spec_Significant.f
  have d0 := div9 n 31536000 (by omega)
  have d1 := div9 n 2592000 (by omega)
  have d2 := div9 n 86400 (by omega)
  have d3 := div9 n 3600 (by omega)
  have d4 := div9 n 60 (by omega)
  have d5 := div9 n 1 (by omega)
  simp only [Nat.reduceMul] at d0 d1 d2 d3 d4 d5
  rcases Nat.lt_trichotomy n 31536000 with h0 | h0 | h0
  rotate_left
  · exact ⟨_, sig_eq n 0 31536000 (by omega) rfl h0, fun h => by cases h⟩
  · refine ⟨_, sig_gt n 0 31536000 ⟨#[121]⟩ hn (by omega) rfl rfl (by decide) (by omega) h0, fun _ => ?_⟩
    unfold roundB; rw [if_pos (by omega), d0]
  rcases Nat.lt_trichotomy n 2592000 with h1 | h1 | h1
  rotate_left
  · exact ⟨_, sig_lt n 0 _ _ (by omega) rfl h0 (sig_eq n 1 2592000 (by omega) rfl h1), fun h => by cases h⟩
  · refine ⟨_, sig_lt n 0 _ _ (by omega) rfl h0 (sig_gt n 1 2592000 ⟨#[109, 111]⟩ hn (by omega) rfl rfl (by decide) (by omega) h1), fun _ => ?_⟩
    unfold roundB; rw [if_neg (by omega), if_pos (by omega), d1]
  rcases Nat.lt_trichotomy n 86400 with h2 | h2 | h2
  rotate_left
  · exact ⟨_, sig_lt n 0 _ _ (by omega) rfl h0 (sig_lt n 1 _ _ (by omega) rfl h1 (sig_eq n 2 86400 (by omega) rfl h2)), fun h => by cases h⟩
  · refine ⟨_, sig_lt n 0 _ _ (by omega) rfl h0 (sig_lt n 1 _ _ (by omega) rfl h1 (sig_gt n 2 86400 ⟨#[100]⟩ hn (by omega) rfl rfl (by decide) (by omega) h2)), fun _ => ?_⟩
    unfold roundB; rw [if_neg (by omega), if_neg (by omega), if_pos (by omega), d2]
  rcases Nat.lt_trichotomy n 3600 with h3 | h3 | h3
  rotate_left
  · exact ⟨_, sig_lt n 0 _ _ (by omega) rfl h0 (sig_lt n 1 _ _ (by omega) rfl h1 (sig_lt n 2 _ _ (by omega) rfl h2 (sig_eq n 3 3600 (by omega) rfl h3))), fun h => by cases h⟩
  · refine ⟨_, sig_lt n 0 _ _ (by omega) rfl h0 (sig_lt n 1 _ _ (by omega) rfl h1 (sig_lt n 2 _ _ (by omega) rfl h2 (sig_gt n 3 3600 ⟨#[104]⟩ hn (by omega) rfl rfl (by decide) (by omega) h3))), fun _ => ?_⟩
    unfold roundB; rw [if_neg (by omega), if_neg (by omega), if_neg (by omega), if_pos (by omega), d3]
  rcases Nat.lt_trichotomy n 60 with h4 | h4 | h4
  rotate_left
  · exact ⟨_, sig_lt n 0 _ _ (by omega) rfl h0 (sig_lt n 1 _ _ (by omega) rfl h1 (sig_lt n 2 _ _ (by omega) rfl h2 (sig_lt n 3 _ _ (by omega) rfl h3 (sig_eq n 4 60 (by omega) rfl h4)))), fun h => by cases h⟩
  · refine ⟨_, sig_lt n 0 _ _ (by omega) rfl h0 (sig_lt n 1 _ _ (by omega) rfl h1 (sig_lt n 2 _ _ (by omega) rfl h2 (sig_lt n 3 _ _ (by omega) rfl h3 (sig_gt n 4 60 ⟨#[109]⟩ hn (by omega) rfl rfl (by decide) (by omega) h4)))), fun _ => ?_⟩
    unfold roundB; rw [if_neg (by omega), if_neg (by omega), if_neg (by omega), if_neg (by omega), if_pos (by omega), d4]
  rcases Nat.lt_trichotomy n 1 with h5 | h5 | h5
  rotate_left
  · exact ⟨_, sig_lt n 0 _ _ (by omega) rfl h0 (sig_lt n 1 _ _ (by omega) rfl h1 (sig_lt n 2 _ _ (by omega) rfl h2 (sig_lt n 3 _ _ (by omega) rfl h3 (sig_lt n 4 _ _ (by omega) rfl h4 (sig_eq n 5 1 (by omega) rfl h5))))), fun h => by cases h⟩
  · refine ⟨_, sig_lt n 0 _ _ (by omega) rfl h0 (sig_lt n 1 _ _ (by omega) rfl h1 (sig_lt n 2 _ _ (by omega) rfl h2 (sig_lt n 3 _ _ (by omega) rfl h3 (sig_lt n 4 _ _ (by omega) rfl h4 (sig_gt n 5 1 ⟨#[115]⟩ hn (by omega) rfl rfl (by decide) (by omega) h5))))), fun _ => ?_⟩
    unfold roundB; rw [if_neg (by omega), if_neg (by omega), if_neg (by omega), if_neg (by omega), if_neg (by omega), if_pos (by omega), d5]
  · refine ⟨(⟨#[48, 115]⟩, (n : Int) == 0), sig_lt n 0 _ _ (by omega) rfl h0 (sig_lt n 1 _ _ (by omega) rfl h1 (sig_lt n 2 _ _ (by omega) rfl h2 (sig_lt n 3 _ _ (by omega) rfl h3 (sig_lt n 4 _ _ (by omega) rfl h4 (sig_lt n 5 _ _ (by omega) rfl h5 ?_))))), fun _ => ?_⟩
    · refine Ev.step (f := fun _ => some (⟨#[48, 115]⟩, (n : Int) == 0)) (fun k => ?_) (Ev.now _)
      simp only [spec_Significant.l0]
      rw [if_neg (by show ¬ (6 : Int) < 6; omega)]
    · obtain rfl : n = 0 := by omega
      rfl

theorem FnDurationRound : laws_FnDurationRound.Pure := by
  intro a0 hwf
  apply Ev.rounds
  have hyes : Ev (fun k => laws_FnDurationRound.j0 k a0 true) true := Ev.step (f := fun _ => some true) (fun k => by simp [laws_FnDurationRound.j0]) (Ev.now _)
  unfold laws_FnDurationRound.f
  by_cases h0 : a0 < 0
  · exact Ev.pos h0 hyes
  refine Ev.neg h0 ?_
  by_cases h9 : a0 > 9000000000
  · rw [decide_eq_true h9]; exact hyes
  rw [decide_eq_false h9]
  obtain ⟨n, rfl⟩ : ∃ n : Nat, a0 = n := ⟨a0.toNat, by omega⟩
  have hn : n ≤ 9000000000 := by omega
  obtain ⟨r, hr, hR⟩ := sig_ev n hn
  obtain ⟨t, ht, hT⟩ := seconds_told n hn
  have hN : impl_DurationRoundNano.f (wrap64 ((n : Int) * 1000000000)) = some (roundB (n * 1000000000)) := by
    rw [w64 (by omega) (by omega)]
    unfold impl_DurationRoundNano.f
    rw [if_pos ⟨by omega, by omega⟩]
    congr 2
  have hC : impl_DurationRound.f (⟨#[50, 52, 48, 48, 104, 49, 48, 109, 53, 115]⟩ : ByteArray) = some (⟨#[51, 109, 111]⟩ : ByteArray) := by decide +kernel
  refine Ev.step (fun k => by simp only [laws_FnDurationRound.j0]; rw [if_neg (by decide)]) (Ev.andThen hr ?_)
  obtain ⟨r1, r2⟩ := r
  cases r2 with
  | false => exact Ev.neg (by simp) (Ev.now _)
  | true =>
    have e := hR rfl
    simp only at e
    subst e
    refine Ev.pos rfl (Ev.thenC ht (Ev.thenC hT (Ev.pos rfl (Ev.thenC hN (Ev.pos rfl (Ev.thenC hC ?_))))))
    have : ((⟨#[51, 109, 111]⟩ : ByteArray).toList == ([51, 109, 111] : List UInt8)) = true := by rw [Lib.toList_data]; rfl
    rw [this]
    exact Ev.now _
end Go.Proofs.YtjhpjciemfeafaaDoor.Pure
