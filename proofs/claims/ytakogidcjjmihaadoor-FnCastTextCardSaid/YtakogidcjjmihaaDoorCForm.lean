/- FnCastText: the six forms of a number, and what they are as integers. -/
import Derived.Test.YtakogidcjjmihaaDoorCCast
namespace Go.Proofs.YtakogidcjjmihaaDoor.Pu
open Go.RowKit Go.Proofs.YtakogidcjjmihaaDoorW.PrintWords Go.Proofs.YtakogidcjjmihaaDoor.Txt Go.Proofs.YtakogidcjjmihaaDoor.PFnCastText
set_option linter.unusedVariables false
set_option linter.unusedSimpArgs false
set_option maxRecDepth 100000
def ba (l : List UInt8) : ByteArray := ⟨l.toArray⟩
theorem ba_tl (l : List UInt8) : (ba l).toList = l := by rw [Lib.toList_data]; rfl
theorem ba_size (l : List UInt8) : (ba l).size = l.length := by rw [len_eq, ba_tl]
theorem ba_app (a b : List UInt8) : ba a ++ ba b = ba (a ++ b) := ext_eq (by rw [tl_append, ba_tl, ba_tl, ba_tl])
theorem ba_get (l : List UInt8) (j : Nat) (h : j < (ba l).size) (h' : j < l.length) : ((ba l)[j]'h) = l[j] := rfl
def alpha16 : ByteArray := ⟨#[48, 49, 50, 51, 52, 53, 54, 55, 56, 57, 97, 98, 99, 100, 101, 102]⟩
theorem alpha_at (d : Nat) (h : d < 16) : alpha16.extract d (d + 1) = ba [dch d] := by
  have : ∀ d : Fin 16, alpha16.extract d.val (d.val + 1) = ba [dch d.val] := by decide
  exact this ⟨d, h⟩
theorem base7_ev (b n : Nat) (h2 : 2 ≤ b) (h16 : b ≤ 16) (hn : n < 18014398509481984) : ∀ (g m : Nat) (t : List UInt8), (m + 1 ≤ g ∨ (t ≠ [] ∧ m ≤ g)) → DigLeft b n m t → m ≤ n → t.length ≤ 100 → (digs b n).length ≤ 100 →
    Ev (fun k => laws_base7.l0 k (m : Int) (b : Int) (ba t)) (ba (digs b n)) := by
  intro g
  induction g with
  | zero =>
    intro m t hq hL hm ht hd
    rcases hq with hq | ⟨h1, h3⟩
    · omega
    · have h0 : m = 0 := by omega
      subst h0
      rw [← hL.done h1]
      refine Ev.step (f := fun _ => some (ba t)) (fun k => ?_) (Ev.now _)
      simp only [laws_base7.l0]
      rw [if_neg (by omega), if_neg (by rw [ba_tl]; exact h1)]
  | succ g ih =>
    intro m t hq hL hm ht hd
    by_cases hgo : 0 < m ∨ t = []
    · have hmod : m % b < b := Nat.mod_lt _ (by omega)
      have e1 : Int.tmod (m : Int) (b : Int) = ((m % b : Nat) : Int) := by rw [Int.tmod_eq_emod_of_nonneg (by omega)]; rfl
      have e2 : IntKind.u64.wrap (((m % b : Nat) : Int) + 1) = ((m % b + 1 : Nat) : Int) := by rw [u64w _ (by omega) (by omega)]; rfl
      have e3 : IntKind.u64.wrap (Int.tdiv (m : Int) (b : Int)) = ((m / b : Nat) : Int) := by
        have hdv : m / b ≤ m := Nat.div_le_self _ _
        rw [Int.tdiv_eq_ediv_of_nonneg (by omega), ← Int.natCast_ediv]
        obtain ⟨q, hq⟩ : ∃ q, q = m / b := ⟨_, rfl⟩
        rw [← hq] at hdv ⊢
        exact u64w _ (by omega) (by omega)
      have e4 : (⟨#[48, 49, 50, 51, 52, 53, 54, 55, 56, 57, 97, 98, 99, 100, 101, 102]⟩ : ByteArray).extract (((m % b : Nat) : Int)).toNat (((m % b + 1 : Nat) : Int)).toNat = ba [dch (m % b)] := by
        rw [Int.toNat_natCast, Int.toNat_natCast]; exact alpha_at _ (by omega)
      have e5 : (ba [dch (m % b)]).size = 1 := rfl
      have hL2 := hL.step h2 hgo
      have hdl : m / b ≤ g := by
        have : m / b ≤ m / 2 := Nat.div_le_div_left h2 (by decide)
        rcases hq with hq | ⟨h1, h3⟩
        · omega
        · rcases hgo with h | h
          · omega
          · exact absurd h h1
      have hlen2 : (dch (m % b) :: t).length ≤ 100 := by
        rcases hL2 with ⟨_, h, _⟩ | ⟨_, _, h⟩ | ⟨_, h⟩
        · cases h
        · rw [h]; exact hd
        · rw [h, List.length_append] at hd; omega
      have hnx := ih (m / b) (dch (m % b) :: t) (.inr ⟨by simp, hdl⟩) hL2 (Nat.le_trans (Nat.div_le_self _ _) hm) hlen2 hd
      have e6 : ba [dch (m % b)] ++ ba t = ba (dch (m % b) :: t) := ba_app _ _
      have hbt := ba_size t
      refine Ev.step (f := fun k => laws_base7.l0 k ((m / b : Nat) : Int) (b : Int) (ba (dch (m % b) :: t))) (fun k => ?_) hnx
      simp only [laws_base7.l0]
      rw [e1, e2, e3, e4, e5, e6]
      by_cases h0 : 0 < m
      · rw [if_pos (by omega), if_neg (by omega), if_pos (by omega), if_pos (by omega), if_pos (by omega), if_pos (by omega)]
      · rw [if_neg (by omega), if_pos (by rw [ba_tl]; exact hgo.resolve_left h0), if_neg (by omega), if_pos (by omega), if_pos (by omega), if_pos (by omega), if_pos (by omega)]
    · have h0 : m = 0 := by omega
      have h1 : t ≠ [] := fun h => hgo (.inr h)
      subst h0
      rw [← hL.done h1]
      refine Ev.step (f := fun _ => some (ba t)) (fun k => ?_) (Ev.now _)
      simp only [laws_base7.l0]
      rw [if_neg (by omega), if_neg (by rw [ba_tl]; exact h1)]
theorem base7_call (b n : Nat) (h2 : 2 ≤ b) (h16 : b ≤ 16) (hn : n < 18014398509481984) (w : World) :
    Calls Tryd.prog 4 #[.int .u64 (n : Int), .int .u64 (b : Int)] w fun e w' => e = .returned (.string (ba (digs b n))) ∧ Below w.heap.size w w' := by
  have hd := digs_len b h2 54 n (by omega)
  obtain ⟨k, hk⟩ := base7_ev b n h2 h16 hn (n + 1) n [] (.inl (Nat.le_refl _)) (DigLeft.start b n) (Nat.le_refl _) (by simp) (by omega)
  exact (laws_base7.calls k (n : Int) (b : Int) _ w (hk k (Nat.le_refl k))).mono fun e w' h => ⟨h.1, h.2.below⟩
theorem dch_ne46 (d : Nat) (h : d < 16) : dch d ≠ 46 := by
  intro e
  have := dch_nat d h
  rw [e] at this
  rw [show (46 : UInt8).toNat = 46 from rfl] at this
  split at this <;> omega
theorem ok_ne46 {b : Nat} {c : UInt8} (h : okD b c) : c ≠ 46 := by
  intro e
  have := h.1
  rw [e] at this
  rw [show (46 : UInt8).toNat = 46 from rfl] at this
  omega
/-- A text of a number, without a sign: what is left of it, and what that is. -/
structure FormOk (s u : List UInt8) (n : Nat) : Prop where
  len : s.length ≤ 200
  ne : s ≠ []
  une : u ≠ []
  ulen : u.length ≤ 200
  head : ∀ h : 0 < u.length, (u[0]'h).toNat ≠ 43 ∧ (u[0]'h).toNat ≠ 45
  trim : ∀ W, Calls Tryd.prog 25 #[.string (ba s)] W fun e w' => e = .returned (.string (ba u)) ∧ Below W.heap.size W w'
  trimN : ∀ W, Calls Tryd.prog 25 #[.string (ba (45 :: s))] W fun e w' => e = .returned (.string (ba (45 :: u))) ∧ Below W.heap.size W w'
  pu : ∀ W, Calls Tryd.prog 31 #[.string (ba u), .int .i64 0, .int .i64 0] W fun e w' => e = .returned (.tuple #[.int .u64 (n : Int), .nilIface]) ∧ Below W.heap.size W w'
theorem FormOk.plain {s : List UInt8} {n : Nat} (hl : s.length ≤ 200) (h0 : s ≠ []) (hh : ∀ h : 0 < s.length, (s[0]'h).toNat ≠ 43 ∧ (s[0]'h).toNat ≠ 45) (h46 : ∀ c ∈ s, c ≠ 46)
    (pu : ∀ W, Calls Tryd.prog 31 #[.string (ba s), .int .i64 0, .int .i64 0] W fun e w' => e = .returned (.tuple #[.int .u64 (n : Int), .nilIface]) ∧ Below W.heap.size W w') : FormOk s s n :=
  ⟨hl, h0, h0, hl, hh, fun W => trim_plain _ (by rw [ba_size]; omega) (by rw [ba_tl]; exact h46) W,
    fun W => trim_plain _ (by rw [ba_size]; simp; omega) (by
      rw [ba_tl]; intro c hc
      rcases List.mem_cons.1 hc with rfl | h
      · decide
      · exact h46 c h) W, pu⟩
theorem digs_pu (n : Nat) (hn : n < 18014398509481984) (W : World) : Calls Tryd.prog 31 #[.string (ba (digs 10 n)), .int .i64 0, .int .i64 0] W fun e w' => e = .returned (.tuple #[.int .u64 (n : Int), .nilIface]) ∧ Below W.heap.size W w' := by
  have hlen := digs_len 10 (by decide) 54 n (by omega)
  by_cases h0 : n = 0
  · subst h0
    have e : digs 10 0 = [48] := by rw [digs_small (by decide)]; rfl
    rw [e]
    exact uint_f (ba [48]) (ba []) [] (by rw [ba_tl]; rfl) (ba_tl _) (by decide) (by decide) (by simp) 0 rfl (by decide) W
  · obtain ⟨c, t, e, hc⟩ := digs_head 10 (by decide) (by decide) n (by omega)
    refine uint_b (ba (digs 10 n)) (ba (digs 10 n)) (digs 10 n) (by rw [ba_tl]; rfl) (ba_tl _) (by rw [ba_size, e]; simp) ?_ (by rw [ba_size]; omega) (digs_ok 10 (by decide) (by decide) n) n (digs_val 10 (by decide) (by decide) n) hn W
    intro h
    have e2 : (digs 10 n)[0] = c := by simp [e]
    rw [e2]; exact hc
theorem digs_hd {b n : Nat} (h2 : 2 ≤ b) (h10 : b ≤ 10) : ∀ h : 0 < (digs b n).length, ((digs b n)[0]'h).toNat ≠ 43 ∧ ((digs b n)[0]'h).toNat ≠ 45 := fun h => by
  have := (digs_ok b h2 (by omega) n _ (List.getElem_mem h)).1
  omega
theorem form_dec (n : Nat) (hn : n < 18014398509481984) : FormOk (digs 10 n) (digs 10 n) n :=
  .plain (by have := digs_len 10 (by decide) 54 n (by omega); omega) (digs_ne _ _) (digs_hd (by decide) (by decide)) (fun c hc => ok_ne46 (digs_ok 10 (by decide) (by decide) n c hc)) (digs_pu n hn)
theorem form_pre (b : Nat) (h2 : 2 ≤ b) (h16 : b ≤ 16) (n : Nat) (hn : n < 18014398509481984) (x : UInt8) (hx : x ≠ 46)
    (pu : ∀ W, Calls Tryd.prog 31 #[.string (ba (48 :: x :: digs b n)), .int .i64 0, .int .i64 0] W fun e w' => e = .returned (.tuple #[.int .u64 (n : Int), .nilIface]) ∧ Below W.heap.size W w') : FormOk (48 :: x :: digs b n) (48 :: x :: digs b n) n :=
  .plain (by have := digs_len b h2 54 n (by omega); simp; omega) (by simp) (fun _ => ⟨by show (48 : UInt8).toNat ≠ 43; decide, by show (48 : UInt8).toNat ≠ 45; decide⟩) (fun c hc => by
    rcases List.mem_cons.1 hc with rfl | hc
    · decide
    · rcases List.mem_cons.1 hc with rfl | hc
      · exact hx
      · exact ok_ne46 (digs_ok b h2 h16 n c hc)) pu
theorem form_hex (n : Nat) (hn : n < 18014398509481984) : FormOk (48 :: 120 :: digs 16 n) (48 :: 120 :: digs 16 n) n :=
  form_pre 16 (by decide) (by decide) n hn 120 (by decide) fun W => uint_c _ (ba (digs 16 n)) (digs 16 n) (ba_tl _) (ba_tl _) (List.length_pos_iff.2 (digs_ne _ _)) (by rw [ba_size]; have := digs_len 16 (by decide) 54 n (by omega); simp; omega) (digs_ok 16 (by decide) (by decide) n) n (digs_val 16 (by decide) (by decide) n) hn W
theorem form_oct (n : Nat) (hn : n < 18014398509481984) : FormOk (48 :: 111 :: digs 8 n) (48 :: 111 :: digs 8 n) n :=
  form_pre 8 (by decide) (by decide) n hn 111 (by decide) fun W => uint_d _ (ba (digs 8 n)) (digs 8 n) (ba_tl _) (ba_tl _) (List.length_pos_iff.2 (digs_ne _ _)) (by rw [ba_size]; have := digs_len 8 (by decide) 54 n (by omega); simp; omega) (digs_ok 8 (by decide) (by decide) n) n (digs_val 8 (by decide) (by decide) n) hn W
theorem form_bin (n : Nat) (hn : n < 18014398509481984) : FormOk (48 :: 98 :: digs 2 n) (48 :: 98 :: digs 2 n) n :=
  form_pre 2 (by decide) (by decide) n hn 98 (by decide) fun W => uint_e _ (ba (digs 2 n)) (digs 2 n) (ba_tl _) (ba_tl _) (List.length_pos_iff.2 (digs_ne _ _)) (by rw [ba_size]; have := digs_len 2 (by decide) 54 n (by omega); simp; omega) (digs_ok 2 (by decide) (by decide) n) n (digs_val 2 (by decide) (by decide) n) hn W
theorem form_old (n : Nat) (hn : n < 18014398509481984) : FormOk (48 :: digs 8 n) (48 :: digs 8 n) n :=
  .plain (by have := digs_len 8 (by decide) 54 n (by omega); simp; omega) (by simp) (fun _ => ⟨by show (48 : UInt8).toNat ≠ 43; decide, by show (48 : UInt8).toNat ≠ 45; decide⟩) (fun c hc => by
    rcases List.mem_cons.1 hc with rfl | hc
    · decide
    · exact ok_ne46 (digs_ok 8 (by decide) (by decide) n c hc)) fun W => by
    have hlen := digs_len 8 (by decide) 54 n (by omega)
    by_cases h : (digs 8 n).length < 2
    · exact uint_f _ (ba (digs 8 n)) (digs 8 n) (ba_tl _) (ba_tl _) h (by rw [ba_size]; simp; omega) (digs_ok 8 (by decide) (by decide) n) n (digs_val 8 (by decide) (by decide) n) hn W
    · exact uint_g _ (ba (digs 8 n)) (digs 8 n) (ba_tl _) (ba_tl _) (by omega) (by rw [ba_size]; simp; omega) (digs_ok 8 (by decide) (by decide) n) n (digs_val 8 (by decide) (by decide) n) hn W
theorem cut_of (p : List UInt8) (l : List UInt8) (hl : 0 < l.length) (hz : p.length + l.length ≤ 1000) (hd : ∀ c ∈ l, okD 10 c) : Cut25 (ba (p ++ (l ++ [46, 50, 53]))) p.length (p.length + l.length) where
  pq := by omega
  size := by rw [ba_size]; simp; omega
  small := hz
  dig := fun j h h1 h2 => by
    have e : ((ba (p ++ (l ++ [46, 50, 53])))[j]'h) = l[j - p.length]'(by omega) := by
      rw [ba_get _ _ _ (by rw [ba_size] at h; exact h), List.getElem_append_right h1, List.getElem_append_left (by omega)]
    rw [e]
    obtain ⟨h3, h4⟩ := hd _ (List.getElem_mem (by omega : j - p.length < l.length))
    unfold dv at h4
    split at h4 <;> omega
  at0 := fun h => by
    rw [ba_get _ _ _ (by rw [ba_size] at h; exact h), List.getElem_append_right (by omega), List.getElem_append_right (by omega)]
    simp
  at1 := fun h => by
    rw [ba_get _ _ _ (by rw [ba_size] at h; exact h), List.getElem_append_right (by omega), List.getElem_append_right (by omega)]
    have e : p.length + l.length + 1 - p.length - l.length = 1 := by omega
    simp [e]
  at2 := fun h => by
    rw [ba_get _ _ _ (by rw [ba_size] at h; exact h), List.getElem_append_right (by omega), List.getElem_append_right (by omega)]
    have e : p.length + l.length + 2 - p.length - l.length = 2 := by omega
    simp [e]
theorem form_cut (n : Nat) (hn : n < 18014398509481984) : FormOk (digs 10 n ++ [46, 50, 53]) (digs 10 n) n := by
  have hlen := digs_len 10 (by decide) 54 n (by omega)
  have hp := List.length_pos_iff.2 (digs_ne 10 n)
  have hok := digs_ok 10 (by decide) (by decide) n
  have hhd := digs_hd (b := 10) (n := n) (by decide) (by decide) hp
  have h0 : (digs 10 n)[0] ∈ digs 10 n := List.getElem_mem hp
  refine ⟨by simp; omega, by simp, digs_ne _ _, by omega, digs_hd (by decide) (by decide), fun W => ?_, fun W => ?_, digs_pu n hn⟩
  · refine trim_cut _ (ba (digs 10 n)) (by rw [ba_size]; simp; omega) (by rw [ba_tl]; simp) (by rw [ba_size]; exact hp) ?_ ?_ (fun w => ?_) W
    · rw [ba_tl]; intro e; rw [show (digs 10 n)[0] = 45 by simp [e]] at hhd; exact hhd.2 rfl
    · rw [ba_tl]; intro e; rw [show (digs 10 n)[0] = 43 by simp [e]] at hhd; exact hhd.1 rfl
    · have hc : Cut25 (ba (digs 10 n ++ [46, 50, 53])) 0 (digs 10 n).length := by
        have := cut_of [] (digs 10 n) hp (by simp; omega) hok
        simpa using this
      have := zzNumber_pos _ _ hc w
      have e : (ba (digs 10 n ++ [46, 50, 53])).extract 0 (digs 10 n).length = ba (digs 10 n) := ext_eq (by rw [tl_extract, ba_tl, ba_tl]; simp)
      rw [e] at this
      exact this
  · refine trim_cut _ (ba (45 :: digs 10 n)) (by rw [ba_size]; simp; omega) (by rw [ba_tl]; simp) (by rw [ba_size]; simp) ?_ ?_ (fun w => ?_) W
    · rw [ba_tl]; intro e; injection e with _ e; exact digs_ne _ _ e
    · rw [ba_tl]; intro e; injection e with e _; exact absurd e (by decide)
    · have hc : Cut25 (ba (45 :: (digs 10 n ++ [46, 50, 53]))) 1 ((digs 10 n).length + 1) := by
        have := cut_of [45] (digs 10 n) hp (by simp; omega) hok
        rw [Nat.add_comm] at this
        exact this
      have := zzNumber_neg _ _ hc (fun _ => rfl) w
      have e : (ba (45 :: (digs 10 n ++ [46, 50, 53]))).extract 0 ((digs 10 n).length + 1) = ba (45 :: digs 10 n) := ext_eq (by rw [tl_extract, ba_tl, ba_tl]; simp)
      rw [e] at this
      exact this
end Go.Proofs.YtakogidcjjmihaaDoor.Pu
