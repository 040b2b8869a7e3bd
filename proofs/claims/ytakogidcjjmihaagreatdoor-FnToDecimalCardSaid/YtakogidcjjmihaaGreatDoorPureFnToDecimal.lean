/- FnToDecimal: the law's walk. -/
import Derived.Test.YtakogidcjjmihaaGreatDoorTDec
import Derived.Test.YtakogidcjjmihaaGreatDoorPDig
import Derived.Laws.Slices
import Derived.Sort.Row
namespace Go.Proofs.YtakogidcjjmihaaGreatDoor.Pure
/-- Nothing more is asked. -/
theorem FnToDecimal : True := trivial
end Go.Proofs.YtakogidcjjmihaaGreatDoor.Pure
namespace Go.Proofs.YtakogidcjjmihaaGreatDoor.Pu
open Go.RowKit Go.Sort Go.Proofs.YtakogidcjjmihaaGreatDoorW.PrintWords Go.Proofs.YtakogidcjjmihaaGreatDoor.Txt
set_option linter.unusedVariables false
set_option linter.unusedSimpArgs false
set_option maxRecDepth 100000
def ba (l : List UInt8) : ByteArray := ⟨l.toArray⟩
theorem ba_tl (l : List UInt8) : (ba l).toList = l := by rw [Lib.toList_data]; rfl
theorem ba_size (l : List UInt8) : (ba l).size = l.length := by rw [len_eq, ba_tl]
/-- One byte as a text. -/
theorem conv1 (W : World) (b : Nat) (c : Nat) (hc : c < 256) (h : W.cell? ⟨b, 0, none⟩ = some (.int .u8 (c : Int))) : (convert 23 9 (.slice (some ⟨b, 0, none⟩) 1 1)).run Tryz.prog W = .ok (.string ⟨#[UInt8.ofNat c]⟩) W := by
  have e : ((UInt8.ofNat c).toNat : Int) = (c : Int) := by rw [UInt8.toNat_ofNat']; omega
  refine run_convert_bytes_back (P := Tryz.prog) _ 23 9 5 ⟨b, 0, none⟩ 1 [UInt8.ofNat c] Tryz.underlying23 Tryz.underlying5 Tryz.underlying9 ?_
  intro j hj
  have hj0 : j = 0 := by simpa using hj
  subst hj0
  have e1 : (⟨b, 0, none⟩ : Addr).add 0 = ⟨b, 0, none⟩ := by simp [Addr.add]
  rw [e1, h]
  simp only [List.getElem_cons_zero, e]
/-- impl.ToDecimal at octal digits. -/
theorem octal_call (l : List UInt8) (V : Nat) (h0 : l ≠ []) (hl : l.length ≤ 100) (hd : ∀ c ∈ l, okD 8 c) (hV : valB 8 0 l = V) (hVb : V < 18014398509481984) (w : World) :
    Calls Tryz.prog 5 #[txV (ba l)] w fun e w' => e = .returned (.int .i64 (V : Int)) ∧ Below w.heap.size w w' := by
  have hs := ba_size l
  have hp : 0 < l.length := List.length_pos_iff.2 h0
  have hp' : 0 < (ba l).size := by rw [hs]; exact hp
  refine implDecimal_tx (ba l) (V : Int) (fun W => pub_int _ _ _ _ (fun W => pint_pos (ba l) 8 64 (.inr rfl) hp' ?_ V hVb (fun W => uint_a (ba l) (ba l) l (by rw [ba_tl]; rfl) (ba_tl l) hp' (by omega) hd V hV hVb W) W) W) w
  have e : ((ba l)[0]'hp') = l[0] := rfl
  rw [e]
  obtain ⟨h1, _⟩ := hd _ (List.getElem_mem hp)
  omega
end Go.Proofs.YtakogidcjjmihaaGreatDoor.Pu
namespace Go.Proofs.YtakogidcjjmihaaGreatDoor.PFnToDecimal
open Go.RowKit Go.Sort Go.Proofs.YtakogidcjjmihaaGreatDoorW.PrintWords Go.Proofs.YtakogidcjjmihaaGreatDoor.Txt Go.Proofs.YtakogidcjjmihaaGreatDoor.Pu
set_option linter.unusedVariables false
set_option linter.unusedSimpArgs false
set_option maxRecDepth 100000
set_option maxHeartbeats 4000000 in
theorem laws_FnToDecimal.walk (_P : True) (a0 : Int) (w : World) (w0 : (Lit.int .u64 a0).wf = true) :
    Calls Tryz.prog 3 #[.int .u64 a0] w fun e w' => e = .returned (.bool true) ∧ Below w.heap.size w w' := by
  obtain ⟨n, rfl⟩ : ∃ n : Nat, a0 = (n : Int) := ⟨a0.toNat, by
    have h : 0 ≤ a0 := by
      simp [Lit.wf] at w0
      have e : IntKind.u64.min = 0 := by decide
      omega
    omega⟩
  clear w0
  by_cases hbig : 18014398509481984 ≤ n
  · have h1 : (18014398509481984 : Int) ≤ (n : Int) := by omega
    go_enter Tryz.func3, Tryz.ntmps3
    go_wp2_with fail
    go_ret
    exact ⟨rfl, Below.refl _ _⟩
  have h1 : ((18014398509481984 : Int) ≤ (n : Int)) = False := eq_false (by omega)
  have h2 : (18014398509481984 ≤ n) = False := eq_false (by omega)
  have hz := i64w (n : Int) (by omega) (by omega)
  have HN : Hid (n < 18014398509481984) := Lib.hid (by omega)
  have H511 := Lib.hid (fun W => octal_call [48, 55, 55, 55] 511 (by decide) (by decide) (by unfold okD dv; decide) (by decide) (by decide) W)
  have HOC := Lib.hid (fun W => octal_call (digs 8 n) n (digs_ne 8 n) (by have := digs_len 8 (by decide) 54 n (by omega); omega) (digs_ok 8 (by decide) (by decide) n) (digs_val 8 (by decide) (by decide) n) (by omega) W)
  have HLEN : Hid ((digs 8 n).length ≤ 55) := Lib.hid (digs_len 8 (by decide) 54 n (by omega))
  clear hbig
  go_enter Tryz.func3, Tryz.ntmps3
  go_wp2_with fail
  go_loopg [3, 4] (n + 1) (fun kq v3 v4 wr => ∃ (m : Nat) (t : List UInt8), v3 = .string (ba t) ∧ v4 = .int .u64 (m : Int) ∧ (m + 1 ≤ kq ∨ (t ≠ [] ∧ m ≤ kq)) ∧ Hid (DigLeft 8 n m t) ∧ Hid (Below w.heap.size w wr))
  case atStart => exact ⟨n, [], rfl, rfl, .inl (Nat.le_refl _), Lib.hid (DigLeft.start 8 n), Lib.hid (Below.refl _ _)⟩
  case round =>
    obtain ⟨m, t, rfl, rfl, hq, HL, HB⟩ := hrel
    by_cases hgo : 0 < m ∨ t = []
    case neg =>
      have hm0 : m = 0 := by omega
      have ht0 : t ≠ [] := fun h => hgo (.inr h)
      subst hm0
      have ht : t = digs 8 n := HL.out.done ht0
      have hE : (ba t).toList.isEmpty = false := by rw [ba_tl]; cases t with | nil => exact absurd rfl ht0 | cons a b => rfl
      rw [ht] at hE ⊢
      clear hgo ht0 ht HL hq
      go_wp2_with fail
      refine (HOC.out _).mono ?_
      rintro e w1 ⟨rfl, hb1⟩
      have HB1 := Lib.hid (HB.out.trans (hb1.mono HB.out.size))
      clear hb1
      go_wp2_with fail
      refine (H511.out _).mono ?_
      rintro e w2 ⟨rfl, hb2⟩
      have HB2 := Lib.hid (HB1.out.trans (hb2.mono HB1.out.size))
      clear hb2
      go_wp2_with fail
      go_ret
      exact ⟨rfl, HB2.out⟩
    case pos =>
      cases gk with
      | zero =>
        rcases hq with hq | ⟨k1, k2⟩
        · omega
        · rcases hgo with h | h
          · omega
          · exact absurd h k1
      | succ g =>
      obtain ⟨q, hq8⟩ : ∃ q, q = m / 8 := ⟨_, rfl⟩
      obtain ⟨r, hr8⟩ : ∃ r, r = m % 8 := ⟨_, rfl⟩
      have hmn : m ≤ 18014398509481984 ∧ t.length ≤ 55 := by
        have h1 := HL.out
        have h2 := HN.out
        have h3 := HLEN.out
        rcases h1 with ⟨rfl, rfl, _⟩ | ⟨rfl, _, h⟩ | ⟨_, h⟩
        · exact ⟨by omega, by simp⟩
        · rw [h]; exact ⟨by omega, h3⟩
        · have hv := digs_val 8 (by decide) (by decide) n
          have hv2 := digs_val 8 (by decide) (by decide) m
          refine ⟨?_, by rw [h] at h3; simp at h3; omega⟩
          have hap : ∀ (l : List UInt8) (a : Nat) (l2 : List UInt8), valB 8 a (l ++ l2) = valB 8 (valB 8 a l) l2 := by
            intro l
            induction l with
            | nil => intro a l2; rfl
            | cons c l ih => intro a l2; exact ih _ _
          rw [h, hap, hv2] at hv
          have := valB_ge 8 (by decide) t m
          omega
      have hw1 : IntKind.u64.wrap ((m : Int) / 8) = (q : Int) := by rw [u64w _ (by omega) (by omega)]; omega
      obtain ⟨s, hs⟩ : ∃ s, s = (⟨#[UInt8.ofNat (48 + r)]⟩ : ByteArray) := ⟨_, rfl⟩
      have hcv : ∀ (W : World) (b : Nat), W.cell? ⟨b, 0, none⟩ = some (.int .u8 (48 + (m : Int) % 8)) → (convert 23 9 (.slice (some ⟨b, 0, none⟩) 1 1)).run Tryz.prog W = .ok (.string s) W := fun W b hc => by rw [hs]; exact conv1 W b (48 + r) (by omega) (by rw [hc, hr8]; rfl)
      have hsz : s.size = 1 := by rw [hs]; rfl
      have hbt := ba_size t
      have c1 : (9223372036854775807 < s.size + (ba t).size) = False := eq_false (by omega)
      have c2 : (9223372036854775807 < 1 + (ba t).size) = False := eq_false (by omega)
      have HST : Hid (s ++ ba t = ba (dch (m % 8) :: t)) := Lib.hid (ext_eq (by
        rw [tl_append, ba_tl, ba_tl, hs, Lib.toList_data, hr8]
        have : dch (m % 8) = UInt8.ofNat (48 + m % 8) := by unfold dch; rw [if_pos (by omega), Nat.add_comm]
        rw [this]; rfl))
      have HL2 : Hid (DigLeft 8 n q (dch (m % 8) :: t)) := by rw [hq8]; exact Lib.hid (HL.out.step (by decide) hgo)
      have HQ : Hid (q ≤ g) := Lib.hid (by omega)
      clear hs hsz hbt hmn hr8 hq8 hq HL HLEN
      rcases hgo with hm | ht
      · have hm' : (0 : Int) < (m : Int) := by omega
        go_wp2_with fail
        go_roundg g
        case measure => exact Nat.lt_succ_self g
        case rel => exact ⟨q, _, by rw [HST.out], rfl, .inr ⟨by simp, HQ.out⟩, HL2, Lib.hid (HB.out.alloc HB.out.size _)⟩
      · by_cases hm : 0 < m
        · have hm' : (0 : Int) < (m : Int) := by omega
          clear ht
          go_wp2_with fail
          go_roundg g
          case measure => exact Nat.lt_succ_self g
          case rel => exact ⟨q, _, by rw [HST.out], rfl, .inr ⟨by simp, HQ.out⟩, HL2, Lib.hid (HB.out.alloc HB.out.size _)⟩
        · have hm' : ((0 : Int) < (m : Int)) = False := eq_false (by omega)
          have hE : (ba t).toList.isEmpty = true := by rw [ba_tl, ht]; rfl
          clear ht
          go_wp2_with fail
          go_roundg g
          case measure => exact Nat.lt_succ_self g
          case rel => exact ⟨q, _, by rw [HST.out], rfl, .inr ⟨by simp, HQ.out⟩, HL2, Lib.hid (HB.out.alloc HB.out.size _)⟩
end Go.Proofs.YtakogidcjjmihaaGreatDoor.PFnToDecimal
