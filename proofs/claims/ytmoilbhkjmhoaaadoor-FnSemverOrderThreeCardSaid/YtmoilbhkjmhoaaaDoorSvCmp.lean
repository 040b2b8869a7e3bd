/- Semantic versions: comparePrePart answers cid. -/
import Derived.Test.YtmoilbhkjmhoaaaDoorSvVal
import Derived.Test.YtmoilbhkjmhoaaaDoorSvOrd
import Derived.WalkLawsBesides
namespace Go.Proofs.YtmoilbhkjmhoaaaDoor.Sv
open Go.RowKit Go.Proofs.YtmoilbhkjmhoaaaDoor.PFnSemverOrderThree Go.Proofs.YtmoilbhkjmhoaaaDoorW.PrintWords Go.Proofs.YtmoilbhkjmhoaaaDoor.Txt Go.Proofs.YtmoilbhkjmhoaaaDoor
set_option linter.unusedVariables false
set_option linter.unusedSimpArgs false
set_option maxRecDepth 20000

/-- What strconv.ParseUint answers: the number and nil, or an error. -/
def PuSays (a : ByteArray) (w : World) (e : Ending) (w' : World) : Prop :=
  ∃ (u : Nat) (v : Value), e = .returned (.tuple #[.int .u64 (u : Int), v]) ∧ Hid ((num a.toList = some u ∧ v = .nilIface) ∨ (num a.toList = none ∧ ∃ t p, v = .iface t p)) ∧ Hid (Below w.heap.size w w')

set_option maxHeartbeats 4000000 in
theorem comparePrePart_walk (s o : ByteArray) (hs : s.size ≤ 1000) (ho : o.size ≤ 1000) (w : World)
    (US : ∀ W, Below w.heap.size w W → Calls Tryd.prog 42 #[.string s, .int .i64 10, .int .i64 64] W (PuSays s W))
    (UO : ∀ W, Below w.heap.size w W → Calls Tryd.prog 42 #[.string o, .int .i64 10, .int .i64 64] W (PuSays o W)) :
    Calls Tryd.prog 49 #[.string s, .string o] w fun e w' => e = .returned (.int .i64 (cid s.toList o.toList)) ∧ Below w.heap.size w w' := by
  have HUS := Lib.hid US
  have HUO := Lib.hid UO
  clear US UO
  obtain ⟨R, hR⟩ : ∃ R, R = cid s.toList o.toList := ⟨_, rfl⟩
  rw [← hR]
  have HB0 := Lib.hid (Below.refl w.heap.size w)
  unfold cid at hR
  by_cases h1 : s.toList = o.toList
  · rw [if_pos h1] at hR
    subst hR
    have e : s = o := ext_eq h1
    subst e
    go_enter Tryd.func49, Tryd.ntmps49
    go_wp2_with fail
    go_ret
    exact ⟨rfl, HB0.out⟩
  · rw [if_neg h1] at hR
    have e1 : (s.toList == o.toList) = false := by rw [beq_eq_false_iff_ne]; exact h1
    by_cases h2 : s.toList = []
    · rw [if_pos h2] at hR
      have h3 : o.toList.isEmpty = false := by rw [List.isEmpty_eq_false_iff]; intro e; exact h1 (by rw [h2, e])
      have h2' : s.toList.isEmpty = true := by rw [h2]; rfl
      subst hR
      clear h2
      go_enter Tryd.func49, Tryd.ntmps49
      go_wp2_with fail
      go_ret
      exact ⟨rfl, HB0.out⟩
    · rw [if_neg h2] at hR
      have h2' : s.toList.isEmpty = false := by rw [List.isEmpty_eq_false_iff]; exact h2
      by_cases h3 : o.toList = []
      · rw [if_pos h3] at hR
        have h3' : o.toList.isEmpty = true := by rw [h3]; rfl
        subst hR
        clear h2 h3
        go_enter Tryd.func49, Tryd.ntmps49
        go_wp2_with fail
        go_ret
        exact ⟨rfl, HB0.out⟩
      · rw [if_neg h3] at hR
        have h3' : o.toList.isEmpty = false := by rw [List.isEmpty_eq_false_iff]; exact h3
        clear h2 h3
        have HR := Lib.hid hR
        clear hR
        have H1 := Lib.hid (HUO.out w HB0.out)
        go_enter Tryd.func49, Tryd.ntmps49
        go_wp2_with fail
        refine H1.out.mono ?_
        rintro e w1 ⟨uo, vo, rfl, HO, HB1⟩
        have H2 := Lib.hid (HUS.out w1 HB1.out)
        rcases HO.out with ⟨no, rfl⟩ | ⟨no, tq, pq, rfl⟩
        · have HNO := Lib.hid no
          clear no
          go_wp2_with fail
          refine H2.out.mono ?_
          rintro e w2 ⟨us, vs, rfl, HS, HB2⟩
          have HB3 := Lib.hid (HB1.out.trans (HB2.out.mono HB1.out.size))
          rcases HS.out with ⟨ns, rfl⟩ | ⟨ns, tq, pq, rfl⟩
          · have h := HR.out
            rw [ns, HNO.out] at h
            clear ns
            by_cases hlt : (us : Int) > (uo : Int)
            · replace h : R = if uo < us then 1 else -1 := h
              rw [if_pos (by omega)] at h
              subst h
              go_wp2_with fail
              go_ret
              exact ⟨rfl, HB3.out⟩
            · replace h : R = if uo < us then 1 else -1 := h
              rw [if_neg (by omega)] at h
              subst h
              go_wp2_with fail
              go_ret
              exact ⟨rfl, HB3.out⟩
          · have h := HR.out
            rw [ns, HNO.out] at h
            replace h : R = 1 := h
            clear ns
            subst h
            go_wp2_with fail
            go_ret
            exact ⟨rfl, HB3.out⟩
        · have HNO := Lib.hid no
          clear no
          go_wp2_with fail
          refine H2.out.mono ?_
          rintro e w2 ⟨us, vs, rfl, HS, HB2⟩
          have HB3 := Lib.hid (HB1.out.trans (HB2.out.mono HB1.out.size))
          rcases HS.out with ⟨ns, rfl⟩ | ⟨ns, tq', pq', rfl⟩
          · have h := HR.out
            rw [ns, HNO.out] at h
            replace h : R = -1 := h
            clear ns
            subst h
            go_wp2_with fail
            go_ret
            exact ⟨rfl, HB3.out⟩
          · have h := HR.out
            rw [ns, HNO.out] at h
            replace h : R = if Op.bytesLess o.toList s.toList then 1 else -1 := h
            clear ns
            cases hb : Op.bytesLess o.toList s.toList with
            | true =>
              rw [hb, if_pos rfl] at h
              subst h
              have hls : Op.bytesLess s.toList o.toList = false := Vals.less_asymm hb
              go_wp2_with fail
              go_ret
              exact ⟨rfl, HB3.out⟩
            | false =>
              rw [hb, if_neg (by simp)] at h
              subst h
              have hls : Op.bytesLess s.toList o.toList = true := Vals.not_leq (by rw [hb, Bool.false_or, beq_eq_false_iff_ne]; exact fun e => h1 e.symm)
              go_wp2_with fail
              go_ret
              exact ⟨rfl, HB3.out⟩
end Go.Proofs.YtmoilbhkjmhoaaaDoor.Sv
