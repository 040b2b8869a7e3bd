/- Walks of spec.Shown and spec.ShownAll. -/
import Derived.Test.YtkikkeegdooenaaGreatDoorValSq
namespace Go.Proofs.YtkikkeegdooenaaGreatDoor.Vals
open Go.RowKit Go.ChangeMaps Go.Proofs.YtkikkeegdooenaaGreatDoorW.PrintWords Go.Proofs.YtkikkeegdooenaaGreatDoor.Txt Go.Proofs.YtkikkeegdooenaaGreatDoor.Giv
set_option linter.unusedVariables false
set_option maxRecDepth 20000

/-- A text, and whether there is one. -/
def ShownIs (v : V) (w : World) (e : Ending) (w' : World) : Prop := e = .returned (.tuple #[.string (if v.k = 0 then ⟨#[]⟩ else shownT v), .bool (decide (v.k ≠ 0))]) ∧ Below w.heap.size w w'
theorem whole_calls (n : Int) (h0 : -9223372036854775808 ≤ n) (h1 : n ≤ 9223372036854775807) (W : World) : Calls Tryz.prog 26 #[.int .i64 n] W (TextIs (itoaB n) W) := by
  obtain ⟨k, hk⟩ := Ev.rounds (Pure.whole_ev n h0 h1)
  exact PFnSquote.spec_whole.calls k n _ W hk
set_option maxHeartbeats 1000000 in
theorem shown_walk (v : V) (hs : Simp v) (kv lv : Value) (w : World) :
    Calls Tryz.prog 20 #[.agg #[.int .i64 v.k, .int .i64 v.n, .float .f64 v.r, .string v.t, kv, lv]] w (ShownIs v w) := by
  have HBX : Hid (∀ o, Below w.heap.size w (w.alloc o)) := Lib.hid fun o => (Below.refl _ _).alloc (Nat.le_refl _) o
  obtain ⟨k, n, r, t, ks, l⟩ := v
  obtain ⟨h64, _, hd⟩ := hs
  unfold I64 at h64
  unfold ShownIs shownT
  simp only [V.k, V.n, V.r, V.t] at h64 hd ⊢
  have HW := Lib.hid (fun W => whole_calls n (by omega) (by omega) W)
  clear h64
  rcases hd with rfl | ⟨rfl, hn⟩ | rfl | rfl | rfl
  · go_enter Tryz.func20, Tryz.ntmps20
    go_wp2_with fail
    go_ret2
    exact ⟨rfl, HBX.out _⟩
  · rcases hn with rfl | rfl
    · go_enter Tryz.func20, Tryz.ntmps20
      go_wp2_with fail
      go_ret2
      exact ⟨rfl, HBX.out _⟩
    · go_enter Tryz.func20, Tryz.ntmps20
      go_wp2_with fail
      go_ret2
      exact ⟨rfl, HBX.out _⟩
  · go_enter Tryz.func20, Tryz.ntmps20
    go_wp2_with fail
    refine (HW.out _).mono ?_
    rintro e w1 ⟨rfl, hb⟩
    have HB := Lib.hid ((HBX.out _).trans (hb.mono (HBX.out _).size))
    clear hb
    go_wp2_with fail
    go_ret2
    exact ⟨rfl, HB.out⟩
  · go_enter Tryz.func20, Tryz.ntmps20
    go_wp2_with fail
    refine (HW.out _).mono ?_
    rintro e w1 ⟨rfl, hb⟩
    have HB := Lib.hid ((HBX.out _).trans (hb.mono (HBX.out _).size))
    clear hb
    go_wp2_with fail
    go_ret2
    exact ⟨rfl, HB.out⟩
  · go_enter Tryz.func20, Tryz.ntmps20
    go_wp2_with fail
    go_ret2
    exact ⟨rfl, HBX.out _⟩
set_option maxHeartbeats 4000000 in
theorem shownAll_walk (l : List V) (h20 : l.length ≤ 1000) (hs : ∀ v ∈ l, Simp v) (A : Option Addr) (c : Nat) (xs : List Value) (P : Nat → Prop) (w : World)
    (hl : RowIs w P 6 (.slice A l.length c) l.length xs) (hv : IsVs w P l xs) :
    Calls Tryz.prog 12 #[.slice A l.length c] w (StrsRes (shownL l) w) := by
  have HEL := Lib.hid (IsVs.elem hl hv)
  have HSI := Lib.hid hs
  obtain ⟨hnc, hcm⟩ := hl.sizes
  unfold maxLen at hcm
  clear hl hv hs
  obtain ⟨n, hn⟩ : ∃ n, n = l.length := ⟨_, rfl⟩
  rw [← hn] at hnc h20 ⊢
  have HN := Lib.hid hn
  clear hn
  obtain ⟨j0, hj0, hz⟩ := Option.map_eq_some_iff.1 infoStrS
  simp only [Prod.mk.injEq] at hz
  obtain ⟨jz0, jz1, jz2⟩ := hz
  have hstart : (w.alloc (.cells #[] 9)).ownsRow w.heap.size 9 1 (.slice (some ⟨w.heap.size, 0, none⟩) 0 0) 0 [] := World.ownsRow_made w #[] 0 (Nat.le_refl _) (by unfold maxLen; omega) (by simp)
  have HST := Lib.hid hstart
  clear hstart
  go_enter Tryz.func12, Tryz.ntmps12
  go_wp2_with fail
  go_loopg [3, 10] n (fun kq v3 v10 wr => ∃ (i m cap g : Nat), v10 = .int .i64 (i : Int) ∧ v3 = .slice (some ⟨g, 0, none⟩) m cap ∧ i + kq = n ∧ m = (shownL (l.take i)).length ∧ Hid (wr.ownsRow w.heap.size 9 1 (.slice (some ⟨g, 0, none⟩) m cap) m ((shownL (l.take i)).map Value.string)) ∧ Hid (Below w.heap.size w wr))
  case atStart =>
    exact ⟨0, 0, 0, w.heap.size, rfl, rfl, by omega, rfl, HST, Lib.hid ((Below.refl _ _).alloc (Nat.le_refl _) _)⟩
  case round =>
    obtain ⟨i, m, cap, g, rfl, rfl, hik, hm, HO, HB⟩ := hrel
    cases gk with
    | zero =>
      have hni : ¬ i < n := by omega
      have HIN := Lib.hid hik
      have HM := Lib.hid hm
      clear hik hm
      go_wp2_with fail
      go_ret
      have e : l.take i = l := List.take_of_length_le (by have := HN.out; have := HIN.out; omega)
      have hm := HM.out
      have ho := HO.out
      rw [e] at hm ho
      refine ⟨g, cap, by rw [← hm]; rfl, Lib.hid ?_, HB⟩
      rw [← hm]; exact ho
    | succ mm =>
      have hi : i < n := by omega
      have hil : i < l.length := by have := HN.out; omega
      have hmi : m ≤ i := by
        have := shownL_len (l.take i)
        rw [List.length_take] at this
        omega
      obtain ⟨b, o, kv, lv, hA, hbs, _, hI, e0, e1, e2, e3, e4, e5⟩ := HEL.out i hil
      subst hA
      obtain ⟨u, hu⟩ : ∃ u, u = l[i] := ⟨_, rfl⟩
      rw [← hu] at hI e0 e1 e2 e3
      have hcw : ∀ j, wr.cell? ⟨b, j, none⟩ = w.cell? ⟨b, j, none⟩ := fun j => HB.out.cell (p := ⟨b, j, none⟩) hbs
      have g0 := (hcw (o + i * 6)).trans e0
      have g1 := (hcw (o + i * 6 + 1)).trans e1
      have g2 := (hcw (o + i * 6 + 2)).trans e2
      have g3 := (hcw (o + i * 6 + 3)).trans e3
      have g4 := (hcw (o + i * 6 + 4)).trans e4
      have g5 := (hcw (o + i * 6 + 5)).trans e5
      have htk : l.take (i + 1) = l.take i ++ [u] := by rw [List.take_succ_eq_append_getElem hil, hu]
      have HTK := Lib.hid htk
      have HCALL := Lib.hid (shown_walk u (HSI.out u (by rw [hu]; exact List.getElem_mem _)) kv lv wr)
      have HIK := Lib.hid hik
      have HM := Lib.hid hm
      clear hcw e0 e1 e2 e3 e4 e5 hI hu hik hm hbs htk
      go_wp2_with fail
      refine (HCALL.out).mono ?_
      rintro e w1 ⟨rfl, hb1⟩
      have HB1 := Lib.hid (HB.out.trans (hb1.mono HB.out.size))
      have HO1 : Hid (w1.ownsRow w.heap.size 9 1 (.slice (some ⟨g, 0, none⟩) m cap) m ((shownL (l.take i)).map Value.string)) := Lib.hid (World.ownsRow.kept (w := wr) HO.out (grown_of_below hb1 none) (by simp [Value.ownBlock]))
      have HS1 := Lib.hid HB1.out.size
      clear hb1
      by_cases hk : u.k = 0
      · have hkd : decide (u.k ≠ 0) = false := by simp [hk]
        have HK := Lib.hid hk
        rw [hkd]
        clear hk hkd
        go_wp2_with fail
        go_roundg mm
        case measure => exact Nat.lt_succ_self mm
        case rel =>
          refine ⟨i + 1, m, cap, g, by simp, rfl, by have := HIK.out; omega, ?_, Lib.hid ?_, HB1⟩
          · rw [HTK.out, shownL_snoc, if_pos HK.out, List.append_nil]; exact HM.out
          · rw [HTK.out, shownL_snoc, if_pos HK.out, List.append_nil]; exact HO1.out
      · have hkd : decide (u.k ≠ 0) = true := by simp [hk]
        have HK := Lib.hid hk
        rw [hkd, if_neg hk]
        obtain ⟨s, hs⟩ : ∃ s, s = shownT u := ⟨_, rfl⟩
        rw [← hs]
        have HS := Lib.hid hs
        clear hk hkd hs
        go_wp2_with (at_builtin; go_must (refine wpList_append_lies _ rfl _ _ 23 rfl w.heap.size 9 j0 _ 1 16 Tryz.underlying23 hj0 jz0 jz1 jz2 rfl (by decide) (.slice (some ⟨g, 0, none⟩) m cap) m ((shownL (l.take i)).map Value.string) rfl (HO1.out.alloc _) ⟨w1.heap.size, 0, none⟩ 1 1 [.string s] rfl rfl (news_cells _ _ _) (one_str rfl) (by decide) (by unfold maxLen; omega) (by omega) (by have := HS1.out; simp; omega) _ rfl ?_); intro g2 cap2 w2 hown2 hgrow hat hlt; refine Hid.out ?_)
        refine Lib.hid ?_
        have HZ := Lib.hid (And.intro hown2 (And.intro hgrow hat))
        clear hown2 hgrow hat hlt
        go_wp2_with fail
        go_roundg mm
        case measure => exact Nat.lt_succ_self mm
        case rel =>
          obtain ⟨hown2, hgrow, hat⟩ := HZ.out
          refine ⟨i + 1, m + 1, cap2, g2, by simp, rfl, by have := HIK.out; omega, ?_, Lib.hid ?_, Lib.hid ?_⟩
          · rw [HTK.out, shownL_snoc, if_neg HK.out, List.length_append, ← HM.out]; rfl
          · rw [HTK.out, shownL_snoc, if_neg HK.out, List.map_append, ← HS.out]
            exact hown2
          · exact (HB1.out.alloc HS1.out _).grown hgrow (by simp; have := HS1.out; omega) (fun k hk => (HO1.out.lt k hk).1)
end Go.Proofs.YtkikkeegdooenaaGreatDoor.Vals
