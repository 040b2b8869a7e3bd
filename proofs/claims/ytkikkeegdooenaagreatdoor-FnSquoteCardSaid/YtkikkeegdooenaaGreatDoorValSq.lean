/- Walks of sprig's zzText (of a bool, a whole number, a text), squote, Squote, and of impl.Squote. -/
import Derived.Test.YtkikkeegdooenaaGreatDoorValSp
import Derived.Test.YtkikkeegdooenaaGreatDoorSquoPl
namespace Go.Proofs.YtkikkeegdooenaaGreatDoor.Vals
open Go.RowKit Go.ChangeMaps Go.Proofs.YtkikkeegdooenaaGreatDoorW.PrintWords Go.Proofs.YtkikkeegdooenaaGreatDoor.Txt Go.Proofs.YtkikkeegdooenaaGreatDoor.Giv
set_option linter.unusedVariables false
set_option maxRecDepth 20000

/-- What FnSquote looks at: nil, a bool, a whole number, a text. -/
def Simp (v : V) : Prop := I64 v.n ∧ v.t.size ≤ 500 ∧ (v.k = 0 ∨ (v.k = 1 ∧ (v.n = 0 ∨ v.n = 1)) ∨ v.k = 2 ∨ v.k = 3 ∨ v.k = 5)
/-- How it is written. -/
def shownT (v : V) : ByteArray := if v.k = 1 then (if v.n = 1 then ⟨#[116, 114, 117, 101]⟩ else ⟨#[102, 97, 108, 115, 101]⟩) else if v.k = 5 then v.t else itoaB v.n
/-- How those that are not nil are written. -/
def shownL (l : List V) : List ByteArray := (l.filter fun v => decide (v.k ≠ 0)).map shownT
/-- In apostrophes. -/
def quoT (s : ByteArray) : ByteArray := (⟨#[39]⟩ : ByteArray) ++ s ++ (⟨#[39]⟩ : ByteArray)
theorem shown_size {v : V} (h : Simp v) : (shownT v).size ≤ 500 := by
  obtain ⟨h1, h2, _⟩ := h
  unfold shownT
  split
  · split <;> decide
  · split
    · exact h2
    · have := Lib.itoa_length_le v.n (by unfold I64 at h1; omega) (by unfold I64 at h1; omega)
      have e : (itoaB v.n).size = (Lib.itoa v.n).length := by unfold itoaB; simp [ByteArray.size]
      omega
set_option maxHeartbeats 1000000 in
theorem goOf_simp (v : V) (h : Simp v) : GoOfOk v := by
  intro kv lv P w hi
  obtain ⟨xs, hk, hl, hv, _, _, ht, _⟩ := hi.parts
  obtain ⟨A, c, rfl, hnc, hcm, _⟩ := hk.form
  obtain ⟨A', c', rfl, hnc', hcm', _⟩ := hl.form
  have HBX : Hid (∀ o, Below w.heap.size w (w.alloc o)) := Lib.hid fun o => (Below.refl _ _).alloc (Nat.le_refl _) o
  obtain ⟨k, n, r, t, ks, l⟩ := v
  obtain ⟨_, _, h⟩ := h
  simp only [V.k, V.n, V.r, V.t, V.ks, V.l] at hi hk hl hv ht hnc hnc' h ⊢
  clear hi hk hl hv
  rcases h with rfl | ⟨rfl, h⟩ | rfl | rfl | rfl
  · go_enter Tryz.func24, Tryz.ntmps24
    go_wp2_with fail
    go_ret2
    exact ⟨_, rfl, Lib.hid (by unfold GoV; exact .inl ⟨rfl, rfl⟩), Lib.hid (HBX.out _)⟩
  · clear h
    go_enter Tryz.func24, Tryz.ntmps24
    go_wp2_with fail
    go_ret2
    exact ⟨_, rfl, Lib.hid (by unfold GoV; exact .inr (.inl ⟨rfl, rfl⟩)), Lib.hid (HBX.out _)⟩
  · go_enter Tryz.func24, Tryz.ntmps24
    go_wp2_with fail
    go_ret2
    exact ⟨_, rfl, Lib.hid (by unfold GoV; exact .inr (.inr (.inl ⟨rfl, rfl⟩))), Lib.hid (HBX.out _)⟩
  · go_enter Tryz.func24, Tryz.ntmps24
    go_wp2_with fail
    go_ret2
    exact ⟨_, rfl, Lib.hid (by unfold GoV; exact .inr (.inr (.inr (.inl ⟨rfl, rfl⟩)))), Lib.hid (HBX.out _)⟩
  · go_enter Tryz.func24, Tryz.ntmps24
    go_wp2_with fail
    go_ret2
    exact ⟨_, rfl, Lib.hid (by unfold GoV; exact .inr (.inr (.inr (.inr (.inr (.inl ⟨rfl, rfl⟩)))))), Lib.hid (HBX.out _)⟩
theorem GoV.simp_form {w : World} {P : Nat → Prop} {v : V} {x : Value} (h : GoV w P v x) (hs : Simp v) : (v.k = 0 ∧ x = .nilIface) ∨ (v.k = 1 ∧ x = .iface 4 (.bool (v.n == 1)) ∧ (v.n = 0 ∨ v.n = 1)) ∨ (v.k = 2 ∧ x = .iface 3 (.int .i64 v.n)) ∨ (v.k = 3 ∧ x = .iface 2 (.int .i64 v.n)) ∨ (v.k = 5 ∧ x = .iface 9 (.string v.t)) := by
  obtain ⟨k, n, r, t, ks, l⟩ := v
  obtain ⟨_, _, hs⟩ := hs
  unfold GoV at h
  simp only [V.k, V.n, V.t] at hs ⊢
  rcases h with h | ⟨h0, h⟩ | h | h | ⟨h0, _⟩ | h | ⟨h0, _⟩ | ⟨h0, _⟩
  · exact .inl h
  · exact .inr (.inl ⟨h0, h, by omega⟩)
  · exact .inr (.inr (.inl h))
  · exact .inr (.inr (.inr (.inl h)))
  · omega
  · exact .inr (.inr (.inr (.inr h)))
  · omega
  · omega
def TextIs (s : ByteArray) (w : World) (e : Ending) (w' : World) : Prop := e = .returned (.string s) ∧ Below w.heap.size w w'
set_option maxHeartbeats 1000000 in
theorem zzText_bool (b : Bool) (w : World) : Calls Tryz.prog 33 #[.iface 4 (.bool b)] w (TextIs (if b = true then ⟨#[116, 114, 117, 101]⟩ else ⟨#[102, 97, 108, 115, 101]⟩) w) := by
  obtain ⟨s, hs⟩ : ∃ s : ByteArray, s = (if b = true then ⟨#[116, 114, 117, 101]⟩ else ⟨#[102, 97, 108, 115, 101]⟩) := ⟨_, rfl⟩
  rw [← hs]
  have HF := Lib.hid (PFnSquote.strconv_FormatBool_40.calls b s w (by rw [hs]; cases b <;> rfl))
  clear hs
  have hta : ∀ w, (Instr.typeAssert (.iface 4 (.bool b)) 20 4 true).run Tryz.prog w = .ok (.tuple #[.bool b, .bool true]) w := fun w => by kernel_rfl
  go_enter Tryz.func33, Tryz.ntmps33
  go_wp2_with fail
  refine HF.out.mono ?_
  rintro e w1 ⟨rfl, hd⟩
  have HB := Lib.hid hd.below
  clear hd
  go_wp2_with fail
  go_ret
  exact ⟨rfl, HB.out⟩
set_option maxHeartbeats 1000000 in
theorem zzText_int (n : Int) (h0 : -9223372036854775808 ≤ n) (h1 : n ≤ 9223372036854775807) (w : World) (T : Pow10 w) : Calls Tryz.prog 33 #[.iface 3 (.int .i64 n)] w (TextIs (itoaB n) w) := by
  have HF := Lib.hid (itoa_walk n h0 h1 w T)
  clear T
  have hta1 : ∀ w, (Instr.typeAssert (.iface 3 (.int .i64 n)) 20 4 true).run Tryz.prog w = .ok (.tuple #[.bool false, .bool false]) w := fun w => by kernel_rfl
  have hta : ∀ w, (Instr.typeAssert (.iface 3 (.int .i64 n)) 20 3 true).run Tryz.prog w = .ok (.tuple #[.int .i64 n, .bool true]) w := fun w => by kernel_rfl
  go_enter Tryz.func33, Tryz.ntmps33
  go_wp2_with fail
  refine HF.out.mono ?_
  rintro e w1 ⟨rfl, hb⟩
  have HB := Lib.hid hb
  clear hb
  go_wp2_with fail
  go_ret
  exact ⟨rfl, HB.out⟩
set_option maxHeartbeats 1000000 in
theorem zzText_int64 (n : Int) (h0 : -9223372036854775808 ≤ n) (h1 : n ≤ 9223372036854775807) (w : World) (T : Pow10 w) : Calls Tryz.prog 33 #[.iface 2 (.int .i64 n)] w (TextIs (itoaB n) w) := by
  have HF := Lib.hid (Tryz.strconv_FormatInt_10 n h0 h1 w T)
  clear T
  have hta1 : ∀ w, (Instr.typeAssert (.iface 2 (.int .i64 n)) 20 4 true).run Tryz.prog w = .ok (.tuple #[.bool false, .bool false]) w := fun w => by kernel_rfl
  have hta2 : ∀ w, (Instr.typeAssert (.iface 2 (.int .i64 n)) 20 3 true).run Tryz.prog w = .ok (.tuple #[.int .i64 0, .bool false]) w := fun w => by kernel_rfl
  have hta : ∀ w, (Instr.typeAssert (.iface 2 (.int .i64 n)) 20 2 true).run Tryz.prog w = .ok (.tuple #[.int .i64 n, .bool true]) w := fun w => by kernel_rfl
  go_enter Tryz.func33, Tryz.ntmps33
  go_wp2_with fail
  refine HF.out.mono ?_
  rintro e w1 ⟨rfl, k, os, rfl⟩
  have HB := Lib.hid (Lib.below_grow w.heap.size w (Nat.le_refl _) k os)
  go_wp2_with fail
  go_ret
  exact ⟨rfl, HB.out⟩
set_option maxHeartbeats 1000000 in
theorem zzText_text (s : ByteArray) (w : World) : Calls Tryz.prog 33 #[.iface 9 (.string s)] w (TextIs s w) := by
  have hta1 : ∀ w, (Instr.typeAssert (.iface 9 (.string s)) 20 4 true).run Tryz.prog w = .ok (.tuple #[.bool false, .bool false]) w := fun w => by kernel_rfl
  have hta2 : ∀ w, (Instr.typeAssert (.iface 9 (.string s)) 20 3 true).run Tryz.prog w = .ok (.tuple #[.int .i64 0, .bool false]) w := fun w => by kernel_rfl
  have hta3 : ∀ w, (Instr.typeAssert (.iface 9 (.string s)) 20 2 true).run Tryz.prog w = .ok (.tuple #[.int .i64 0, .bool false]) w := fun w => by kernel_rfl
  have hta4 : ∀ w, (Instr.typeAssert (.iface 9 (.string s)) 20 40 true).run Tryz.prog w = .ok (.tuple #[.float .f64 0, .bool false]) w := fun w => by kernel_rfl
  have hta : ∀ w, (Instr.typeAssert (.iface 9 (.string s)) 20 9 true).run Tryz.prog w = .ok (.tuple #[.string s, .bool true]) w := fun w => by kernel_rfl
  go_enter Tryz.func33, Tryz.ntmps33
  go_wp2_with fail
  go_ret
  exact ⟨rfl, Below.refl _ _⟩
theorem zzText_walk {v : V} {x : Value} {P : Nat → Prop} {w0 : World} (hs : Simp v) (hg : GoV w0 P v x) (hk : v.k ≠ 0) (w : World) (T : Pow10 w) : Calls Tryz.prog 33 #[x] w (TextIs (shownT v) w) := by
  have h64 := hs.1
  unfold I64 at h64
  rcases hg.simp_form hs with ⟨h0, _⟩ | ⟨h0, rfl, hb⟩ | ⟨h0, rfl⟩ | ⟨h0, rfl⟩ | ⟨h0, rfl⟩
  · exact absurd h0 hk
  · have := zzText_bool (v.n == 1) w
    unfold shownT
    rw [if_pos h0]
    rcases hb with hb | hb <;> rw [hb] at this ⊢ <;> exact this
  · unfold shownT
    rw [if_neg (by omega), if_neg (by omega)]
    exact zzText_int v.n (by omega) (by omega) w T
  · unfold shownT
    rw [if_neg (by omega), if_neg (by omega)]
    exact zzText_int64 v.n (by omega) (by omega) w T
  · unfold shownT
    rw [if_neg (by omega), if_pos h0]
    exact zzText_text v.t w

theorem shownL_snoc (l : List V) (v : V) : shownL (l ++ [v]) = shownL l ++ (if v.k = 0 then [] else [shownT v]) := by
  unfold shownL
  rw [List.filter_append, List.map_append]
  congr 1
  by_cases h : v.k = 0
  · rw [if_pos h]; simp [h]
  · rw [if_neg h]; simp [h]
theorem shownL_len (l : List V) : (shownL l).length ≤ l.length := by
  unfold shownL
  rw [List.length_map]
  exact List.length_filter_le _ _
/-- What squote puts together. -/
def quoL (l : List V) : List ByteArray := (shownL l).map quoT
theorem quoL_snoc (l : List V) (v : V) : quoL (l ++ [v]) = quoL l ++ (if v.k = 0 then [] else [quoT (shownT v)]) := by
  unfold quoL
  rw [shownL_snoc, List.map_append]
  congr 1
  split <;> rfl
theorem quoL_len (l : List V) : (quoL l).length ≤ l.length := by
  unfold quoL
  rw [List.length_map]
  exact shownL_len l
def sp : ByteArray := ⟨#[32]⟩
set_option maxHeartbeats 4000000 in
theorem squote_walk (l : List V) (h20 : l.length ≤ 1000) (hs : ∀ v ∈ l, Simp v) (hj : (joinT (quoL l) ⟨#[32]⟩).size ≤ 140737488355328) (a : Addr) (c : Nat) (xs : List Value) (P : Nat → Prop) (w : World) (T : Pow10 w)
    (hl : RowIs w P 1 (.slice (some a) l.length c) l.length xs) (hv : GoVs w P l xs) :
    Calls Tryz.prog 27 #[.slice (some a) l.length c] w (TextIs (joinT (quoL l) ⟨#[32]⟩) w) := by
  have hel : ∀ i (hi : i < l.length), ∃ b o x, a = ⟨b, o, none⟩ ∧ b < w.heap.size ∧ w.cell? ⟨b, o + i, none⟩ = some x ∧ GoV w P l[i] x := fun i hi => by
    obtain ⟨b, o, hA, _, hc⟩ := hl.elem (by omega)
    obtain ⟨x, hx, hg⟩ := hv.at_ i hi
    have := hc i _ hx
    exact ⟨b, o, x, by injection hA, World.block_lt_of_cell? w _ this, this, hg⟩
  have HEL := Lib.hid hel
  have HSI := Lib.hid hs
  have HT := Lib.hid T
  have HJS := Lib.hid hj
  clear hl hv hel hs T hj
  obtain ⟨n, hn⟩ : ∃ n, n = l.length := ⟨_, rfl⟩
  rw [← hn] at h20 ⊢
  have HN := Lib.hid hn
  clear hn
  have hmk := fun W => run_make_room (P := Tryz.prog) 23 9 (.string ⟨#[]⟩) 16 Tryz.underlying23 infoStrS rfl .i64 .i64 n (by omega) (by omega) W
  obtain ⟨j0, hj0, hz⟩ := Option.map_eq_some_iff.1 infoStrS
  simp only [Prod.mk.injEq] at hz
  obtain ⟨jz0, jz1, jz2⟩ := hz
  go_enter Tryz.func27, Tryz.ntmps27
  go_wp2_with fail
  go_loopg [3, 5, 11] n (fun kq v3 v5 v11 wr => ∃ (i m cap g : Nat), v11 = .int .i64 (i : Int) ∧ v3 = .slice (some ⟨g, 0, none⟩) m cap ∧ i + kq = n ∧ m = (quoL (l.take i)).length ∧ Hid (wr.ownsRow w.heap.size 9 1 (.slice (some ⟨g, 0, none⟩) m cap) m ((quoL (l.take i)).map Value.string)) ∧ Hid (Below w.heap.size w wr))
  case atStart =>
    exact ⟨0, 0, n, w.heap.size, rfl, rfl, by omega, rfl, Lib.hid (World.ownsRow_made w _ _ (Nat.le_refl _) (by unfold maxLen; omega) (by simp [size_madeCells])), Lib.hid ((Below.refl _ _).alloc (Nat.le_refl _) _)⟩
  case round =>
    obtain ⟨i, m, cap, g, rfl, rfl, hik, hm, HO, HB⟩ := hrel
    cases gk with
    | zero =>
      have hin : i = n := by omega
      have hni : ¬ (i : Int) < (n : Int) := by omega
      have hJ : Calls Tryz.prog 31 #[.slice (some ⟨g, 0, none⟩) m cap, .string ⟨#[32]⟩] wr fun e w' => e = .returned (.string (joinT (quoL l) ⟨#[32]⟩)) ∧ Below wr.heap.size wr w' := by
        have ho := HO.out
        have e : l.take i = l := List.take_of_length_le (by have := HN.out; omega)
        rw [e] at hm ho
        rw [hm] at ho ⊢
        exact stringsJoin_walk (quoL l) ⟨#[32]⟩ (by have := quoL_len l; have := HN.out; omega) HJS.out g cap _ wr ho
      have HJ := Lib.hid hJ
      clear hin hik hm hJ
      go_wp2_with fail
      refine HJ.out.mono ?_
      rintro e w2 ⟨rfl, hb2⟩
      have HB2 := Lib.hid (HB.out.trans (hb2.mono HB.out.size))
      clear hb2
      go_wp2_with fail
      go_ret
      exact ⟨rfl, HB2.out⟩
    | succ mm =>
      have hin : i < n := by omega
      have hi' : i < l.length := by have := HN.out; omega
      have HIK := Lib.hid hik
      clear hik
      have hmi : m ≤ i := by
        have := quoL_len (l.take i)
        rw [List.length_take] at this
        omega
      have HM := Lib.hid hm
      clear hm
      obtain ⟨eb, eo, x, rfl, hebs, e0, hg⟩ := HEL.out i hi'
      obtain ⟨v, hx⟩ : ∃ v, v = l[i] := ⟨_, rfl⟩
      rw [← hx] at hg
      have hc : wr.cell? ⟨eb, eo + i, none⟩ = some x := (HB.out.cell (p := ⟨eb, eo + i, none⟩) hebs).trans e0
      have hsv : Simp v := HSI.out v (by rw [hx]; exact List.getElem_mem _)
      have htk : l.take (i + 1) = l.take i ++ [v] := by rw [List.take_succ_eq_append_getElem hi', hx]
      have HTK := Lib.hid htk
      have hii0 : (0 : Int) ≤ (i : Int) := by omega
      have hiin : (i : Int) < (n : Int) := by omega
      clear hx e0 htk
      by_cases hk : v.k = 0
      · have hxn : x = .nilIface := by
          rcases hg.simp_form hsv with ⟨_, h⟩ | ⟨h0, _⟩ | ⟨h0, _⟩ | ⟨h0, _⟩ | ⟨h0, _⟩
          · exact h
          all_goals omega
        subst hxn
        have HK := Lib.hid hk
        clear hg hsv hk
        go_wp2_with fail
        go_roundg mm
        case measure => exact Nat.lt_succ_self mm
        case rel =>
          refine ⟨i + 1, m, cap, g, by simp, rfl, by have := HIK.out; omega, ?_, Lib.hid ?_, HB⟩
          · rw [HTK.out, quoL_snoc, if_pos HK.out, List.append_nil]; exact HM.out
          · rw [HTK.out, quoL_snoc, if_pos HK.out, List.append_nil]; exact HO.out
      · obtain ⟨ty, y, hxi⟩ : ∃ ty y, x = .iface ty y := by
          rcases hg.simp_form hsv with ⟨h0, _⟩ | ⟨_, h, _⟩ | ⟨_, h⟩ | ⟨_, h⟩ | ⟨_, h⟩
          · exact absurd h0 hk
          all_goals exact ⟨_, _, h⟩
        have HZT := Lib.hid (zzText_walk hsv hg hk wr (HT.out.below HB.out))
        subst hxi
        have hss := shown_size hsv
        obtain ⟨s, hs⟩ : ∃ s, s = shownT v := ⟨_, rfl⟩
        rw [← hs] at HZT hss
        have HS := Lib.hid hs
        have HK := Lib.hid hk
        have c1 : (9223372036854775807 < 1 + s.size) = False := eq_false (by omega)
        have c2 : (9223372036854775807 < 1 + s.size + 1) = False := eq_false (by omega)
        clear hs hk hg hsv
        go_wp2_with fail
        refine HZT.out.mono ?_
        rintro e w1 ⟨rfl, hb1⟩
        have HB1 := Lib.hid (HB.out.trans (hb1.mono HB.out.size))
        have HO1 : Hid (w1.ownsRow w.heap.size 9 1 (.slice (some ⟨g, 0, none⟩) m cap) m ((quoL (l.take i)).map Value.string)) := Lib.hid (World.ownsRow.kept (w := wr) HO.out (grown_of_below hb1 none) (by simp [Value.ownBlock]))
        have HS1 := Lib.hid HB1.out.size
        clear hb1
        go_wp2_with (at_builtin; go_must (refine wpList_append_lies _ rfl _ _ 23 rfl w.heap.size 9 j0 _ 1 16 Tryz.underlying23 hj0 jz0 jz1 jz2 rfl (by decide) (.slice (some ⟨g, 0, none⟩) m cap) m ((quoL (l.take i)).map Value.string) rfl (HO1.out.alloc _) ⟨w1.heap.size, 0, none⟩ 1 1 [.string (quoT s)] rfl rfl (news_cells _ _ _) (one_str rfl) (by decide) (by unfold maxLen; omega) (by omega) (by have := HS1.out; simp; omega) _ rfl ?_); intro g2 cap2 w2 hown2 hgrow hat hlt; refine Hid.out ?_)
        refine Lib.hid ?_
        have HZ := Lib.hid (And.intro hown2 (And.intro hgrow hat))
        clear hown2 hgrow hat hlt
        go_wp2_with fail
        go_roundg mm
        case measure => exact Nat.lt_succ_self mm
        case rel =>
          obtain ⟨hown2, hgrow, hat⟩ := HZ.out
          refine ⟨i + 1, m + 1, cap2, g2, by simp, rfl, by have := HIK.out; omega, ?_, Lib.hid ?_, Lib.hid ?_⟩
          · rw [HTK.out, quoL_snoc, if_neg HK.out, List.length_append, ← HM.out]; rfl
          · rw [HTK.out, quoL_snoc, if_neg HK.out, List.map_append, ← HS.out]
            exact hown2
          · exact (HB1.out.alloc HS1.out _).grown hgrow (by simp; have := HS1.out; omega) (fun k hk => (HO1.out.lt k hk).1)
theorem sprigSquote_walk (l : List V) (h20 : l.length ≤ 1000) (hs : ∀ v ∈ l, Simp v) (hj : (joinT (quoL l) ⟨#[32]⟩).size ≤ 140737488355328) (a : Addr) (c : Nat) (xs : List Value) (P : Nat → Prop) (w : World) (T : Pow10 w)
    (hl : RowIs w P 1 (.slice (some a) l.length c) l.length xs) (hv : GoVs w P l xs) :
    Calls Tryz.prog 21 #[.slice (some a) l.length c] w (TextIs (joinT (quoL l) ⟨#[32]⟩) w) := by
  have HS := Lib.hid (squote_walk l h20 hs hj a c xs P w T hl hv)
  obtain ⟨n, hn⟩ : ∃ n, n = l.length := ⟨_, rfl⟩
  rw [← hn] at HS ⊢
  clear hl hv hn T hs hj
  go_enter Tryz.func21, Tryz.ntmps21
  go_wp2_with fail
  refine HS.out.mono ?_
  rintro e w1 ⟨rfl, HB⟩
  go_wp2_with fail
  go_ret
  exact ⟨rfl, HB⟩
set_option maxHeartbeats 1000000 in
theorem implSquote_walk (l : List V) (h20 : l.length ≤ 1000) (hs : ∀ v ∈ l, Simp v) (hj : (joinT (quoL l) ⟨#[32]⟩).size ≤ 140737488355328) (A : Option Addr) (c : Nat) (xs : List Value) (P : Nat → Prop) (w : World) (T : Pow10 w)
    (hl : RowIs w P 6 (.slice A l.length c) l.length xs) (hv : IsVs w P l xs) :
    Calls Tryz.prog 13 #[.slice A l.length c] w (TextIs (joinT (quoL l) ⟨#[32]⟩) w) := by
  have HG : Hid (Calls Tryz.prog 18 #[.slice A l.length c] w (GoListRes l w)) := Lib.hid (goList_step l (fun i hi => goOf_simp _ (hs _ (List.getElem_mem hi))) (by omega) A c xs P w hl hv)
  have HT := Lib.hid T
  have HS := Lib.hid (fun a cap ys Q W TW h1 h2 => sprigSquote_walk l h20 hs hj a cap ys Q W TW h1 h2)
  clear hl hv T hs hj
  obtain ⟨n, hn⟩ : ∃ n, n = l.length := ⟨_, rfl⟩
  rw [← hn]
  have HN := Lib.hid hn
  rw [← hn] at HG
  clear hn
  go_enter Tryz.func13, Tryz.ntmps13
  go_wp2_with fail
  refine HG.out.mono ?_
  rintro e w1 ⟨a, cap, ys, rfl, HX, HB⟩
  have HJ := Lib.hid (HS.out a cap ys _ w1 (HT.out.below HB.out) HX.out.1 HX.out.2)
  have HBS := Lib.hid HB.out.size
  rw [← HN.out] at HJ ⊢
  go_wp2_with fail
  refine HJ.out.mono ?_
  rintro e w2 ⟨rfl, hb⟩
  have HB2 := Lib.hid (HB.out.trans (hb.mono HBS.out))
  clear hb
  go_wp2_with fail
  go_ret
  exact ⟨rfl, HB2.out⟩
end Go.Proofs.YtkikkeegdooenaaGreatDoor.Vals
