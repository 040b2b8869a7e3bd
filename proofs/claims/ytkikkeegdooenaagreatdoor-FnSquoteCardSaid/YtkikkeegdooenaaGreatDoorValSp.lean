/- Walks of laws.values9 (texts as values), of impl.goOf of a text of any size, of sprig's strslice and Join over a list of texts, and of impl.Join. -/
import Derived.Test.YtkikkeegdooenaaGreatDoorValF
import Derived.Test.YtkikkeegdooenaaGreatDoorShelf
import Derived.Lib.JoinLaws
namespace Go.Proofs.YtkikkeegdooenaaGreatDoor.Vals
open Go.RowKit Go.ChangeMaps Go.Proofs.YtkikkeegdooenaaGreatDoorW.PrintWords Go.Proofs.YtkikkeegdooenaaGreatDoor.Txt
set_option linter.unusedVariables false
set_option maxRecDepth 20000

/-- A text as a value. -/
def txtV (s : ByteArray) : V := .mk 5 0 0 s [] []
theorem txt_isV (w : World) (P : Nat → Prop) (s : ByteArray) (hs : s.size ≤ maxLen) : IsV w P (txtV s) [.int .i64 5, .int .i64 0, .float .f64 0, .string s, .slice none 0 0, .slice none 0 0] := by
  unfold txtV IsV
  refine ⟨.slice none 0 0, .slice none 0 0, [], rfl, by unfold I64; omega, by unfold I64; omega, hs, fun x hx => by simp at hx, ?_, ?_, by unfold IsVs; rfl⟩
  · exact ⟨none, 0, rfl, by simp, by unfold maxLen; omega, by simp, fun h => by simp at h⟩
  · exact ⟨none, 0, rfl, by simp, by unfold maxLen; omega, by simp, fun h => by simp at h⟩
set_option maxHeartbeats 1000000 in
theorem goOf_text (s : ByteArray) : GoOfOk (txtV s) := by
  intro kv lv P w h
  obtain ⟨xs, hk, hl, hv, _, _, ht, _⟩ := h.parts
  obtain ⟨A, c, rfl, hnc, hcm, _⟩ := hk.form
  obtain ⟨A', c', rfl, hnc', hcm', _⟩ := hl.form
  have HBX : Hid (∀ o, Below w.heap.size w (w.alloc o)) := Lib.hid fun o => (Below.refl _ _).alloc (Nat.le_refl _) o
  unfold txtV at h hk hl hv ht hnc hnc' ⊢
  simp only [V.k, V.n, V.r, V.t, V.ks, V.l] at h hk hl hv ht hnc hnc' ⊢
  clear h hk hl hv
  go_enter Tryz.func24, Tryz.ntmps24
  go_wp2_with fail
  go_ret2
  exact ⟨_, rfl, Lib.hid (by unfold GoV; exact .inr (.inr (.inr (.inr (.inr (.inl ⟨rfl, rfl⟩)))))), Lib.hid (HBX.out _)⟩
theorem getD_str {w : World} {A : Option Addr} {n : Nat} {l : List ByteArray} (h : Kd.C Kd.string w A n l) (j : Nat) (hj : j < n) : ∃ ad, A = some ad ∧ w.cell? (ad.add j) = some (.string (l.getD j ⟨#[]⟩)) := by
  obtain ⟨ad, c, e, hs, hk, hc⟩ := Kd.C_get h ⟨#[]⟩ (j : Int) (by omega) (by omega)
  refine ⟨ad, e, ?_⟩
  have hk' : c = [Value.string (l.getD j ⟨#[]⟩)] := hk
  have := hc 0 (Value.string (l.getD j ⟨#[]⟩)) (by rw [hk']; rfl)
  have e1 : Kd.string.sz = 1 := rfl
  rw [Int.toNat_natCast, e1, Nat.mul_one, Nat.add_zero] at this
  exact this
theorem six_one {a b c d e f : Value} (ha : a.oneCell' = true) (hb : b.oneCell' = true) (hc : c.oneCell' = true) (hd : d.oneCell' = true) (he : e.oneCell' = true) (hf : f.oneCell' = true) : ∀ u ∈ ([a, b, c, d, e, f] : List Value), u.oneCell' = true := by
  intro u hu
  simp only [List.mem_cons, List.not_mem_nil, or_false] at hu
  rcases hu with rfl | rfl | rfl | rfl | rfl | rfl <;> assumption

def Vals9Res (l : List ByteArray) (w : World) (e : Ending) (w' : World) : Prop := ∃ A c ys, e = .returned (.slice A l.length c) ∧ Hid (RowIs w' (fun b => w.heap.size ≤ b) 6 (.slice A l.length c) l.length ys ∧ IsVs w' (fun b => w.heap.size ≤ b) (l.map txtV) ys) ∧ Hid (Below w.heap.size w w')
set_option maxHeartbeats 4000000 in
theorem values9_walk (l : List ByteArray) (h300 : l.length ≤ 100000) (hs : ∀ x ∈ l, x.size ≤ maxLen) (A : Option Addr) (c : Nat) (w : World) (hl : Kd.C Kd.string w A l.length l) :
    Calls Tryz.prog 10 #[.slice A l.length c] w (Vals9Res l w) := by
  obtain ⟨i0, hi0, hz0, hz1, hz2⟩ := info_parts valueInfo
  have HC := Lib.hid hl
  have HL := Lib.hid hs
  clear hl hs
  obtain ⟨n, hn⟩ : ∃ n, n = l.length := ⟨_, rfl⟩
  rw [← hn] at h300 HC ⊢
  have HN := Lib.hid hn
  clear hn
  obtain ⟨B, hB⟩ : ∃ B, B = w.heap.size := ⟨_, rfl⟩
  have HB := Lib.hid hB
  clear hB
  go_enter Tryz.func10, Tryz.ntmps10
  go_wp2_with fail
  go_loopg [3, 7] n (fun kq v3 v7 wr => ∃ (i : Nat) (G : Option Addr) (cap : Nat) (ys : List Value), v3 = .slice G i cap ∧ v7 = .int .i64 (i : Int) ∧ i + kq = n ∧
    Hid (wr.ownsRow B 42 6 (.slice G i cap) i ys) ∧ Hid (IsVs wr (fun b => B ≤ b ∧ G.map (·.block) ≠ some b) ((l.take i).map txtV) ys) ∧ Hid (Below B w wr))
  case atStart => exact ⟨0, none, 0, [], rfl, rfl, by omega, Lib.hid (World.ownsRow_nil _ _ _ _), Lib.hid (by simp only [List.take_zero, List.map_nil]; unfold IsVs; rfl), Lib.hid (Below.refl _ _)⟩
  case round =>
    obtain ⟨i, G, cap, ys, rfl, rfl, hik, H1, H2, H3⟩ := hrel
    cases gk with
    | zero =>
      have hi : ¬ i < n := by omega
      have HIN := Lib.hid hik
      clear hik
      go_wp2_with fail
      go_ret
      have hin : i = l.length := by have := HN.out; have := HIN.out; omega
      refine ⟨G, cap, ys, by rw [hin]; rfl, Lib.hid ⟨?_, ?_⟩, by rw [← HB.out]; exact H3⟩
      · have h := RowIs.of_own (P := fun b => w.heap.size ≤ b) H1.out (fun b hb => by have := (H1.out.lt b hb).1; rw [HB.out] at this; exact this)
        rw [← hin]; exact h
      · have h := H2.out
        rw [hin, List.take_length] at h
        exact IsVs.keep (Kept.mono (fun b hb _ => by rw [← HB.out]; exact hb.1)) _ h
    | succ m =>
      have hi : i < n := by omega
      have hi' : i < l.length := by have := HN.out; omega
      obtain ⟨ad, rfl, hc⟩ := getD_str (Kd.C_below HC.out (by rw [← HB.out]; exact H3.out)) i hi
      obtain ⟨u, hu⟩ : ∃ u, u = l[i] := ⟨_, rfl⟩
      have hgd : l.getD i ⟨#[]⟩ = u := by rw [hu, List.getD_eq_getElem?_getD, List.getElem?_eq_getElem hi']; rfl
      rw [hgd] at hc
      have HUM := Lib.hid (HL.out u (by rw [hu]; exact List.getElem_mem _))
      have hs0 := H3.out.size
      have HS1 := Lib.hid hs0
      have hc5 : B ≤ (wr.alloc (.cells #[.int .i64 5, .int .i64 0, .float .f64 0, .string u, .slice none 0 0, .slice none 0 0] 42)).heap.size := by have := HB.out; simp; omega
      have HC5 := Lib.hid hc5
      have HU := Lib.hid hu
      have HIK := Lib.hid hik
      clear hs0 hc5 hgd hu hik
      go_wp2_with (at_builtin; refine wpList_append_lies _ rfl _ _ 27 rfl B 42 i0 _ 6 88 Tryz.underlying27 hi0 hz0 hz1 hz2 rfl (by decide) (.slice G i cap) i ys rfl (H1.out.alloc _) ⟨wr.heap.size, 0, none⟩ 1 1 [.int .i64 5, .int .i64 0, .float .f64 0, .string u, .slice none 0 0, .slice none 0 0] rfl rfl (news_cells _ _ _) (six_one rfl rfl rfl rfl rfl rfl) (by decide) (by unfold maxLen; omega) (by omega) HC5.out _ rfl ?_; intro g' cap' w2 hown2 hgrow hat hlt; refine Hid.out ?_)
      refine Lib.hid ?_
      have HO2 := Lib.hid hown2
      have HG2 := Lib.hid hgrow
      have HAT := Lib.hid hat
      clear hown2 hgrow hat hlt
      go_wp2_with fail
      go_roundg m
      case measure => exact Nat.lt_succ_self m
      case rel =>
        have hob : (Value.slice G i cap).ownBlock = G.map (·.block) := by cases G <;> rfl
        have hat : G.map (·.block) = some g' ∨ g' = wr.heap.size + 1 := by
          rcases HAT.out with h | h
          · exact .inl (by rw [← hob]; exact h)
          · exact .inr (by rw [h]; simp)
        have hgB : ∀ g, G.map (·.block) = some g → B ≤ g := fun g hg => (H1.out.lt g (by rw [hob]; exact hg)).1
        have hne : ∀ b, b < wr.heap.size + 1 → G.map (·.block) ≠ some b → b ≠ g' := fun b hb h e => by
          rcases hat with h' | h'
          · exact h (by rw [h', e])
          · omega
        have k2 : Kept wr w2 (fun b => B ≤ b ∧ G.map (·.block) ≠ some b) (fun b => B ≤ b ∧ (some (⟨g', 0, none⟩ : Addr)).map (·.block) ≠ some b) := fun b ⟨hb1, hb2⟩ hb3 => by
          refine ⟨⟨hb1, fun e => hne b (by omega) hb2 (by simpa using e.symm)⟩, ?_⟩
          rw [HG2.out.block b (by simp; omega) (by rw [hob]; exact Ne.symm hb2), Below.heap_alloc _ _ _ (by omega)]
        refine ⟨i + 1, some ⟨g', 0, none⟩, cap', ys ++ [.int .i64 5, .int .i64 0, .float .f64 0, .string u, .slice none 0 0, .slice none 0 0], rfl, by simp, by have := HIK.out; omega, HO2, Lib.hid ?_, Lib.hid ?_⟩
        · rw [List.take_add_one, List.getElem?_eq_getElem hi', ← HU.out]
          simp only [Option.toList, List.map_append, List.map_cons, List.map_nil]
          exact IsVs.snoc (IsVs.keep k2 _ H2.out) (txt_isV _ _ u HUM.out)
        · have := HB.out
          exact (H3.out.alloc (by have := HS1.out; omega) _).grown HG2.out (by simp; have := HS1.out; omega) (fun k hk => hgB k (by rw [← hob]; exact hk))

theorem infoStrS : (Tryz.prog.info? 9).map (fun i => (i.zero, i.size, i.bytes)) = some (some (.string ⟨#[]⟩), 1, 16) := by kernel_rfl
theorem one_str {v : Value} (h : v.oneCell' = true) : ∀ u ∈ [v], u.oneCell' = true := fun u hu => by rw [List.mem_singleton.1 hu]; exact h
theorem strvalS_walk (s : ByteArray) (w : World) : Calls Tryz.prog 39 #[.iface 9 (.string s)] w fun e w' => e = .returned (.string s) ∧ w' = w := by
  have hta : ∀ w, (Instr.typeAssert (.iface 9 (.string s)) 20 9 true).run Tryz.prog w = .ok (.tuple #[.string s, .bool true]) w := fun w => by kernel_rfl
  go_enter Tryz.func39, Tryz.ntmps39
  go_wp2_with fail
  go_ret
  exact ⟨rfl, rfl⟩
theorem GoVs.txt_at {w : World} {P : Nat → Prop} {l : List ByteArray} {xs : List Value} (h : GoVs w P (l.map txtV) xs) (i : Nat) (hi : i < l.length) : xs[i]? = some (.iface 9 (.string l[i])) := by
  obtain ⟨x, hx, hg⟩ := h.at_ i (by simpa using hi)
  rw [List.getElem_map] at hg
  unfold txtV GoV at hg
  rcases hg with ⟨h0, _⟩ | ⟨h0, _⟩ | ⟨h0, _⟩ | ⟨h0, _⟩ | ⟨h0, _⟩ | ⟨_, rfl⟩ | ⟨h0, _⟩ | ⟨h0, _⟩
  case inr.inr.inr.inr.inr.inl => exact hx
  all_goals exact absurd h0 (by decide)
def StrsRes (l : List ByteArray) (w : World) (e : Ending) (w' : World) : Prop := ∃ g c, e = .returned (.slice (some ⟨g, 0, none⟩) l.length c) ∧ Hid (w'.ownsRow w.heap.size 9 1 (.slice (some ⟨g, 0, none⟩) l.length c) l.length (l.map Value.string)) ∧ Hid (Below w.heap.size w w')
set_option maxHeartbeats 4000000 in
theorem strslice_walk (l : List ByteArray) (h300 : l.length ≤ 100000) (a : Addr) (c : Nat) (xs : List Value) (P : Nat → Prop) (w : World)
    (hl : RowIs w P 1 (.slice (some a) l.length c) l.length xs) (hv : GoVs w P (l.map txtV) xs) :
    Calls Tryz.prog 32 #[.iface 36 (.slice (some a) l.length c)] w (StrsRes l w) := by
  have hel : ∀ i (hi : i < l.length), ∃ b o, a = ⟨b, o, none⟩ ∧ b < w.heap.size ∧ w.cell? ⟨b, o + i, none⟩ = some (.iface 9 (.string l[i])) := fun i hi => by
    obtain ⟨b, o, hA, _, hc⟩ := hl.elem (by omega)
    have := hc i _ (hv.txt_at i hi)
    exact ⟨b, o, by injection hA, World.block_lt_of_cell? w _ this, this⟩
  have HEL := Lib.hid hel
  clear hl hv hel
  obtain ⟨n, hn⟩ : ∃ n, n = l.length := ⟨_, rfl⟩
  rw [← hn] at h300 ⊢
  have HN := Lib.hid hn
  clear hn
  have hta1 : ∀ W, (Instr.typeAssert (.iface 36 (.slice (some a) n c)) 20 23 true).run Tryz.prog W = .ok (.tuple #[.slice none 0 0, .bool false]) W := fun W => by kernel_rfl
  have hta2 : ∀ W, (Instr.typeAssert (.iface 36 (.slice (some a) n c)) 20 36 true).run Tryz.prog W = .ok (.tuple #[.slice (some a) n c, .bool true]) W := fun W => by kernel_rfl
  have hmk := fun W => run_make_room (P := Tryz.prog) 23 9 (.string ⟨#[]⟩) 16 Tryz.underlying23 infoStrS rfl .i64 .i64 n (by omega) (by omega) W
  obtain ⟨j0, hj0, hz⟩ := Option.map_eq_some_iff.1 infoStrS
  simp only [Prod.mk.injEq] at hz
  obtain ⟨jz0, jz1, jz2⟩ := hz
  go_enter Tryz.func32, Tryz.ntmps32
  go_wp2_with fail
  go_loopg [5, 7, 28] n (fun kq v5 v7 v28 wr => ∃ (i cap g : Nat), v28 = .int .i64 (i : Int) ∧ v5 = .slice (some ⟨g, 0, none⟩) i cap ∧ i + kq = n ∧ Hid (wr.ownsRow w.heap.size 9 1 (.slice (some ⟨g, 0, none⟩) i cap) i ((l.take i).map Value.string)) ∧ Hid (Below w.heap.size w wr))
  case atStart =>
    exact ⟨0, n, w.heap.size, rfl, rfl, by omega, Lib.hid (World.ownsRow_made w _ _ (Nat.le_refl _) (by unfold maxLen; omega) (by simp [size_madeCells])), Lib.hid ((Below.refl _ _).alloc (Nat.le_refl _) _)⟩
  case round =>
    obtain ⟨i, cap, g, rfl, rfl, hik, HO, HB⟩ := hrel
    cases gk with
    | zero =>
      have hin : i = n := by omega
      have hni : ¬ (i : Int) < (n : Int) := by omega
      have HIN := Lib.hid hin
      clear hin hik
      go_wp2_with fail
      go_ret
      have e : i = l.length := by have := HN.out; have := HIN.out; omega
      refine ⟨g, cap, by rw [e]; rfl, ?_, HB⟩
      have ho := HO.out
      rw [e, List.take_length] at ho
      exact Lib.hid ho
    | succ m =>
      have hin : i < n := by omega
      have hi' : i < l.length := by have := HN.out; omega
      have HIK := Lib.hid hik
      clear hik
      obtain ⟨eb, eo, rfl, hebs, e0⟩ := HEL.out i hi'
      obtain ⟨x, hx⟩ : ∃ x, x = l[i] := ⟨_, rfl⟩
      rw [← hx] at e0
      have hc : wr.cell? ⟨eb, eo + i, none⟩ = some (.iface 9 (.string x)) := (HB.out.cell (p := ⟨eb, eo + i, none⟩) hebs).trans e0
      have HX := Lib.hid hx
      have hst := fun W => strvalS_walk x W
      have hii0 : (0 : Int) ≤ (i : Int) := by omega
      have hiin : (i : Int) < (n : Int) := by omega
      have HB1 := HB
      have HO1 := HO
      have HS1 := Lib.hid HB1.out.size
      clear hx e0
      go_wp2_with fail
      refine (hst _).mono ?_
      rintro e w1 ⟨rfl, hw1⟩
      subst w1
      go_wp2_with (at_builtin; go_must (refine wpList_append_lies _ rfl _ _ 23 rfl w.heap.size 9 j0 _ 1 16 Tryz.underlying23 hj0 jz0 jz1 jz2 rfl (by decide) (.slice (some ⟨g, 0, none⟩) i cap) i ((l.take i).map Value.string) rfl (HO1.out.alloc _) ⟨wr.heap.size, 0, none⟩ 1 1 [.string x] rfl rfl (news_cells _ _ _) (one_str rfl) (by decide) (by unfold maxLen; omega) (by omega) (by have := HS1.out; simp; omega) _ rfl ?_); intro g2 cap2 w2 hown2 hgrow hat hlt; refine Hid.out ?_)
      refine Lib.hid ?_
      have HZ := Lib.hid (And.intro hown2 (And.intro hgrow hat))
      clear hown2 hgrow hat hlt
      go_wp2_with fail
      go_roundg m
      case measure => exact Nat.lt_succ_self m
      case rel =>
        obtain ⟨hown2, hgrow, hat⟩ := HZ.out
        refine ⟨i + 1, cap2, g2, by simp, rfl, by have := HIK.out; omega, Lib.hid ?_, Lib.hid ?_⟩
        · have e1 : l.take (i + 1) = l.take i ++ [x] := by
            rw [List.take_succ_eq_append_getElem hi', HX.out]
          rw [e1, List.map_append]
          exact hown2
        · exact (HB1.out.alloc HS1.out _).grown hgrow (by simp; have := HS1.out; omega) (fun k hk => (HO1.out.lt k hk).1)

/-- Texts joined. -/
def joinT (l : List ByteArray) (sep : ByteArray) : ByteArray := ⟨(Lib.join (l.map (·.data.toList)) sep.data.toList).toArray⟩
theorem stringsJoin_walk (l : List ByteArray) (sep : ByteArray) (h300 : l.length ≤ 100000) (hj : (joinT l sep).size ≤ 140737488355328) (g cap : Nat) (base : Nat) (w : World)
    (ho : w.ownsRow base 9 1 (.slice (some ⟨g, 0, none⟩) l.length cap) l.length (l.map Value.string)) :
    Calls Tryz.prog 31 #[.slice (some ⟨g, 0, none⟩) l.length cap, .string sep] w fun e w' => e = .returned (.string (joinT l sep)) ∧ Below w.heap.size w w' := by
  have hcap : l.length ≤ cap := by
    rcases ho.2 with ⟨h0, _⟩ | ⟨g, cp, cur, hv, _, _, hh, _⟩
    · cases h0
    · injection hv with _ _ hv; omega
  have hgs : g < w.heap.size := by
    rcases ho.2 with ⟨h0, _⟩ | ⟨g', cp, cur, hv, _, hh, _⟩
    · cases h0
    · injection hv with hv _ _
      injection hv with hv
      injection hv with hv
      subst hv
      rcases Nat.lt_or_ge g w.heap.size with h | h
      · exact h
      · rw [Array.getElem?_eq_none h] at hh; cases hh
  have hcs : ∀ (j : Nat) x, l[j]? = some x → w.cell? ⟨g, 0 + j, none⟩ = some (.string x) := fun j x hx => by
    have := ho.cells (g := g) rfl j (.string x) (by rw [List.getElem?_map, hx]; rfl)
    rw [add_plain] at this
    simpa using this
  have e : (joinT l sep).size = (Lib.join (l.map (·.data.toList)) sep.data.toList).length := by unfold joinT; simp [ByteArray.size]
  exact (Tryz.strings_Join g 0 cap l sep w hcs hgs (by omega) hcap (by omega)).mono fun e w' ⟨he, hb⟩ => ⟨by rw [he]; rfl, hb⟩
set_option maxHeartbeats 1000000 in
theorem join_walk (l : List ByteArray) (sep : ByteArray) (h300 : l.length ≤ 100000) (hj : (joinT l sep).size ≤ 140737488355328) (a : Addr) (c : Nat) (xs : List Value) (P : Nat → Prop) (w : World)
    (hl : RowIs w P 1 (.slice (some a) l.length c) l.length xs) (hv : GoVs w P (l.map txtV) xs) :
    Calls Tryz.prog 25 #[.string sep, .iface 36 (.slice (some a) l.length c)] w fun e w' => e = .returned (.string (joinT l sep)) ∧ Below w.heap.size w w' := by
  have HS := Lib.hid (strslice_walk l h300 a c xs P w hl hv)
  clear hl hv
  go_enter Tryz.func25, Tryz.ntmps25
  go_wp2_with fail
  refine HS.out.mono ?_
  rintro e w1 ⟨g, cap, rfl, HO, HB⟩
  have HJ := Lib.hid (stringsJoin_walk l sep h300 hj g cap _ w1 HO.out)
  go_wp2_with fail
  refine HJ.out.mono ?_
  rintro e w2 ⟨rfl, hb⟩
  have HB2 := Lib.hid (HB.out.trans (hb.mono HB.out.size))
  clear hb
  go_wp2_with fail
  go_ret
  exact ⟨rfl, HB2.out⟩
theorem sprigJoin_walk (l : List ByteArray) (sep : ByteArray) (h300 : l.length ≤ 100000) (hj : (joinT l sep).size ≤ 140737488355328) (a : Addr) (c : Nat) (xs : List Value) (P : Nat → Prop) (w : World)
    (hl : RowIs w P 1 (.slice (some a) l.length c) l.length xs) (hv : GoVs w P (l.map txtV) xs) :
    Calls Tryz.prog 19 #[.string sep, .iface 36 (.slice (some a) l.length c)] w fun e w' => e = .returned (.string (joinT l sep)) ∧ Below w.heap.size w w' := by
  have HS := Lib.hid (join_walk l sep h300 hj a c xs P w hl hv)
  clear hl hv
  go_enter Tryz.func19, Tryz.ntmps19
  go_wp2_with fail
  refine HS.out.mono ?_
  rintro e w1 ⟨rfl, HB⟩
  go_wp2_with fail
  go_ret
  exact ⟨rfl, HB⟩
set_option maxHeartbeats 1000000 in
theorem implJoin_walk (l : List ByteArray) (sep : ByteArray) (h300 : l.length ≤ 100000) (hj : (joinT l sep).size ≤ 140737488355328) (A : Option Addr) (c : Nat) (xs : List Value) (P : Nat → Prop) (w : World)
    (hl : RowIs w P 6 (.slice A l.length c) l.length xs) (hv : IsVs w P (l.map txtV) xs) :
    Calls Tryz.prog 9 #[.string sep, .slice A l.length c] w fun e w' => e = .returned (.string (joinT l sep)) ∧ Below w.heap.size w w' := by
  have hlm : (l.map txtV).length = l.length := List.length_map ..
  have HG : Hid (Calls Tryz.prog 18 #[.slice A l.length c] w (GoListRes (l.map txtV) w)) := Lib.hid (by
    have h := goList_step (l.map txtV) (fun i hi => by rw [List.getElem_map]; exact goOf_text _) (by rw [hlm]; exact h300) A c xs P w (by rw [hlm]; exact hl) hv
    rw [hlm] at h
    exact h)
  clear hl hv
  go_enter Tryz.func9, Tryz.ntmps9
  go_wp2_with fail
  refine HG.out.mono ?_
  rintro e w1 ⟨a, cap, ys, rfl, HX, HB⟩
  rw [hlm] at HX ⊢
  have HJ := Lib.hid (sprigJoin_walk l sep h300 hj a cap ys _ w1 HX.out.1 HX.out.2)
  have HBS := Lib.hid HB.out.size
  go_wp2_with fail
  refine HJ.out.mono ?_
  rintro e w2 ⟨rfl, hb⟩
  have HB2 := Lib.hid (HB.out.trans (hb.mono HBS.out))
  clear hb
  go_wp2_with fail
  go_ret
  exact ⟨rfl, HB2.out⟩
end Go.Proofs.YtkikkeegdooenaaGreatDoor.Vals
