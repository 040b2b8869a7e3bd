/- Semantic versions: a constraint as the package writes it. -/
import Derived.Test.YtoebognfkigooaaGreatDoorSvCx
import Derived.Test.YtoebognfkigooaaGreatDoorBldK
import Derived.Test.YtoebognfkigooaaGreatDoorShelf
import Derived.Lib.Join
namespace Go.Proofs.YtoebognfkigooaaGreatDoor.Sv
open Go.RowKit Go.Proofs.YtoebognfkigooaaGreatDoor.PFnSemverEither Go.Proofs.YtoebognfkigooaaGreatDoorW.PrintWords Go.Proofs.YtoebognfkigooaaGreatDoor.Txt Go.Proofs.YtoebognfkigooaaGreatDoor Go.Proofs.YtoebognfkigooaaGreatDoor.Vals
set_option linter.unusedVariables false
set_option linter.unusedSimpArgs false
set_option maxRecDepth 20000
theorem cstring_walk (c : Cn) (lo b : Nat) (w : World) (h : ConIs w lo b c) (hz : (ba c.op).size + (ba c.vt).size ≤ 1000) :
    Calls Tryz.prog 26 #[.pointer (some ⟨b, 0, none⟩)] w fun e w' => e = .returned (.string (ba c.op ++ ba c.vt)) ∧ Below w.heap.size w w' := by
  obtain ⟨_, vb, og, _, hsix, _⟩ := h
  have lt := blk_lt hsix
  have hzz : (9223372036854775807 < (ba c.op).size + (ba c.vt).size) = False := eq_false (by omega)
  have k1 : ∀ q : Near w.heap.size w, q.W.cell? ⟨b, 1, none⟩ = some (.string (ba c.vt)) := fun q => q.cell lt (hsix.cell 1).1
  have k2 : ∀ q : Near w.heap.size w, q.W.cell? ⟨b, 2, none⟩ = some (.string (ba c.op)) := fun q => q.cell lt (hsix.cell 2).1
  go_enter Tryz.func26, Tryz.ntmps26
  go_upto_region 1 with fail
  refine wp_region_near w.heap.size w (by kernel_rfl) (by kernel_rfl) (Below.refl _ _) ?_
  repeat (go_big_quiet_step (fail))
  refine wpQuiet_nil ?_
  intro wm hw'
  obtain ⟨q_, hx_⟩ := hw'
  have hb_ : Below w.heap.size w wm := by rw [hx_]; exact q_.h
  clear hx_ k1 k2
  go_wp2_with fail
  go_ret
  exact ⟨rfl, hb_⟩
/-- A builder in memory, whatever it holds. -/
def BldAt (w : World) (b : Nat) : Prop := ∃ p v, w.heap[b]? = some (.cells #[p, v] 71 (0, 0))
theorem BldAt.of {w : World} {B b : Nat} {bs : List Value} (h : Lib.IsBuilderF 71 5 B b bs w) : BldAt w b := by
  rcases h with ⟨_, v, h, _⟩ | ⟨_, v, h, _⟩ <;> exact ⟨_, v, h⟩
theorem reset_walk (b : Nat) (w : World) (h : BldAt w b) :
    Calls Tryz.prog 24 #[.pointer (some ⟨b, 0, none⟩)] w fun e w' => e = .returned (.tuple #[]) ∧ Lib.IsBuilder 71 5 b b [] w' ∧ Below b w w' := by
  obtain ⟨p, v, hb⟩ := h
  have c0 : w.cell? ⟨b, 0, none⟩ = some p := by rw [Lib.cell_of_heap hb]; rfl
  have c1 : w.cell? ⟨b, 1, none⟩ = some v := by rw [Lib.cell_of_heap hb]; rfl
  have f0 : w.frozen? ⟨b, 0, none⟩ = false := Lib.frozen_of_heap hb 0
  have f1 : w.frozen? ⟨b, 1, none⟩ = false := Lib.frozen_of_heap hb 1
  have hb1 : (w.setCell ⟨b, 0, none⟩ (.pointer none)).heap[b]? = some (.cells #[.pointer none, v] 71 (0, 0)) := by
    simp [World.setCell, Array.getElem?_modify, hb]
  have hb2 : ((w.setCell ⟨b, 0, none⟩ (.pointer none)).setCell ⟨b, 1, none⟩ (.slice none 0 0)).heap[b]? = some (.cells #[.pointer none, .slice none 0 0] 71 (0, 0)) := by
    simp [World.setCell, Array.getElem?_modify, hb]
  have d1 : (w.setCell ⟨b, 0, none⟩ (.pointer none)).cell? ⟨b, 1, none⟩ = some v := by rw [Lib.cell_of_heap hb1]; rfl
  have g1 : (w.setCell ⟨b, 0, none⟩ (.pointer none)).frozen? ⟨b, 1, none⟩ = false := Lib.frozen_of_heap hb1 1
  have HR := Lib.hid hb2
  clear hb hb1 hb2
  go_enter Tryz.func24, Tryz.ntmps24
  go_wp2_with fail
  go_end0
  exact ⟨rfl, .inl ⟨Nat.le_refl _, _, HR.out, World.ownsRow_nil _ _ _ _, by simp [Value.ownBlock]⟩, ((Below.refl b w).setCell (p := ⟨b, 0, none⟩) (Nat.le_refl b) _).setCell (p := ⟨b, 1, none⟩) (Nat.le_refl b) _⟩
/-- A row of texts: the first k of them are there. -/
def StrTo (k : Nat) (w : World) (rb : Nat) (l : List ByteArray) : Prop := ∃ arr : Array Value, w.heap[rb]? = some (.cells arr 9 (0, 0)) ∧ arr.size = l.length ∧ ∀ j x, j < k → l[j]? = some x → arr[j]? = some (.string x)
theorem StrTo.below {k : Nat} {w w' : World} {rb B : Nat} {l : List ByteArray} (h : StrTo k w rb l) (hb : Below B w w') (hB : rb < B) : StrTo k w' rb l := by
  obtain ⟨arr, h2, h3, h4⟩ := h
  exact ⟨arr, (hb.block _ hB).trans h2, h3, h4⟩
theorem StrTo.start (w : World) (l : List ByteArray) : StrTo 0 (w.alloc (.cells (madeCells #[.string ⟨#[]⟩] l.length) 9)) w.heap.size l :=
  ⟨_, heap_alloc_new w _, made_size _ _, fun j x hj => by omega⟩
theorem StrTo.cell {k : Nat} {w : World} {rb : Nat} {l : List ByteArray} (h : StrTo k w rb l) (j : Nat) (hj : j < l.length) : ∃ v, w.cell? ⟨rb, j, none⟩ = some v ∧ w.frozen? ⟨rb, j, none⟩ = false := by
  obtain ⟨arr, h2, h3, h4⟩ := h
  refine ⟨arr[j]'(by omega), ?_, by simp [World.frozen?, h2]⟩
  rw [blk_cell h2]
  exact Array.getElem?_eq_getElem (by omega)
theorem StrTo.step {k : Nat} {w : World} {rb : Nat} {l : List ByteArray} (h : StrTo k w rb l) {x : ByteArray} (hx : l[k]? = some x) : StrTo (k + 1) (w.setCell ⟨rb, k, none⟩ (.string x)) rb l := by
  obtain ⟨arr, h2, h3, h4⟩ := h
  have hi : k < l.length := (List.getElem?_eq_some_iff.1 hx).1
  refine ⟨arr.setIfInBounds k (.string x), blk_set h2 k _, by simpa using h3, fun j y hj hy => ?_⟩
  by_cases e : j = k
  · subst e
    rw [hx] at hy
    injection hy with hy
    subst hy
    rw [Array.getElem?_setIfInBounds_self_of_lt (by omega)]
  · rw [Array.getElem?_setIfInBounds_ne (by omega)]
    exact h4 j y (by omega) hy
theorem infoStrX : (Tryz.prog.info? 9).map (fun i => (i.zero, i.size, i.bytes)) = some (some (.string ⟨#[]⟩), 1, 16) := by kernel_rfl
theorem bytes_tl (l : List UInt8) : Lib.strCells (ba l) = Lib.byteCells l := by
  unfold Lib.strCells Lib.byteCells
  rw [← Lib.toList_data, show (ba l).toList = l from tl_mk l]
set_option maxHeartbeats 8000000 in
theorem consString_walk (cs : List Cn) (h5 : cs.length ≤ 5) (hsz0 : (shown cs).length ≤ 1000) (hz : ∀ c ∈ cs, (ba c.op).size + (ba c.vt).size ≤ 100) (ob pb lo : Nat) (w : World) (HG : GrpTo cs.length w lo ob (cs.map fun c => [c])) :
    Calls Tryz.prog 15 #[.agg #[.slice (some ⟨ob, 0, none⟩) cs.length cs.length, .slice (some ⟨pb, 0, none⟩) cs.length cs.length, .bool false]] w fun e w' => e = .returned (.string (ba (shown cs))) ∧ Below w.heap.size w w' := by
  obtain ⟨n, hn⟩ : ∃ n, n = cs.length := ⟨_, rfl⟩
  obtain ⟨l, hl⟩ : ∃ l, l = cs.map fun c => ba c.op ++ ba c.vt := ⟨_, rfl⟩
  have hll : l.length = n := by rw [hl, List.length_map, hn]
  rw [← hn] at h5 HG ⊢
  have hmk := fun W => run_make_row' (P := Tryz.prog) 22 9 (.string ⟨#[]⟩) 16 Tryz.underlying22 infoStrX rfl .i64 .i64 n (by omega) (by omega) W
  have HN := Lib.hid hn
  have HL := Lib.hid hl
  have HLL := Lib.hid hll
  have HG0 := Lib.hid HG
  have HZ := Lib.hid hz
  have HSZ0 := Lib.hid hsz0
  clear hn hl hll HG hz hsz0
  go_enter Tryz.func15, Tryz.ntmps15
  go_wp2_with fail
  obtain ⟨wl, hwl⟩ : ∃ wl, wl = (((w.alloc (.cells #[.slice (some ⟨ob, 0, none⟩) n n, .slice (some ⟨pb, 0, none⟩) n n, .bool false] 67)).alloc (.cells (madeCells #[.string ⟨#[]⟩] n) 9)).alloc (.cells #[.pointer none, .slice none 0 0] 71)) := ⟨_, rfl⟩
  obtain ⟨rb, hrb⟩ : ∃ b, b = w.heap.size + 1 := ⟨_, rfl⟩
  obtain ⟨tb, htb⟩ : ∃ b, b = w.heap.size + 1 + 1 := ⟨_, rfl⟩
  have hS : StrTo 0 wl rb l := by
    have h1 := StrTo.start (w.alloc (.cells #[.slice (some ⟨ob, 0, none⟩) n n, .slice (some ⟨pb, 0, none⟩) n n, .bool false] 67)) l
    rw [HLL.out, World.size_alloc, ← hrb] at h1
    rw [hwl]
    exact h1.below ((Below.refl (rb + 1) _).alloc (by simp [hrb]) _) (Nat.lt_succ_self rb)
  have hT : BldAt wl tb := ⟨_, _, by
    have h1 := heap_alloc_new ((w.alloc (.cells #[.slice (some ⟨ob, 0, none⟩) n n, .slice (some ⟨pb, 0, none⟩) n n, .bool false] 67)).alloc (.cells (madeCells #[.string ⟨#[]⟩] n) 9)) (.cells #[.pointer none, .slice none 0 0] 71)
    rw [World.size_alloc, World.size_alloc, ← htb] at h1
    rw [hwl]; exact h1⟩
  have hB : Below w.heap.size w wl := by
    rw [hwl]
    exact (((Below.refl _ _).alloc (Nat.le_refl _) _).alloc (by simp) _).alloc (by simp; omega) _
  rw [← hwl, ← htb, ← hrb]
  have hlt : w.heap.size ≤ tb ∧ rb < tb ∧ w.heap.size ≤ rb := by omega
  have HLT := Lib.hid hlt
  have HS0 := Lib.hid hS
  have HT0 := Lib.hid hT
  have HB0 := Lib.hid hB
  clear hwl hrb htb hS hT hB hlt
  go_loopg [5, 6, 7, 8, 9, 17] n (fun kq v5 v6 v7 v8 v9 v17 wr => ∃ (k : Nat) (x5 x6 x7 x8 x9 : Value), v5 = x5 ∧ v6 = x6 ∧ v7 = x7 ∧ v8 = x8 ∧ v9 = x9 ∧ v17 = .int .i64 (k : Int) ∧ k + kq = n ∧ Hid (Below w.heap.size w wr) ∧ Hid (StrTo k wr rb l) ∧ Hid (BldAt wr tb))
  case atStart => exact ⟨0, _, _, _, _, _, rfl, rfl, rfl, rfl, rfl, rfl, by omega, HB0, HS0, HT0⟩
  case round =>
    obtain ⟨k, x5, x6, x7, x8, x9, rfl, rfl, rfl, rfl, rfl, rfl, hik, HB, HS, HT⟩ := hrel
    cases gk with
    | zero =>
      have hin : k = n := by omega
      have hni : ¬ (k : Int) < (n : Int) := by omega
      have hS := HS.out
      rw [hin] at hS
      have hjoin : (Lib.join (l.map (·.data.toList)) ((⟨#[32, 124, 124, 32]⟩ : ByteArray)).data.toList) = shown cs := by
        rw [HL.out, List.map_map]
        unfold shown
        congr 1
      have hsz := HSZ0.out
      have HJ := Lib.hid (Tryz.strings_Join rb 0 n l ⟨#[32, 124, 124, 32]⟩ wr (by
        obtain ⟨arr, h2, h3, h4⟩ := hS
        intro j x hx
        rw [Nat.zero_add, blk_cell h2]
        exact h4 j x (by rw [← HLL.out]; exact (List.getElem?_eq_some_iff.1 hx).1) hx) (by obtain ⟨arr, h2, _⟩ := hS; exact blk_lt h2) (by rw [HLL.out]; omega) (by rw [HLL.out]; omega) (by rw [hjoin]; omega))
      rw [HLL.out, hjoin] at HJ
      clear hik hin hS hjoin hsz
      go_wp2_with fail
      refine HJ.out.mono ?_
      rintro e w1 ⟨rfl, hb1⟩
      have HB1 := Lib.hid (HB.out.trans (hb1.mono HB.out.size))
      clear hb1
      go_wp2_with fail
      go_ret
      exact ⟨rfl, HB1.out⟩
    | succ m =>
      have hki : k < n := by omega
      have hki' : (k : Int) < (n : Int) := by omega
      have hkL : k < cs.length := by rw [← HN.out]; exact hki
      have HIK := Lib.hid hik
      obtain ⟨c, hc⟩ : ∃ c, c = cs[k] := ⟨_, rfl⟩
      have hget : (cs.map fun c => [c])[k]? = some [c] := by rw [List.getElem?_map, List.getElem?_eq_getElem hkL, hc]; rfl
      have hlget : l[k]? = some (ba c.op ++ ba c.vt) := by rw [HL.out, List.getElem?_map, List.getElem?_eq_getElem hkL, hc]; rfl
      have hcz := HZ.out c (by rw [hc]; exact List.getElem_mem hkL)
      have hg0 : GrpTo (cs.map fun c => [c]).length w lo ob (cs.map fun c => [c]) := by rw [List.length_map, ← HN.out]; exact HG0.out
      obtain ⟨rq, hcell, hrow⟩ := hg0.at hget
      obtain ⟨b, hcell2, hcon⟩ := hrow.at (j := 0) (c := c) rfl
      have HCE : Hid (∀ W, Below w.heap.size w W → W.cell? ⟨ob, k, none⟩ = some (.slice (some ⟨rq, 0, none⟩) 1 1)) := Lib.hid fun W hW => pw_cell_below hW hcell
      have HCQ : Hid (∀ W, Below w.heap.size w W → W.cell? ⟨rq, 0, none⟩ = some (.pointer (some ⟨b, 0, none⟩))) := Lib.hid fun W hW => pw_cell_below hW hcell2
      have HCON : Hid (∀ W, Below w.heap.size w W → ConIs W (rq + 1) b c) := Lib.hid fun W hW => hcon.keep (Keeps.of_below hW)
      have HLG := Lib.hid hlget
      have HCZ := Lib.hid hcz
      have c0 := HCE.out _ HB.out
      have HRS := Lib.hid (reset_walk tb wr HT.out)
      clear hik hc hget hlget hcz hg0 hcell hrow hcell2 hcon hkL
      go_wp2_with fail
      refine HRS.out.mono ?_
      rintro e w1 ⟨rfl, hi1, hb1⟩
      have HB1 := Lib.hid (HB.out.trans (hb1.mono HLT.out.1))
      have HS1 := Lib.hid (HS.out.below hb1 HLT.out.2.1)
      have HI1 := Lib.hid hi1
      have c1 := HCQ.out _ HB1.out
      clear hi1 hb1 c0
      go_wp2_with fail
      refine wp_loop_rounds 2 ?_
      rw [rounds_succ]
      have HCS := Lib.hid (cstring_walk c (rq + 1) b w1 (HCON.out _ HB1.out) (by have := HCZ.out; omega))
      go_wp2_with fail
      refine HCS.out.mono ?_
      rintro e w2 ⟨rfl, hb2⟩
      have HB2 := Lib.hid (HB1.out.trans (hb2.mono HB1.out.size))
      have HS2 := Lib.hid (HS1.out.below hb2 (by obtain ⟨arr, h2, _⟩ := HS1.out; exact blk_lt h2))
      have hi2 := Giv.isBelow HI1.out hb2
      obtain ⟨u, hu⟩ : ∃ u, u = ba c.op ++ ba c.vt := ⟨_, rfl⟩
      have hus : u.size ≤ 100 := by rw [hu, size_append]; exact HCZ.out
      have htw : tb ≤ w2.heap.size := by
        rcases hi2 with ⟨_, v, h, _⟩ | ⟨_, v, h, _⟩ <;> exact Nat.le_of_lt (blk_lt h)
      have HWS := Lib.hid (Giv.WriteString tb tb [] u w2 hi2 (by simp; omega) htw)
      rw [← hu] at HLG ⊢
      clear hb2 hi2 hu htw c1 HCZ HCS HI1
      go_wp2_with fail
      refine HWS.out.mono ?_
      rintro e w3 ⟨rfl, hi3, hb3⟩
      have HB3 := Lib.hid (HB2.out.trans (hb3.mono HLT.out.1))
      have HS3 := Lib.hid (HS2.out.below hb3 HLT.out.2.1)
      have hi3' : Lib.IsBuilderF 71 5 tb tb (Lib.byteCells u.toList) w3 := by
        rw [← Giv.strCells_tl]
        exact .inr (Lib.BuilderAtF.of hi3)
      have htw : tb ≤ w3.heap.size := by
        obtain ⟨_, v, h, _⟩ := hi3
        exact Nat.le_of_lt (blk_lt h)
      have hut : (⟨u.toList.toArray⟩ : ByteArray) = u := ext_eq (tl_mk _)
      have hst := Tryz.Builder_String_any_f tb tb u.toList w3 hi3' htw
      rw [hut] at hst
      have HST := Lib.hid hst
      clear hi3 hi3' hb3 htw hut hst HB2 HS2 HWS hus
      go_wp2_with fail
      rw [rounds_succ]
      go_wp2_with fail
      refine HST.out.mono ?_
      rintro e w4 ⟨rfl, hi4, hb4⟩
      have HB4 := Lib.hid (HB3.out.trans (hb4.mono HLT.out.1))
      have HS4 := Lib.hid (HS3.out.below hb4 HLT.out.2.1)
      have HT4 := Lib.hid (BldAt.of hi4)
      obtain ⟨vo, hvo, hvf⟩ := HS4.out.cell k (by rw [HLL.out]; exact hki)
      have HS5 := Lib.hid (HS4.out.step HLG.out)
      clear hi4 hb4 HST HB3 HS3
      go_wp2_with fail
      go_roundg m
      case measure => exact Nat.lt_succ_self m
      case rel =>
        refine ⟨k + 1, _, _, _, _, _, rfl, rfl, rfl, rfl, rfl, by simp, by have := HIK.out; omega, ?_, HS5, ?_⟩
        · exact Lib.hid (HB4.out.setCell (p := ⟨rb, k, none⟩) HLT.out.2.2 _)
        · obtain ⟨p, v, h⟩ := HT4.out
          exact Lib.hid ⟨p, v, (Below.heap_setCell w4 ⟨rb, k, none⟩ (.string u) tb (by have := HLT.out.2.1; simp; omega)).trans h⟩
set_option maxHeartbeats 2000000 in
theorem constraintText_walk (s : ByteArray) (cs : List Cn) (h5 : cs.length ≤ 5) (hsz : (shown cs).length ≤ 1000) (hz : ∀ c ∈ cs, (ba c.op).size + (ba c.vt).size ≤ 100)
    (NC : ∀ W, Calls Tryz.prog 14 #[.string s] W (ConsRes (cs.map fun c => [c]) W)) (w : World) :
    Calls Tryz.prog 10 #[.string s] w fun e w' => e = .returned (.tuple #[.string (ba (shown cs)), .bool true]) ∧ Below w.heap.size w w' := by
  have HNC := Lib.hid (NC w)
  have HCS := Lib.hid (fun ob pb lo W h => consString_walk cs h5 hsz hz ob pb lo W h)
  have hll : (cs.map fun c => [c]).length = cs.length := List.length_map _
  obtain ⟨n, hn⟩ : ∃ n, n = cs.length := ⟨_, rfl⟩
  rw [← hn] at HCS hll
  clear NC hz hsz h5 hn
  go_enter Tryz.func10, Tryz.ntmps10
  go_wp2_with fail
  refine HNC.out.mono ?_
  rintro e w1 ⟨b, ob, pb, lo, rfl, hbl, HBOX, HG, HP, HB1⟩
  rw [hll] at HBOX HG HP
  have hbox := HBOX.out
  have k0 : w1.cell? ⟨b, 0, none⟩ = some (.slice (some ⟨ob, 0, none⟩) n n) := by rw [blk_cell hbox]; rfl
  have k1 : w1.cell? ⟨b, 1, none⟩ = some (.slice (some ⟨pb, 0, none⟩) n n) := by rw [blk_cell hbox]; rfl
  have k2 : w1.cell? ⟨b, 2, none⟩ = some (.bool false) := by rw [blk_cell hbox]; rfl
  have HS := Lib.hid (HCS.out ob pb lo w1 HG.out)
  clear hbox hbl HBOX hll
  go_wp2_with fail
  refine HS.out.mono ?_
  rintro e w2 ⟨rfl, hb2⟩
  have HB2 := Lib.hid (HB1.out.trans (hb2.mono HB1.out.size))
  clear hb2
  go_wp2_with fail
  go_ret2
  exact ⟨rfl, HB2.out⟩
theorem ops_len2 : ∀ o ∈ opsLL, o.length ≤ 2 := by decide
theorem AccE.text {x y z i : Nat} {T : ByteArray} {B : Bool} (h : AccE x y z i T B) (h0 : 0 < i) (h5 : i ≤ 5) (W : World) :
    Calls Tryz.prog 10 #[.string T] W fun e w' => e = .returned (.tuple #[.string T, .bool true]) ∧ Below W.heap.size W w' := by
  obtain ⟨gs, cs, e1, e2, e3, e4, e5, e6, e7, e8, e9, e10⟩ := h.groups h0 h5
  have hT : ba (shown cs) = T := ext_eq (by rw [e7]; exact tl_mk _)
  have := constraintText_walk T cs (by omega) (by rw [← e7, ← len_eq]; omega) (fun c hc => by
    obtain ⟨hok, hsm⟩ := e9 c hc
    obtain ⟨k1, k2, k3⟩ := hsm
    have ko := ops_len2 _ hok.ho
    have g2 := sg_len c.d2 k2
    have g3 := sg_len c.d3 k3
    rw [len_eq, len_eq, show (ba c.op).toList = c.op from tl_mk _, show (ba c.vt).toList = c.vt from tl_mk _]
    unfold Cn.vt
    simp only [List.length_append]
    omega) (fun W => by rw [← e6]; exact cons_text T gs e1 e2 e3 e4 e5 W) W
  rw [hT] at this
  exact this
theorem AccE.ask {i : Nat} {T : ByteArray} {B : Bool} {d1 d2 d3 : List UInt8} (h : AccE (val 0 d1) (val 0 d2) (val 0 d3) i T B) (h0 : 0 < i) (h5 : i ≤ 5) (n1 : Num9 d1) (n2 : Num9 d2) (n3 : Num9 d3) {v : ByteArray} (hv : v.toList = d1 ++ (sg 46 d2 ++ sg 46 d3)) (W : World) :
    Calls Tryz.prog 9 #[.string T, .string v] W fun e w' => e = .returned (.tuple #[.bool B, .bool true]) ∧ Below W.heap.size W w' := by
  obtain ⟨gs, cs, e1, e2, e3, e4, e5, e6, e7, e8, e9, e10⟩ := h.groups h0 h5
  rw [e10]
  exact compare_text T v gs e1 e2 e3 e4 e5 d1 d2 d3 n1 n2 n3 hv W
end Go.Proofs.YtoebognfkigooaaGreatDoor.Sv
