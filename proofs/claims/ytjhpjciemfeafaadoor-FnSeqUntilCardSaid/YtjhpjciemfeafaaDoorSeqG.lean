/- Walk of sprig's intArrayToString: numbers as texts, joined. -/
import Derived.Test.YtjhpjciemfeafaaDoorPow
import Derived.Test.YtjhpjciemfeafaaDoorWMore
import Derived.Deep.LoopGhost
import Derived.Deep.AppendLies
import Derived.Deep.DeepCutAuto
import Derived.Deep.DeepMust
import Derived.OwnWalk
import Derived.IntWalk
import Derived.Lib.JoinLaws
namespace Go.Proofs.YtjhpjciemfeafaaDoor.Giv
open Go.RowKit Go.Deep Go.Proofs.YtjhpjciemfeafaaDoorW.PrintWords Go.Proofs.YtjhpjciemfeafaaDoor.Txt
set_option linter.unusedVariables false
set_option maxRecDepth 20000

def strK : Kd ByteArray := Kd.scalar Value.string (fun _ => rfl)
theorem cells_ofI {w : World} {A : Option Addr} {n : Nat} {l : List Int} (h : Kd.C (Kd.int .i64) w A n l) (j : Nat) (hj : j < n) : ∃ ad, A = some ad ∧ w.cell? (ad.add j) = some (.int .i64 (l.getD j 0)) := by
  obtain ⟨ad, c, e, hs, hk, hc⟩ := Kd.C_get h 0 (j : Int) (by omega) (by omega)
  refine ⟨ad, e, ?_⟩
  have hk' : c = [Value.int .i64 (l.getD j 0)] := hk
  have := hc 0 (Value.int .i64 (l.getD j 0)) (by rw [hk']; rfl)
  have e1 : (Kd.int .i64).sz = 1 := rfl
  rw [Int.toNat_natCast, e1, Nat.mul_one, Nat.add_zero] at this
  exact this
theorem infoStr : (Tryd.prog.info? 9).map (fun i => (i.zero, i.size, i.bytes)) = some (some (.string ⟨#[]⟩), 1, 16) := by kernel_rfl
def joinB (l : List Int) (sep : ByteArray) : ByteArray := ⟨(Lib.join (l.map fun n => (itoaB n).data.toList) sep.data.toList).toArray⟩

theorem newsG (w : World) (cs : Array Value) (t : TypeId) : ∀ j u, cs.toList[j]? = some u → (w.alloc (.cells cs t)).cell? ((⟨w.heap.size, 0, none⟩ : Addr).add j) = some u := by
  intro j u hj
  rw [add_plain, Lib.cell_of_heap (heap_alloc_new w _)]
  simpa using hj
theorem oneG {v : Value} (h : v.oneCell' = true) : ∀ u ∈ [v], u.oneCell' = true := fun u hu => by rw [List.mem_singleton.1 hu]; exact h
set_option maxHeartbeats 2000000 in
theorem intsText_walk (A : Option Addr) (c : Nat) (l : List Int) (sep : ByteArray) (w : World) (T : Pow10 w) (hr : Kd.C (Kd.int .i64) w A l.length l) (hn : l.length ≤ 1000) (hl : ∀ x ∈ l, -9223372036854775808 ≤ x ∧ x ≤ 9223372036854775807) (hj : (Lib.join (l.map fun n => (itoaB n).data.toList) sep.data.toList).length ≤ 140737488355328) :
    Calls Tryd.prog 27 #[.slice A l.length c, .string sep] w fun e w' => e = .returned (.string (joinB l sep)) ∧ Below w.heap.size w w' := by
  have HC := Lib.hid hr
  have HT := Lib.hid T
  have HL := Lib.hid hl
  have HJ := Lib.hid hj
  clear hr T hl hj
  obtain ⟨n, hnn⟩ : ∃ n, n = l.length := ⟨_, rfl⟩
  rw [← hnn] at HC hn ⊢
  have HN := Lib.hid hnn
  clear hnn
  have hmk := fun W => run_make_room (P := Tryd.prog) 35 9 (.string ⟨#[]⟩) 16 Tryd.underlying35 infoStr rfl .i64 .i64 n (by omega) (by omega) W
  obtain ⟨j0, hj0, hz⟩ := Option.map_eq_some_iff.1 infoStr
  simp only [Prod.mk.injEq] at hz
  obtain ⟨jz0, jz1, jz2⟩ := hz
  go_enter Tryd.func27, Tryd.ntmps27
  go_wp2_with fail
  go_loopg [5, 7, 13] n (fun kq v5 v7 v13 wr => ∃ (i cap g : Nat), v13 = .int .i64 (i : Int) ∧ v5 = .slice (some ⟨g, 0, none⟩) i cap ∧ i + kq = n ∧ Hid (wr.ownsRow w.heap.size 9 1 (.slice (some ⟨g, 0, none⟩) i cap) i ((l.take i).map fun x => Value.string (itoaB x))) ∧ Hid (Below w.heap.size w wr))
  case atStart =>
    exact ⟨0, n, w.heap.size, rfl, rfl, by omega, Lib.hid (World.ownsRow_made w _ _ (Nat.le_refl _) (by unfold maxLen; omega) (by simp [size_madeCells])), Lib.hid ((Below.refl _ _).alloc (Nat.le_refl _) _)⟩
  case round =>
    obtain ⟨i, cap, g, rfl, rfl, hik, HO, HB⟩ := hrel
    cases gk with
    | zero =>
      have hin : i = n := by omega
      have hni : ¬ (i : Int) < (n : Int) := by omega
      have HIN := Lib.hid hin
      have hlen : ((l.map itoaB).length : Nat) = i := by rw [List.length_map]; have := HN.out; omega
      have htk : l.take i = l := List.take_of_length_le (by have := HN.out; omega)
      have hJ : Calls Tryd.prog 36 #[.slice (some ⟨g, 0, none⟩) i cap, .string sep] wr fun e w' => e = .returned (.string (joinB l sep)) ∧ Below wr.heap.size wr w' := by
        have ho := HO.out
        rw [htk] at ho
        have hcap : i ≤ cap := by
          rcases ho.2 with ⟨h0, _⟩ | ⟨g, cp, cur, hv, _, _, hh, _⟩
          · cases h0
          · injection hv with _ _ hv; omega
        have hgs : g < wr.heap.size := by
          rcases ho.2 with ⟨h0, _⟩ | ⟨g', cp, cur, hv, _, hh, _⟩
          · cases h0
          · injection hv with hv _ _
            injection hv with hv
            injection hv with hv
            subst hv
            rcases Nat.lt_or_ge g wr.heap.size with h | h
            · exact h
            · rw [Array.getElem?_eq_none h] at hh; cases hh
        have hmm : (l.map itoaB).map (·.data.toList) = l.map fun n => (itoaB n).data.toList := by rw [List.map_map]; rfl
        have hcs : ∀ (j : Nat) x, (l.map itoaB)[j]? = some x → wr.cell? ⟨g, 0 + j, none⟩ = some (.string x) := fun j x hx => by
          have := ho.cells (g := g) rfl j (.string x) (by rw [List.getElem?_map] at hx ⊢; cases hl : l[j]? with | none => rw [hl] at hx; cases hx | some y => rw [hl] at hx; injection hx with hx; rw [← hx]; rfl)
          rw [add_plain] at this
          simpa using this
        have hj := Tryd.strings_Join g 0 cap (l.map itoaB) sep wr hcs hgs (by rw [hlen]; omega) (by rw [hlen]; exact hcap) (by rw [hmm]; exact HJ.out)
        rw [hlen] at hj
        refine hj.mono fun e w' ⟨he, hb⟩ => ⟨?_, hb⟩
        rw [he]
        unfold joinB
        rw [hmm]
      have HJJ := Lib.hid hJ
      clear hin hik hlen htk hJ
      go_wp2_with fail
      refine HJJ.out.mono ?_
      rintro e w2 ⟨rfl, hb2⟩
      have HB2 := Lib.hid (HB.out.trans (hb2.mono HB.out.size))
      clear hb2
      go_wp2_with fail
      go_ret
      exact ⟨rfl, HB2.out⟩
    | succ m =>
      have hin : i < n := by omega
      have HIK := Lib.hid hik
      clear hik
      obtain ⟨ad, rfl, hc⟩ := cells_ofI (Kd.C_below HC.out HB.out) i hin
      obtain ⟨x, hx⟩ : ∃ x, x = l.getD i 0 := ⟨_, rfl⟩
      rw [← hx] at hc
      have HX := Lib.hid hx
      have hxm : x ∈ l := by rw [hx, List.getD_eq_getElem?_getD, List.getElem?_eq_getElem (by have := HN.out; omega)]; exact List.getElem_mem _
      have HI := Lib.hid (itoa_walk x (HL.out x hxm).1 (HL.out x hxm).2 wr (HT.out.below HB.out))
      have hii0 : (0 : Int) ≤ (i : Int) := by omega
      have hiin : (i : Int) < (n : Int) := by omega
      clear hx hxm
      go_wp2_with fail
      refine HI.out.mono ?_
      rintro e w1 ⟨rfl, hb1⟩
      have HB1 := Lib.hid (HB.out.trans (hb1.mono HB.out.size))
      have HO1 : Hid (w1.ownsRow w.heap.size 9 1 (.slice (some ⟨g, 0, none⟩) i cap) i ((l.take i).map fun x => Value.string (itoaB x))) := Lib.hid (World.ownsRow.kept (w := wr) HO.out (grown_of_below hb1 none) (by simp [Value.ownBlock]))
      have HS1 := Lib.hid HB1.out.size
      clear hb1
      go_wp2_with (at_builtin; go_must (refine wpList_append_lies _ rfl _ _ 35 rfl w.heap.size 9 j0 _ 1 16 Tryd.underlying35 hj0 jz0 jz1 jz2 rfl (by decide) (.slice (some ⟨g, 0, none⟩) i cap) i ((l.take i).map fun x => Value.string (itoaB x)) rfl (HO1.out.alloc _) ⟨w1.heap.size, 0, none⟩ 1 1 [.string (itoaB x)] rfl rfl (newsG _ _ _) (oneG rfl) (by decide) (by unfold maxLen; omega) (by omega) (by have := HS1.out; simp; omega) _ rfl ?_); intro g2 cap2 w3 hown2 hgrow hat hlt; refine Hid.out ?_)
      refine Lib.hid ?_
      have HZ := Lib.hid (And.intro hown2 (And.intro hgrow hat))
      clear hown2 hgrow hat hlt
      go_wp2_with fail
      go_roundg m
      case measure => exact Nat.lt_succ_self m
      case rel =>
        obtain ⟨hown2, hgrow, hat⟩ := HZ.out
        refine ⟨i + 1, cap2, g2, by simp, rfl, by have := HIK.out; omega, Lib.hid ?_, Lib.hid ?_⟩
        · have e1 : l.take (i + 1) = l.take i ++ [x] := by
            rw [List.take_succ_eq_append_getElem (by have := HN.out; omega)]
            rw [HX.out, List.getD_eq_getElem?_getD, List.getElem?_eq_getElem (by have := HN.out; omega)]
            rfl
          rw [e1, List.map_append]
          exact hown2
        · exact (HB1.out.alloc HS1.out _).grown hgrow (by simp; have := HS1.out; omega) (fun k hk => (HO1.out.lt k hk).1)
/-- Numbers within 64 bits. -/
def allIn (l : List Int) : Bool := l.all fun x => decide (-9223372036854775808 ≤ x ∧ x ≤ 9223372036854775807)
def sprig_intArrayToString.f (l0 : List Int) (a1 : ByteArray) : Option (ByteArray) :=
  if l0.length ≤ 1000 ∧ allIn l0 = true ∧ (joinB l0 a1).size ≤ 140737488355328 then some (joinB l0 a1) else none
theorem sprig_intArrayToString.calls (A0 : Option Addr) (c0 : Nat) (l0 : List Int) (a1 : ByteArray) (r : ByteArray) (w : World) (T : Pow10 w) (hr0 : Kd.C (Kd.int .i64) w A0 l0.length l0) (hc0 : l0.length ≤ c0) (h : sprig_intArrayToString.f l0 a1 = some r) :
    Calls Tryd.prog 27 #[.slice A0 l0.length c0, .string a1] w fun e w' => e = .returned (.string r) ∧ Below w.heap.size w w' := by
  unfold sprig_intArrayToString.f at h
  split at h
  case isFalse => exact absurd h (by simp)
  rename_i hh
  obtain ⟨h1, h2, h3⟩ := hh
  obtain rfl := Option.some.inj h
  refine intsText_walk A0 c0 l0 a1 w T hr0 h1 (fun x hx => ?_) ?_
  · unfold allIn at h2
    simpa using List.all_eq_true.1 h2 x hx
  · have e : (joinB l0 a1).size = (Lib.join (l0.map fun n => (itoaB n).data.toList) a1.data.toList).length := by unfold joinB; simp [ByteArray.size]
    omega
end Go.Proofs.YtjhpjciemfeafaaDoor.Giv
