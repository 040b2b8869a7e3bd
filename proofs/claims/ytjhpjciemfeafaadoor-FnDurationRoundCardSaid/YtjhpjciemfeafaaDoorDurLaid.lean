/- strconv's table of tens and time's units, off a row's cell 'laid'. -/
import Derived.Test.YtjhpjciemfeafaaDoorDurG
import Derived.Test.YtjhpjciemfeafaaDoorPowLaid
import Derived.ChangeMaps3
namespace Go.Proofs.YtjhpjciemfeafaaDoor.Giv
open Go.RowKit Go.ChangeMaps

theorem mem_foldr {H : Type} {y : Lit × DataW H} : ∀ {l : List (Lit × DataW H)}, y ∈ l.foldr DataW.insert [] ↔ y ∈ l
  | [] => by simp
  | x :: r => by simp only [List.foldr_cons, List.mem_cons]; rw [mem_insert_iff, mem_foldr]
theorem unit_of_laid {w : World} {l : List (String × DataW Unit)} (h : laidMetH Tryd.prog l w) (hp : ∀ w, laidMetH Tryd.prog l w = laidMet Tryd.prog l w)
    (m : ("time.unitMap", Rows.laid_time_unitMap) ∈ l) : UnitM w := by
  rw [hp] at h
  obtain ⟨g, t, cs, fuel, p, hg, hty, hvar, hd⟩ := Lib.laidMet.reads h m
  obtain rfl := Option.some.inj ((show Tryd.prog.globalNamed "time.unitMap" = some 1 by kernel_rfl).symm.trans hg)
  obtain rfl := Option.some.inj ((show (Tryd.prog.globals[1]?).map (·.type) = some 70 by kernel_rfl).symm.trans hty)
  rcases open_map Tryd.underlying70 Tryd.underlying9 Tryd.underlying39 hd with ⟨_, hx⟩ | ⟨b, es, clk, hcs, hb, _, F, hx⟩
  · cases hx
  injection hx with hx _
  unfold Rows.laid_time_unitMap at hx
  injection hx with hx
  refine ⟨b, es, clk, ?_, hb, fun e he => ?_, F.stamped.2.2, fun u hu => ?_⟩
  · unfold World.var? at hvar
    rw [hg] at hvar
    simp only [Option.bind_some] at hvar
    split at hvar
    · rename_i cs' el fr hh
      obtain rfl := Option.some.inj hvar
      have e : cs'[0]? = some (.map (some b)) := by rw [← Array.getElem?_toList, hcs]; rfl
      simp [World.cell?, hh, e]
    · cases hvar
  · obtain ⟨y, hy⟩ := F.reads e he
    obtain ⟨s, h1, _⟩ := rd_some Tryd.underlying9 hy
    exact ⟨s, h1⟩
  · have hmem : ((Lit.string [u], DataW.lit (.int .u64 (unitV u : Nat))) : Lit × DataW Unit) ∈ (es.toList.map (rg Unit Tryd.prog 9 .u64)) := by
      rw [← mem_foldr, ← hx]
      rcases hu with rfl | rfl | rfl <;> simp [unitV]
    obtain ⟨e, he, hre⟩ := List.mem_map.1 hmem
    obtain ⟨y, hy⟩ := F.reads e he
    rw [rg_of hy] at hre
    obtain ⟨s, h1, h2, _⟩ := rd_some Tryd.underlying9 hy
    subst hre
    simp only [Lit.string.injEq] at h2
    refine ⟨e, he, ?_, ?_⟩
    · rw [h1]
      congr 1
      apply ByteArray.ext
      apply Array.ext'
      exact h2.symm
    · unfold rd at hy
      obtain ⟨k, _, hy⟩ := Option.bind_eq_some_iff.1 hy
      obtain ⟨v, hv, hy⟩ := Option.map_eq_some_iff.1 hy
      simp only [Prod.mk.injEq] at hy
      rw [hy.2] at hv
      unfold rdv at hv
      split at hv
      · split at hv
        · rename_i k' n he' hc
          injection hv with hv
          injection hv with hv
          injection hv with hv1 hv2
          rw [he', hc.1, hv2]
        · cases hv
      · cases hv
theorem dur_of_laid {w : World} {l : List (String × DataW Unit)} (h : laidMetH Tryd.prog l w) (hp : ∀ w, laidMetH Tryd.prog l w = laidMet Tryd.prog l w)
    (m : ("internal/strconv.uint64pow10", Rows.laid_internal_strconv_uint64pow10) ∈ l) (m2 : ("time.unitMap", Rows.laid_time_unitMap) ∈ l) : DurT w := ⟨pow_of_laid h hp m, unit_of_laid h hp m2⟩
end Go.Proofs.YtjhpjciemfeafaaDoor.Giv
