/- Walk of sprig.zzEqual: whether two Go values are the same (as spec.Same says it of the data that they stand for). -/
import Derived.Test.YtaclgcpfcejplaaGreatDoorValM2
import Derived.Test.YtaclgcpfcejplaaGreatDoorValS
namespace Go.Proofs.YtaclgcpfcejplaaGreatDoor.Vals
open Go.RowKit Go.ChangeMaps Go.Proofs.YtaclgcpfcejplaaGreatDoorW.PrintWords Go.Proofs.YtaclgcpfcejplaaGreatDoor.Txt
set_option linter.unusedVariables false
set_option maxRecDepth 20000

theorem zero_of {r : Nat} (h : feq r 0 = true) : ∃ s i, FloatKind.f64.format.read r = .number s 0 i := by
  unfold feq Ieee.Format.order at h
  have h0 : FloatKind.f64.format.read 0 = .number false 0 (-1074) := by rfl
  rw [h0] at h
  cases hr : FloatKind.f64.format.read r with
  | number s m i =>
    rw [hr] at h
    simp only [Ieee.Datum.order, beq_iff_eq, Option.some.injEq, cmp_eq] at h
    refine ⟨s, i, ?_⟩
    have hm : m = 0 := by
      unfold Ieee.signed at h
      simp only [Nat.shiftLeft_eq] at h
      have hp : 0 < 2 ^ (i - min i (-1074)).toNat := Nat.pow_pos (by omega)
      have : m * 2 ^ (i - min i (-1074)).toNat = 0 := by
        generalize m * 2 ^ (i - min i (-1074)).toNat = q at h ⊢
        cases s
        · simp only [Bool.false_eq_true, if_false, Nat.zero_mul] at h; omega
        · simp only [Bool.false_eq_true, if_false, if_true, Nat.zero_mul] at h; omega
      rcases Nat.mul_eq_zero.1 this with h | h
      · exact h
      · omega
    rw [hm]
  | infinity s => rw [hr] at h; cases s <;> simp [Ieee.Datum.order] at h
  | nan s f => rw [hr] at h; simp [Ieee.Datum.order] at h
theorem feq_of {r r' : Nat} (h : feq r 0 = true) (h' : feq r' 0 = true) : feq r r' = true := by
  obtain ⟨s, i, e⟩ := zero_of h
  obtain ⟨t, j, e'⟩ := zero_of h'
  unfold feq Ieee.Format.order
  rw [e, e']
  simp only [Ieee.Datum.order, beq_iff_eq, Option.some.injEq, cmp_eq]
  unfold Ieee.signed
  cases s <;> cases t <;> simp
/-- Neither a list nor a dictionary. -/
structure Basic (x : Value) : Prop where
  l : ∀ w, (Instr.typeAssert x 20 39 true).run Tryz.prog w = .ok (.tuple #[.slice none 0 0, .bool false]) w
  m : ∀ w, (Instr.typeAssert x 20 43 true).run Tryz.prog w = .ok (.tuple #[.map none, .bool false]) w
theorem basic_of {w : World} {P : Nat → Prop} {v : V} {x : Value} (h : GoV w P v x) (hk : v.k ≤ 5) : Basic x := by
  obtain ⟨k, n, r, t, ks, l⟩ := v
  simp only [V.k] at hk
  unfold GoV at h
  rcases h with ⟨rfl, rfl⟩ | ⟨rfl, rfl⟩ | ⟨rfl, rfl⟩ | ⟨rfl, rfl⟩ | ⟨rfl, rfl⟩ | ⟨rfl, rfl⟩ | ⟨rfl, _⟩ | ⟨rfl, _⟩
  · exact ⟨fun w => by kernel_rfl, fun w => by kernel_rfl⟩
  · obtain ⟨y, hy⟩ : ∃ y : Value, y = .bool (n == 1) := ⟨_, rfl⟩
    rw [← hy]
    exact ⟨fun w => by kernel_rfl, fun w => by kernel_rfl⟩
  · exact ⟨fun w => by kernel_rfl, fun w => by kernel_rfl⟩
  · exact ⟨fun w => by kernel_rfl, fun w => by kernel_rfl⟩
  · exact ⟨fun w => by kernel_rfl, fun w => by kernel_rfl⟩
  · exact ⟨fun w => by kernel_rfl, fun w => by kernel_rfl⟩
  · omega
  · omega
theorem same_basic {a b : V} {d d' : Int} (ha : Right a d) (hb : Right b d') (hk : a.k ≤ 5) (hk' : b.k ≤ 5) : SameP a b ↔ a.k = b.k ∧ a.n = b.n ∧ feq a.r b.r = true ∧ a.t = b.t := by
  obtain ⟨k, n, r, t, ks, l⟩ := a
  obtain ⟨k', n', r', t', ks', l'⟩ := b
  simp only [V.k, V.n, V.r, V.t] at *
  unfold Right at ha hb
  obtain ⟨_, hf, _, h4, _, _, h7, _, _, _⟩ := ha
  obtain ⟨_, hf', _, h4', _, _, h7', _, _, _⟩ := hb
  have hr := finB_refl hf
  obtain rfl := List.eq_nil_of_length_eq_zero (h4 (by omega) (by omega))
  obtain rfl := List.eq_nil_of_length_eq_zero (h4' (by omega) (by omega))
  obtain rfl := List.eq_nil_of_length_eq_zero (h7 (by omega))
  obtain rfl := List.eq_nil_of_length_eq_zero (h7' (by omega))
  unfold SameP
  unfold bareB
  simp only [V.k, V.n, V.r, V.t, V.ks, V.l, Bool.and_eq_true, Bool.or_eq_true, hr, Bool.not_true, Bool.false_and, Bool.false_eq_true, or_false, beq_iff_eq, true_and]
  constructor
  · rintro ⟨⟨h1, h2, h3, h4⟩, _⟩
    exact ⟨of_decide_eq_true h1, of_decide_eq_true h2, h3, ext_eq h4⟩
  · rintro ⟨h1, h2, h3, h4⟩
    exact ⟨⟨decide_eq_true h1, decide_eq_true h2, h3, by rw [h4]⟩, by unfold SamesP; rfl⟩
theorem same_kind {a b : V} (h : SameP a b) : a.k = b.k := by
  obtain ⟨k, n, r, t, ks, l⟩ := a
  unfold SameP at h
  have := h.1
  unfold bareB at this
  simp only [Bool.and_eq_true, decide_eq_true_eq] at this
  exact this.1
theorem sameB_kind {a b : V} (h : a.k ≠ b.k) : sameB a b = false := sameB_no fun e => h (same_kind e)
/-- == of two values that are neither lists nor dictionaries. -/
theorem eq_basic {w0 : World} {P Q : Nat → Prop} {a b : V} {x y : Value} {d d' : Int} (ha : Right a d) (hb : Right b d') (hk : a.k ≤ 5) (hk' : b.k ≤ 5) (hx : GoV w0 P a x) (hy : GoV w0 Q b y) :
    ∀ w, (binOp .eql 20 x y).run Tryz.prog w = .ok (.bool (sameB a b)) w := by
  have HS := same_basic ha hb hk hk'
  obtain ⟨k, n, r, t, ks, l⟩ := a
  obtain ⟨k', n', r', t', ks', l'⟩ := b
  obtain ⟨hn, hfr, ht⟩ := ha.bare
  obtain ⟨hn', hfr', ht'⟩ := hb.bare
  simp only [V.k, V.n, V.r, V.t] at hk hk' HS
  unfold GoV at hx hy
  rcases hx with ⟨rfl, rfl⟩ | ⟨rfl, rfl⟩ | ⟨rfl, rfl⟩ | ⟨rfl, rfl⟩ | ⟨rfl, rfl⟩ | ⟨rfl, rfl⟩ | ⟨rfl, _⟩ | ⟨rfl, _⟩
  · rcases hy with ⟨rfl, rfl⟩ | ⟨rfl, rfl⟩ | ⟨rfl, rfl⟩ | ⟨rfl, rfl⟩ | ⟨rfl, rfl⟩ | ⟨rfl, rfl⟩ | ⟨rfl, _⟩ | ⟨rfl, _⟩
    · have e : sameB (.mk 0 n r t ks l) (.mk 0 n' r' t' ks' l') = true := by
        rw [Bool.eq_iff_iff, sameB_iff, HS]
        simp at hn hn' ht ht' hfr hfr'
        simp only [true_and]
        rw [hn, hn', ht, ht']
        exact ⟨fun _ => trivial, fun _ => ⟨rfl, feq_of hfr hfr', rfl⟩⟩
      rw [e]
      exact fun w => by kernel_rfl
    · rw [sameB_kind (by simp [V.k])]
      generalize (n' == 1) = z'
      exact fun w => by kernel_rfl
    · rw [sameB_kind (by simp [V.k])]
      exact fun w => by kernel_rfl
    · rw [sameB_kind (by simp [V.k])]
      exact fun w => by kernel_rfl
    · rw [sameB_kind (by simp [V.k])]
      exact fun w => by kernel_rfl
    · rw [sameB_kind (by simp [V.k])]
      exact fun w => by kernel_rfl
    · omega
    · omega
  · rcases hy with ⟨rfl, rfl⟩ | ⟨rfl, rfl⟩ | ⟨rfl, rfl⟩ | ⟨rfl, rfl⟩ | ⟨rfl, rfl⟩ | ⟨rfl, rfl⟩ | ⟨rfl, _⟩ | ⟨rfl, _⟩
    · rw [sameB_kind (by simp [V.k])]
      generalize (n == 1) = z
      exact fun w => by kernel_rfl
    · have e : sameB (.mk 1 n r t ks l) (.mk 1 n' r' t' ks' l') = ((n == 1) == (n' == 1)) := by
        rw [Bool.eq_iff_iff, sameB_iff, HS]
        simp at hn hn' ht ht' hfr hfr'
        simp only [true_and]
        rw [ht, ht']
        constructor
        · rintro ⟨h, _⟩; rw [h]; simp
        · intro h
          refine ⟨?_, feq_of hfr hfr', rfl⟩
          split at hn <;> split at hn' <;> simp_all
      rw [e]
      generalize (n == 1) = z
      generalize (n' == 1) = z'
      exact fun w => by kernel_rfl
    · rw [sameB_kind (by simp [V.k])]
      generalize (n == 1) = z
      exact fun w => by kernel_rfl
    · rw [sameB_kind (by simp [V.k])]
      generalize (n == 1) = z
      exact fun w => by kernel_rfl
    · rw [sameB_kind (by simp [V.k])]
      generalize (n == 1) = z
      exact fun w => by kernel_rfl
    · rw [sameB_kind (by simp [V.k])]
      generalize (n == 1) = z
      exact fun w => by kernel_rfl
    · omega
    · omega
  · rcases hy with ⟨rfl, rfl⟩ | ⟨rfl, rfl⟩ | ⟨rfl, rfl⟩ | ⟨rfl, rfl⟩ | ⟨rfl, rfl⟩ | ⟨rfl, rfl⟩ | ⟨rfl, _⟩ | ⟨rfl, _⟩
    · rw [sameB_kind (by simp [V.k])]
      exact fun w => by kernel_rfl
    · rw [sameB_kind (by simp [V.k])]
      generalize (n' == 1) = z'
      exact fun w => by kernel_rfl
    · have e : sameB (.mk 2 n r t ks l) (.mk 2 n' r' t' ks' l') = (n == n') := by
        rw [Bool.eq_iff_iff, sameB_iff, HS]
        simp at hn hn' ht ht' hfr hfr'
        simp only [true_and]
        rw [ht, ht', beq_iff_eq]
        exact ⟨fun h => h.1, fun h => ⟨h, feq_of hfr hfr', rfl⟩⟩
      rw [e]
      exact fun w => by kernel_rfl
    · rw [sameB_kind (by simp [V.k])]
      exact fun w => by kernel_rfl
    · rw [sameB_kind (by simp [V.k])]
      exact fun w => by kernel_rfl
    · rw [sameB_kind (by simp [V.k])]
      exact fun w => by kernel_rfl
    · omega
    · omega
  · rcases hy with ⟨rfl, rfl⟩ | ⟨rfl, rfl⟩ | ⟨rfl, rfl⟩ | ⟨rfl, rfl⟩ | ⟨rfl, rfl⟩ | ⟨rfl, rfl⟩ | ⟨rfl, _⟩ | ⟨rfl, _⟩
    · rw [sameB_kind (by simp [V.k])]
      exact fun w => by kernel_rfl
    · rw [sameB_kind (by simp [V.k])]
      generalize (n' == 1) = z'
      exact fun w => by kernel_rfl
    · rw [sameB_kind (by simp [V.k])]
      exact fun w => by kernel_rfl
    · have e : sameB (.mk 3 n r t ks l) (.mk 3 n' r' t' ks' l') = (n == n') := by
        rw [Bool.eq_iff_iff, sameB_iff, HS]
        simp at hn hn' ht ht' hfr hfr'
        simp only [true_and]
        rw [ht, ht', beq_iff_eq]
        exact ⟨fun h => h.1, fun h => ⟨h, feq_of hfr hfr', rfl⟩⟩
      rw [e]
      exact fun w => by kernel_rfl
    · rw [sameB_kind (by simp [V.k])]
      exact fun w => by kernel_rfl
    · rw [sameB_kind (by simp [V.k])]
      exact fun w => by kernel_rfl
    · omega
    · omega
  · rcases hy with ⟨rfl, rfl⟩ | ⟨rfl, rfl⟩ | ⟨rfl, rfl⟩ | ⟨rfl, rfl⟩ | ⟨rfl, rfl⟩ | ⟨rfl, rfl⟩ | ⟨rfl, _⟩ | ⟨rfl, _⟩
    · rw [sameB_kind (by simp [V.k])]
      exact fun w => by kernel_rfl
    · rw [sameB_kind (by simp [V.k])]
      generalize (n' == 1) = z'
      exact fun w => by kernel_rfl
    · rw [sameB_kind (by simp [V.k])]
      exact fun w => by kernel_rfl
    · rw [sameB_kind (by simp [V.k])]
      exact fun w => by kernel_rfl
    · have e : sameB (.mk 4 n r t ks l) (.mk 4 n' r' t' ks' l') = feq r r' := by
        rw [Bool.eq_iff_iff, sameB_iff, HS]
        simp at hn hn' ht ht' hfr hfr'
        simp only [true_and]
        rw [hn, hn', ht, ht']
        exact ⟨fun h => h.2.1, fun h => ⟨rfl, h, rfl⟩⟩
      rw [e]
      exact fun w => by kernel_rfl
    · rw [sameB_kind (by simp [V.k])]
      exact fun w => by kernel_rfl
    · omega
    · omega
  · rcases hy with ⟨rfl, rfl⟩ | ⟨rfl, rfl⟩ | ⟨rfl, rfl⟩ | ⟨rfl, rfl⟩ | ⟨rfl, rfl⟩ | ⟨rfl, rfl⟩ | ⟨rfl, _⟩ | ⟨rfl, _⟩
    · rw [sameB_kind (by simp [V.k])]
      exact fun w => by kernel_rfl
    · rw [sameB_kind (by simp [V.k])]
      generalize (n' == 1) = z'
      exact fun w => by kernel_rfl
    · rw [sameB_kind (by simp [V.k])]
      exact fun w => by kernel_rfl
    · rw [sameB_kind (by simp [V.k])]
      exact fun w => by kernel_rfl
    · rw [sameB_kind (by simp [V.k])]
      exact fun w => by kernel_rfl
    · have e : sameB (.mk 5 n r t ks l) (.mk 5 n' r' t' ks' l') = (t == t') := by
        rw [Bool.eq_iff_iff, sameB_iff, HS]
        simp at hn hn' ht ht' hfr hfr'
        simp only [true_and]
        rw [hn, hn', beq_bytes, decide_eq_true_eq]
        exact ⟨fun h => h.2.2, fun h => ⟨rfl, feq_of hfr hfr', h⟩⟩
      rw [e]
      exact fun w => by kernel_rfl
    · omega
    · omega
  · omega
  · omega

theorem face_of {w : World} {P : Nat → Prop} {v : V} {x : Value} (h : GoV w P v x) : Face x := by
  obtain ⟨k, n, r, t, ks, l⟩ := v
  unfold GoV at h
  rcases h with ⟨rfl, rfl⟩ | ⟨rfl, rfl⟩ | ⟨rfl, rfl⟩ | ⟨rfl, rfl⟩ | ⟨rfl, rfl⟩ | ⟨rfl, rfl⟩ | ⟨rfl, a, c, xs, rfl, _⟩ | ⟨rfl, b, es, clk, xs, rfl, _⟩
  · exact .inl rfl
  all_goals exact .inr ⟨_, _, rfl⟩
/-- Two dictionaries whose keys are the same, each with the same value. -/
def DictSame (ks ks' : List ByteArray) (l l' : List V) : Prop := ks = ks' ∧ SamesP l l'
noncomputable def dictB (ks ks' : List ByteArray) (l l' : List V) : Bool := @decide (DictSame ks ks' l l') (Classical.propDecidable _)
theorem dictB_no {ks ks' : List ByteArray} {l l' : List V} (h : ¬ DictSame ks ks' l l') : dictB ks ks' l l' = false := @decide_eq_false _ (Classical.propDecidable _) h
theorem dictB_yes {ks ks' : List ByteArray} {l l' : List V} (h : DictSame ks ks' l l') : dictB ks ks' l l' = true := @decide_eq_true _ (Classical.propDecidable _) h
theorem asc_inj {ks : List ByteArray} (h : Asc ks) {i j : Nat} (hi : i < ks.length) (hj : j < ks.length) (e : ks[i] = ks[j]) : i = j := by
  have hp := List.pairwise_iff_getElem.1 h.nodup
  rcases Nat.lt_trichotomy i j with h | h | h
  · exact absurd e (hp i j hi hj h)
  · exact h
  · exact absurd e.symm (hp j i hj hi h)
/-- What one dictionary's keys and values have to do with the other one's: every one is there with the same value. -/
def Met (ks ks' : List ByteArray) (l l' : List V) (i : Nat) : Prop := ∃ j, ∃ (h : i < ks.length) (h' : j < ks'.length) (q : i < l.length) (q' : j < l'.length), ks'[j] = ks[i] ∧ SameP l[i] l'[j]
theorem dict_same {ks ks' : List ByteArray} {l l' : List V} (hl : ks.length = l.length) (hl' : ks'.length = l'.length) (ha : Asc ks) (ha' : Asc ks') (hk : ks.length = ks'.length) (h : ∀ i, i < ks.length → Met ks ks' l l' i) : DictSame ks ks' l l' := by
  have hsub : ∀ x ∈ ks, x ∈ ks' := fun x hx => by
    obtain ⟨i, hi, rfl⟩ := List.mem_iff_getElem.1 hx
    obtain ⟨j, _, hj, _, _, e, _⟩ := h i hi
    rw [← e]; exact List.getElem_mem hj
  have hsup : ∀ x ∈ ks', x ∈ ks := fun x hx => by
    by_cases hx' : x ∈ ks
    · exact hx'
    · have := len_le (l := x :: ks) (List.nodup_cons.2 ⟨hx', ha.nodup⟩) ks' (fun y hy => by
        rcases List.mem_cons.1 hy with rfl | hy
        · exact hx
        · exact hsub y hy)
      rw [List.length_cons] at this; omega
  have hperm : ks.Perm ks' := (List.perm_ext_iff_of_nodup ha.nodup ha'.nodup).2 fun x => ⟨hsub x, hsup x⟩
  have he : ks = ks' := by
    refine List.Perm.eq_of_pairwise (le := fun (a b : ByteArray) => Op.bytesLess a.toList b.toList = true) (fun a b _ _ h1 h2 => ?_) ha ha' hperm
    have := less_trans _ _ _ h1 h2
    rw [less_irrefl] at this; cases this
  subst he
  refine ⟨rfl, SamesP.mk (by omega) fun i hi hi' => ?_⟩
  obtain ⟨j, h1, h2, h3, h4, e, hs⟩ := h i (by omega)
  obtain rfl := asc_inj ha h2 h1 e
  exact hs
theorem entry_of {es : List MapEntry} {ks : List ByteArray} {xs : List Value} (hp : (es.map fun e => (e.key, e.val)).Perm ((ks.map Value.string).zip xs)) {e : MapEntry} (he : e ∈ es) : ∃ (i : Nat) (hi : i < ks.length) (hx : i < xs.length), e.key = .string ks[i] ∧ e.val = xs[i] := by
  have hm : (e.key, e.val) ∈ (ks.map Value.string).zip xs := hp.mem_iff.1 (List.mem_map.2 ⟨e, he, rfl⟩)
  obtain ⟨i, hi, h⟩ := List.mem_iff_getElem.1 hm
  rw [List.length_zip, List.length_map] at hi
  refine ⟨i, by omega, by omega, ?_⟩
  rw [List.getElem_zip] at h
  injection h with h1 h2
  exact ⟨by rw [← h1]; simp, h2.symm⟩
theorem mapLen {w : World} {b : Nat} {es : Array MapEntry} {clk : Nat} (hb : w.heap[b]? = some (.map es clk)) : (Builtin.len_ #[43] 3 #[.map (some b)]).run Tryz.prog w = .ok (.int .i64 (es.size : Int)) w := by
  simp [Builtin.len_, run_underlying Tryz.underlying43, MapKept.run_getObj_map hb, goInt, Result.andThen]
/-- What is asked of a dictionary, beside its entries in memory. -/
structure DictOk (ks : List ByteArray) (l : List V) (d : Int) : Prop where
  asc : Asc ks
  r : Rights l d

theorem bare_same {k n n' : Int} {r r' : Nat} {t t' : ByteArray} {ks ks' : List ByteArray} {l l' : List V} {d d' : Int} (ha : Right (.mk k n r t ks l) d) (hb : Right (.mk k n' r' t' ks' l') d') (hk : k = 6 ∨ k = 7) : bareB k n r t k n' r' t' = true := by
  obtain ⟨hn, hf, ht⟩ := ha.bare
  obtain ⟨hn', hf', ht'⟩ := hb.bare
  rw [if_neg (by omega), if_neg (by omega)] at hn hn'
  rw [if_neg (by omega)] at hf hf' ht ht'
  unfold bareB
  rw [hn, hn', ht, ht', feq_of hf hf']
  simp
theorem same_list {n n' : Int} {r r' : Nat} {t t' : ByteArray} {ks ks' : List ByteArray} {l l' : List V} {d d' : Int} (ha : Right (.mk 6 n r t ks l) d) (hb : Right (.mk 6 n' r' t' ks' l') d') : sameB (.mk 6 n r t ks l) (.mk 6 n' r' t' ks' l') = samesB l l' := by
  rw [Bool.eq_iff_iff, sameB_iff, samesB_iff]
  have hbs := bare_same ha hb (.inl rfl)
  unfold Right at ha hb
  obtain ⟨_, _, _, _, _, _, h7, _, _, _⟩ := ha
  obtain ⟨_, _, _, _, _, _, h7', _, _, _⟩ := hb
  obtain rfl := List.eq_nil_of_length_eq_zero (h7 (by omega))
  obtain rfl := List.eq_nil_of_length_eq_zero (h7' (by omega))
  unfold SameP
  exact ⟨fun h => h.2.2.2, fun h => ⟨hbs, rfl, h.len, h⟩⟩
theorem same_dict {n n' : Int} {r r' : Nat} {t t' : ByteArray} {ks ks' : List ByteArray} {l l' : List V} {d d' : Int} (ha : Right (.mk 7 n r t ks l) d) (hb : Right (.mk 7 n' r' t' ks' l') d') : sameB (.mk 7 n r t ks l) (.mk 7 n' r' t' ks' l') = dictB ks ks' l l' := by
  rw [Bool.eq_iff_iff, sameB_iff]
  have hbs := bare_same ha hb (.inr rfl)
  have e : dictB ks ks' l l' = true ↔ DictSame ks ks' l l' := @decide_eq_true_iff _ (Classical.propDecidable _)
  rw [e]
  unfold SameP
  exact ⟨fun h => ⟨h.2.1, h.2.2.2⟩, fun h => ⟨hbs, h.1, h.2.len, h.2⟩⟩
theorem dictOk_of {n : Int} {r : Nat} {t : ByteArray} {ks : List ByteArray} {l : List V} {d : Int} (h : Right (.mk 7 n r t ks l) d) : DictOk ks l (d - 1) := by
  unfold Right at h
  obtain ⟨_, _, _, _, _, _, _, h8, h9, h10⟩ := h
  refine ⟨asc_of_steps fun i h0 hi => (h9 rfl i (by have := h8 rfl; omega)).2 h0, h10⟩
end Go.Proofs.YtaclgcpfcejplaaGreatDoor.Vals
