/- Walk of sprig.zzEqual: whether two Go values are the same (as spec.Same says it of the data that they stand for). -/
import Derived.Test.YtlkfdjnkkooofaaValM2
import Derived.Test.YtlkfdjnkkooofaaValS
namespace Go.Proofs.Ytlkfdjnkkooofaa.Vals
open Go.RowKit Go.ChangeMaps Go.Proofs.YtlkfdjnkkooofaaW.PrintWords Go.Proofs.Ytlkfdjnkkooofaa.Txt
set_option linter.unusedVariables false
set_option maxRecDepth 20000

theorem zero_of {r : Nat} (h : feq r 0 = true) : ∃ s i, FloatKind.f64.format.read r = .number s 0 i := by
  unfold feq Ieee.Format.order at h
  have h0 : FloatKind.f64.format.read 0 = .number false 0 (-1074) := by rfl
  rw [h0] at h
  cases hr : FloatKind.f64.format.read r with
  | number s m i =>
    rw [hr] at h
    simp only [Ieee.Datum.order, beq_iff_eq, Option.some.injEq, cmp_eq] at h
    refine ⟨s, i, ?_⟩
    have hm : m = 0 := by
      unfold Ieee.signed at h
      simp only [Nat.shiftLeft_eq] at h
      have hp : 0 < 2 ^ (i - min i (-1074)).toNat := Nat.pow_pos (by omega)
      have : m * 2 ^ (i - min i (-1074)).toNat = 0 := by
        generalize m * 2 ^ (i - min i (-1074)).toNat = q at h ⊢
        cases s
        · simp only [Bool.false_eq_true, if_false, Nat.zero_mul] at h; omega
        · simp only [Bool.false_eq_true, if_false, if_true, Nat.zero_mul] at h; omega
      rcases Nat.mul_eq_zero.1 this with h | h
      · exact h
      · omega
    rw [hm]
  | infinity s => rw [hr] at h; cases s <;> simp [Ieee.Datum.order] at h
  | nan s f => rw [hr] at h; simp [Ieee.Datum.order] at h
theorem feq_of {r r' : Nat} (h : feq r 0 = true) (h' : feq r' 0 = true) : feq r r' = true := by
  obtain ⟨s, i, e⟩ := zero_of h
  obtain ⟨t, j, e'⟩ := zero_of h'
  unfold feq Ieee.Format.order
  rw [e, e']
  simp only [Ieee.Datum.order, beq_iff_eq, Option.some.injEq, cmp_eq]
  unfold Ieee.signed
  cases s <;> cases t <;> simp
/-- Neither a list nor a dictionary. -/
structure Basic (x : Value) : Prop where
  l : ∀ w, (Instr.typeAssert x 20 64 true).run Try.prog w = .ok (.tuple #[.slice none 0 0, .bool false]) w
  m : ∀ w, (Instr.typeAssert x 20 71 true).run Try.prog w = .ok (.tuple #[.map none, .bool false]) w
theorem basic_of {w : World} {P : Nat → Prop} {v : V} {x : Value} (h : GoV w P v x) (hk : v.k ≤ 5) : Basic x := by
  obtain ⟨k, n, r, t, ks, l⟩ := v
  simp only [V.k] at hk
  unfold GoV at h
  rcases h with ⟨rfl, rfl⟩ | ⟨rfl, rfl⟩ | ⟨rfl, rfl⟩ | ⟨rfl, rfl⟩ | ⟨rfl, rfl⟩ | ⟨rfl, rfl⟩ | ⟨rfl, _⟩ | ⟨rfl, _⟩
  · exact ⟨fun w => by kernel_rfl, fun w => by kernel_rfl⟩
  · obtain ⟨y, hy⟩ : ∃ y : Value, y = .bool (n == 1) := ⟨_, rfl⟩
    rw [← hy]
    exact ⟨fun w => by kernel_rfl, fun w => by kernel_rfl⟩
  · exact ⟨fun w => by kernel_rfl, fun w => by kernel_rfl⟩
  · exact ⟨fun w => by kernel_rfl, fun w => by kernel_rfl⟩
  · exact ⟨fun w => by kernel_rfl, fun w => by kernel_rfl⟩
  · exact ⟨fun w => by kernel_rfl, fun w => by kernel_rfl⟩
  · omega
  · omega
theorem same_basic {a b : V} {d d' : Int} (ha : Right a d) (hb : Right b d') (hk : a.k ≤ 5) (hk' : b.k ≤ 5) : SameP a b ↔ a.k = b.k ∧ a.n = b.n ∧ feq a.r b.r = true ∧ a.t = b.t := by
  obtain ⟨k, n, r, t, ks, l⟩ := a
  obtain ⟨k', n', r', t', ks', l'⟩ := b
  simp only [V.k, V.n, V.r, V.t] at *
  unfold Right at ha hb
  obtain ⟨_, hf, _, h4, _, _, h7, _, _, _⟩ := ha
  obtain ⟨_, hf', _, h4', _, _, h7', _, _, _⟩ := hb
  have hr := finB_refl hf
  obtain rfl := List.eq_nil_of_length_eq_zero (h4 (by omega) (by omega))
  obtain rfl := List.eq_nil_of_length_eq_zero (h4' (by omega) (by omega))
  obtain rfl := List.eq_nil_of_length_eq_zero (h7 (by omega))
  obtain rfl := List.eq_nil_of_length_eq_zero (h7' (by omega))
  unfold SameP
  unfold bareB
  simp only [V.k, V.n, V.r, V.t, V.ks, V.l, Bool.and_eq_true, Bool.or_eq_true, hr, Bool.not_true, Bool.false_and, Bool.false_eq_true, or_false, beq_iff_eq, true_and]
  constructor
  · rintro ⟨⟨h1, h2, h3, h4⟩, _⟩
    exact ⟨of_decide_eq_true h1, of_decide_eq_true h2, h3, ext_eq h4⟩
  · rintro ⟨h1, h2, h3, h4⟩
    exact ⟨⟨decide_eq_true h1, decide_eq_true h2, h3, by rw [h4]⟩, by unfold SamesP; rfl⟩
theorem same_kind {a b : V} (h : SameP a b) : a.k = b.k := by
  obtain ⟨k, n, r, t, ks, l⟩ := a
  unfold SameP at h
  have := h.1
  unfold bareB at this
  simp only [Bool.and_eq_true, decide_eq_true_eq] at this
  exact this.1
theorem sameB_kind {a b : V} (h : a.k ≠ b.k) : sameB a b = false := sameB_no fun e => h (same_kind e)
/-- == of two values that are neither lists nor dictionaries. -/
theorem eq_basic {w0 : World} {P Q : Nat → Prop} {a b : V} {x y : Value} {d d' : Int} (ha : Right a d) (hb : Right b d') (hk : a.k ≤ 5) (hk' : b.k ≤ 5) (hx : GoV w0 P a x) (hy : GoV w0 Q b y) :
    ∀ w, (binOp .eql 20 x y).run Try.prog w = .ok (.bool (sameB a b)) w := by
  have HS := same_basic ha hb hk hk'
  obtain ⟨k, n, r, t, ks, l⟩ := a
  obtain ⟨k', n', r', t', ks', l'⟩ := b
  obtain ⟨hn, hfr, ht⟩ := ha.bare
  obtain ⟨hn', hfr', ht'⟩ := hb.bare
  simp only [V.k, V.n, V.r, V.t] at hk hk' HS
  unfold GoV at hx hy
  rcases hx with ⟨rfl, rfl⟩ | ⟨rfl, rfl⟩ | ⟨rfl, rfl⟩ | ⟨rfl, rfl⟩ | ⟨rfl, rfl⟩ | ⟨rfl, rfl⟩ | ⟨rfl, _⟩ | ⟨rfl, _⟩
  · rcases hy with ⟨rfl, rfl⟩ | ⟨rfl, rfl⟩ | ⟨rfl, rfl⟩ | ⟨rfl, rfl⟩ | ⟨rfl, rfl⟩ | ⟨rfl, rfl⟩ | ⟨rfl, _⟩ | ⟨rfl, _⟩
    · have e : sameB (.mk 0 n r t ks l) (.mk 0 n' r' t' ks' l') = true := by
        rw [Bool.eq_iff_iff, sameB_iff, HS]
        simp at hn hn' ht ht' hfr hfr'
        simp only [true_and]
        rw [hn, hn', ht, ht']
        exact ⟨fun _ => trivial, fun _ => ⟨rfl, feq_of hfr hfr', rfl⟩⟩
      rw [e]
      exact fun w => by kernel_rfl
    · rw [sameB_kind (by simp [V.k])]
      generalize (n' == 1) = z'
      exact fun w => by kernel_rfl
    · rw [sameB_kind (by simp [V.k])]
      exact fun w => by kernel_rfl
    · rw [sameB_kind (by simp [V.k])]
      exact fun w => by kernel_rfl
    · rw [sameB_kind (by simp [V.k])]
      exact fun w => by kernel_rfl
    · rw [sameB_kind (by simp [V.k])]
      exact fun w => by kernel_rfl
    · omega
    · omega
  · rcases hy with ⟨rfl, rfl⟩ | ⟨rfl, rfl⟩ | ⟨rfl, rfl⟩ | ⟨rfl, rfl⟩ | ⟨rfl, rfl⟩ | ⟨rfl, rfl⟩ | ⟨rfl, _⟩ | ⟨rfl, _⟩
    · rw [sameB_kind (by simp [V.k])]
      generalize (n == 1) = z
      exact fun w => by kernel_rfl
    · have e : sameB (.mk 1 n r t ks l) (.mk 1 n' r' t' ks' l') = ((n == 1) == (n' == 1)) := by
        rw [Bool.eq_iff_iff, sameB_iff, HS]
        simp at hn hn' ht ht' hfr hfr'
        simp only [true_and]
        rw [ht, ht']
        constructor
        · rintro ⟨h, _⟩; rw [h]; simp
        · intro h
          refine ⟨?_, feq_of hfr hfr', rfl⟩
          split at hn <;> split at hn' <;> simp_all
      rw [e]
      generalize (n == 1) = z
      generalize (n' == 1) = z'
      exact fun w => by kernel_rfl
    · rw [sameB_kind (by simp [V.k])]
      generalize (n == 1) = z
      exact fun w => by kernel_rfl
    · rw [sameB_kind (by simp [V.k])]
      generalize (n == 1) = z
      exact fun w => by kernel_rfl
    · rw [sameB_kind (by simp [V.k])]
      generalize (n == 1) = z
      exact fun w => by kernel_rfl
    · rw [sameB_kind (by simp [V.k])]
      generalize (n == 1) = z
      exact fun w => by kernel_rfl
    · omega
    · omega
  · rcases hy with ⟨rfl, rfl⟩ | ⟨rfl, rfl⟩ | ⟨rfl, rfl⟩ | ⟨rfl, rfl⟩ | ⟨rfl, rfl⟩ | ⟨rfl, rfl⟩ | ⟨rfl, _⟩ | ⟨rfl, _⟩
    · rw [sameB_kind (by simp [V.k])]
      exact fun w => by kernel_rfl
    · rw [sameB_kind (by simp [V.k])]
      generalize (n' == 1) = z'
      exact fun w => by kernel_rfl
    · have e : sameB (.mk 2 n r t ks l) (.mk 2 n' r' t' ks' l') = (n == n') := by
        rw [Bool.eq_iff_iff, sameB_iff, HS]
        simp at hn hn' ht ht' hfr hfr'
        simp only [true_and]
        rw [ht, ht', beq_iff_eq]
        exact ⟨fun h => h.1, fun h => ⟨h, feq_of hfr hfr', rfl⟩⟩
      rw [e]
      exact fun w => by kernel_rfl
    · rw [sameB_kind (by simp [V.k])]
      exact fun w => by kernel_rfl
    · rw [sameB_kind (by simp [V.k])]
      exact fun w => by kernel_rfl
    · rw [sameB_kind (by simp [V.k])]
      exact fun w => by kernel_rfl
    · omega
    · omega
  · rcases hy with ⟨rfl, rfl⟩ | ⟨rfl, rfl⟩ | ⟨rfl, rfl⟩ | ⟨rfl, rfl⟩ | ⟨rfl, rfl⟩ | ⟨rfl, rfl⟩ | ⟨rfl, _⟩ | ⟨rfl, _⟩
    · rw [sameB_kind (by simp [V.k])]
      exact fun w => by kernel_rfl
    · rw [sameB_kind (by simp [V.k])]
      generalize (n' == 1) = z'
      exact fun w => by kernel_rfl
    · rw [sameB_kind (by simp [V.k])]
      exact fun w => by kernel_rfl
    · have e : sameB (.mk 3 n r t ks l) (.mk 3 n' r' t' ks' l') = (n == n') := by
        rw [Bool.eq_iff_iff, sameB_iff, HS]
        simp at hn hn' ht ht' hfr hfr'
        simp only [true_and]
        rw [ht, ht', beq_iff_eq]
        exact ⟨fun h => h.1, fun h => ⟨h, feq_of hfr hfr', rfl⟩⟩
      rw [e]
      exact fun w => by kernel_rfl
    · rw [sameB_kind (by simp [V.k])]
      exact fun w => by kernel_rfl
    · rw [sameB_kind (by simp [V.k])]
      exact fun w => by kernel_rfl
    · omega
    · omega
  · rcases hy with ⟨rfl, rfl⟩ | ⟨rfl, rfl⟩ | ⟨rfl, rfl⟩ | ⟨rfl, rfl⟩ | ⟨rfl, rfl⟩ | ⟨rfl, rfl⟩ | ⟨rfl, _⟩ | ⟨rfl, _⟩
    · rw [sameB_kind (by simp [V.k])]
      exact fun w => by kernel_rfl
    · rw [sameB_kind (by simp [V.k])]
      generalize (n' == 1) = z'
      exact fun w => by kernel_rfl
    · rw [sameB_kind (by simp [V.k])]
      exact fun w => by kernel_rfl
    · rw [sameB_kind (by simp [V.k])]
      exact fun w => by kernel_rfl
    · have e : sameB (.mk 4 n r t ks l) (.mk 4 n' r' t' ks' l') = feq r r' := by
        rw [Bool.eq_iff_iff, sameB_iff, HS]
        simp at hn hn' ht ht' hfr hfr'
        simp only [true_and]
        rw [hn, hn', ht, ht']
        exact ⟨fun h => h.2.1, fun h => ⟨rfl, h, rfl⟩⟩
      rw [e]
      exact fun w => by kernel_rfl
    · rw [sameB_kind (by simp [V.k])]
      exact fun w => by kernel_rfl
    · omega
    · omega
  · rcases hy with ⟨rfl, rfl⟩ | ⟨rfl, rfl⟩ | ⟨rfl, rfl⟩ | ⟨rfl, rfl⟩ | ⟨rfl, rfl⟩ | ⟨rfl, rfl⟩ | ⟨rfl, _⟩ | ⟨rfl, _⟩
    · rw [sameB_kind (by simp [V.k])]
      exact fun w => by kernel_rfl
    · rw [sameB_kind (by simp [V.k])]
      generalize (n' == 1) = z'
      exact fun w => by kernel_rfl
    · rw [sameB_kind (by simp [V.k])]
      exact fun w => by kernel_rfl
    · rw [sameB_kind (by simp [V.k])]
      exact fun w => by kernel_rfl
    · rw [sameB_kind (by simp [V.k])]
      exact fun w => by kernel_rfl
    · have e : sameB (.mk 5 n r t ks l) (.mk 5 n' r' t' ks' l') = (t == t') := by
        rw [Bool.eq_iff_iff, sameB_iff, HS]
        simp at hn hn' ht ht' hfr hfr'
        simp only [true_and]
        rw [hn, hn', beq_bytes, decide_eq_true_eq]
        exact ⟨fun h => h.2.2, fun h => ⟨rfl, feq_of hfr hfr', h⟩⟩
      rw [e]
      exact fun w => by kernel_rfl
    · omega
    · omega
  · omega
  · omega

theorem face_of {w : World} {P : Nat → Prop} {v : V} {x : Value} (h : GoV w P v x) : Face x := by
  obtain ⟨k, n, r, t, ks, l⟩ := v
  unfold GoV at h
  rcases h with ⟨rfl, rfl⟩ | ⟨rfl, rfl⟩ | ⟨rfl, rfl⟩ | ⟨rfl, rfl⟩ | ⟨rfl, rfl⟩ | ⟨rfl, rfl⟩ | ⟨rfl, a, c, xs, rfl, _⟩ | ⟨rfl, b, es, clk, xs, rfl, _⟩
  · exact .inl rfl
  all_goals exact .inr ⟨_, _, rfl⟩
theorem zzEqual_basic (x y : Value) (r : Bool) (fx : Face x) (fy : Face y) (hx : Basic x) (hy : Basic y) (he : ∀ w, (binOp .eql 20 x y).run Try.prog w = .ok (.bool r) w) (w : World) :
    Calls Try.prog 95 #[x, y] w fun e w' => e = .returned (.bool r) ∧ w' = w := by
  obtain ⟨x1, x2⟩ := hx
  obtain ⟨y1, y2⟩ := hy
  rcases fx with rfl | ⟨t, u, rfl⟩ <;> rcases fy with rfl | ⟨t', u', rfl⟩
  · have hq : ∀ w, (eqGuard .eql 20 (.tmp 118) (.tmp 119) .nilIface .nilIface).run Try.prog w = .ok () w := fun w => by kernel_rfl
    go_enter Try.func95, Try.ntmps95
    go_wp2_with fail
    go_ret
    exact ⟨rfl, rfl⟩
  all_goals
    go_enter Try.func95, Try.ntmps95
    go_wp2_with fail
    go_ret
    exact ⟨rfl, rfl⟩
/-- Something else against a list or a dictionary: not the same. -/
theorem zzEqual_basic_list (x : Value) (a : Addr) (n c : Nat) (fx : Face x) (hx : Basic x) (w : World) :
    Calls Try.prog 95 #[x, .iface 64 (.slice (some a) n c)] w fun e w' => e = .returned (.bool false) ∧ w' = w := by
  obtain ⟨x1, x2⟩ := hx
  have ta0 : ∀ w, (Instr.typeAssert (.iface 64 (.slice (some a) n c)) 20 64 true).run Try.prog w = .ok (.tuple #[.slice (some a) n c, .bool true]) w := fun w => by kernel_rfl
  have ta1 : ∀ w, (Instr.typeAssert (.iface 64 (.slice (some a) n c)) 20 71 true).run Try.prog w = .ok (.tuple #[.map none, .bool false]) w := fun w => by kernel_rfl
  rcases fx with rfl | ⟨t, u, rfl⟩
  all_goals
    go_enter Try.func95, Try.ntmps95
    go_wp2_with fail
    go_ret
    exact ⟨rfl, rfl⟩
theorem zzEqual_basic_map (x : Value) (b : Nat) (fx : Face x) (hx : Basic x) (w : World) :
    Calls Try.prog 95 #[x, .iface 71 (.map (some b))] w fun e w' => e = .returned (.bool false) ∧ w' = w := by
  obtain ⟨x1, x2⟩ := hx
  have tb0 : ∀ w, (Instr.typeAssert (.iface 71 (.map (some b))) 20 64 true).run Try.prog w = .ok (.tuple #[.slice none 0 0, .bool false]) w := fun w => by kernel_rfl
  have tb1 : ∀ w, (Instr.typeAssert (.iface 71 (.map (some b))) 20 71 true).run Try.prog w = .ok (.tuple #[.map (some b), .bool true]) w := fun w => by kernel_rfl
  rcases fx with rfl | ⟨t, u, rfl⟩
  all_goals
    go_enter Try.func95, Try.ntmps95
    go_wp2_with fail
    go_ret
    exact ⟨rfl, rfl⟩
theorem zzEqual_list_other (y : Value) (a : Addr) (n c : Nat) (hy : ∀ w, (Instr.typeAssert y 20 64 true).run Try.prog w = .ok (.tuple #[.slice none 0 0, .bool false]) w) (w : World) :
    Calls Try.prog 95 #[.iface 64 (.slice (some a) n c), y] w fun e w' => e = .returned (.bool false) ∧ w' = w := by
  have ta0 : ∀ w, (Instr.typeAssert (.iface 64 (.slice (some a) n c)) 20 64 true).run Try.prog w = .ok (.tuple #[.slice (some a) n c, .bool true]) w := fun w => by kernel_rfl
  have ta1 : ∀ w, (Instr.typeAssert (.iface 64 (.slice (some a) n c)) 20 71 true).run Try.prog w = .ok (.tuple #[.map none, .bool false]) w := fun w => by kernel_rfl
  go_enter Try.func95, Try.ntmps95
  go_wp2_with fail
  go_ret
  exact ⟨rfl, rfl⟩
theorem zzEqual_map_other (y : Value) (b : Nat) (hy : ∀ w, (Instr.typeAssert y 20 71 true).run Try.prog w = .ok (.tuple #[.map none, .bool false]) w) (w : World) :
    Calls Try.prog 95 #[.iface 71 (.map (some b)), y] w fun e w' => e = .returned (.bool false) ∧ w' = w := by
  have tb0 : ∀ w, (Instr.typeAssert (.iface 71 (.map (some b))) 20 64 true).run Try.prog w = .ok (.tuple #[.slice none 0 0, .bool false]) w := fun w => by kernel_rfl
  have tb1 : ∀ w, (Instr.typeAssert (.iface 71 (.map (some b))) 20 71 true).run Try.prog w = .ok (.tuple #[.map (some b), .bool true]) w := fun w => by kernel_rfl
  go_enter Try.func95, Try.ntmps95
  go_wp2_with fail
  go_ret
  exact ⟨rfl, rfl⟩
def EqOk (a : V) : Prop := ∀ (b : V) (d d' : Int) (x y : Value) (P Q : Nat → Prop) (w : World), Right a d → Right b d' → GoV w P a x → GoV w Q b y →
  Calls Try.prog 95 #[x, y] w (TheBool (sameB a b) fun w' => Below w.heap.size w w')

set_option maxHeartbeats 4000000 in
theorem eqList_step (l m : List V) (d d' : Int) (hok : ∀ i (h : i < l.length), EqOk l[i]) (hr : Rights l d) (hr' : Rights m d') (a a' : Addr) (c c' : Nat) (xs ys : List Value) (P Q : Nat → Prop) (w : World)
    (hl : RowIs w P 1 (.slice (some a) l.length c) l.length xs) (hv : GoVs w P l xs) (hm : RowIs w Q 1 (.slice (some a') m.length c') m.length ys) (hu : GoVs w Q m ys) :
    Calls Try.prog 95 #[.iface 64 (.slice (some a) l.length c), .iface 64 (.slice (some a') m.length c')] w (TheBool (samesB l m) fun w' => Below w.heap.size w w') := by
  have hel : ∀ i (hi : i < l.length), ∃ b o x, a = ⟨b, o, none⟩ ∧ b < w.heap.size ∧ GoV w P l[i] x ∧ w.cell? ⟨b, o + i, none⟩ = some x := fun i hi => by
    obtain ⟨b, o, hA, hb, hc⟩ := hl.cell1 (by omega)
    obtain ⟨x, hx, hg⟩ := hv.at_ i hi
    exact ⟨b, o, x, hA, hb, hg, hc i x hx⟩
  have hem : ∀ i (hi : i < m.length), ∃ b o x, a' = ⟨b, o, none⟩ ∧ b < w.heap.size ∧ GoV w Q m[i] x ∧ w.cell? ⟨b, o + i, none⟩ = some x := fun i hi => by
    obtain ⟨b, o, hA, hb, hc⟩ := hm.cell1 (by omega)
    obtain ⟨x, hx, hg⟩ := hu.at_ i hi
    exact ⟨b, o, x, hA, hb, hg, hc i x hx⟩
  have HEL := Lib.hid hel
  have HEM := Lib.hid hem
  have HOK := Lib.hid hok
  have HR := Lib.hid (And.intro hr hr')
  obtain ⟨hnc, hcm⟩ := hl.sizes
  obtain ⟨hnc', hcm'⟩ := hm.sizes
  unfold maxLen at hcm hcm'
  clear hok hl hv hm hu hel hem hr hr'
  by_cases hlen : l.length = m.length
  · obtain ⟨n, hn⟩ : ∃ n, n = l.length := ⟨_, rfl⟩
    have hmn : m.length = n := by omega
    rw [← hn] at hnc ⊢
    rw [hmn] at hnc' ⊢
    have HN := Lib.hid (And.intro hn hmn)
    clear hn hmn hlen
    have ta0 : ∀ w, (Instr.typeAssert (.iface 64 (.slice (some a) n c)) 20 64 true).run Try.prog w = .ok (.tuple #[.slice (some a) n c, .bool true]) w := fun w => by kernel_rfl
    have tb0 : ∀ w, (Instr.typeAssert (.iface 64 (.slice (some a') n c')) 20 64 true).run Try.prog w = .ok (.tuple #[.slice (some a') n c', .bool true]) w := fun w => by kernel_rfl
    have eq1 : ∀ w, (binOp .eql 64 (.slice (some a) n c) (.slice none 0 0)).run Try.prog w = .ok (.bool false) w := fun w => by kernel_rfl
    have eq2 : ∀ w, (binOp .eql 64 (.slice (some a') n c') (.slice none 0 0)).run Try.prog w = .ok (.bool false) w := fun w => by kernel_rfl
    go_enter Try.func95, Try.ntmps95
    go_wp2_with fail
    go_loopg [8, 47] n (fun kq v8 v47 wr => ∃ (i : Nat) (z : Value), v8 = z ∧ v47 = .int .i64 (i : Int) ∧ i + kq = n ∧ Hid (Below w.heap.size w wr) ∧ Hid (∀ j (h : j < l.length) (h' : j < m.length), j < i → SameP l[j] m[j]))
    case atStart => exact ⟨0, _, rfl, rfl, by omega, Lib.hid (Below.refl _ _), Lib.hid (fun j _ _ hj => by omega)⟩
    case round =>
      obtain ⟨i, z, rfl, rfl, hik, H1, H2⟩ := hrel
      cases gk with
      | zero =>
        have hi : ¬ i < n := by omega
        have HIN := Lib.hid hik
        clear hik
        go_wp2_with fail
        go_ret
        exact ⟨_, rfl, Lib.hid (samesB_yes (SamesP.mk (by have := HN.out; omega) fun j hj hj' => H2.out j hj hj' (by have := HN.out; have := HIN.out; omega))), H1.out⟩
      | succ mm =>
        have hi : i < n := by omega
        have hi' : i < l.length := by have := HN.out; omega
        have hi'' : i < m.length := by have := HN.out; omega
        obtain ⟨eb, eo, x, hA, hebs, hgx, e0⟩ := HEL.out i hi'
        obtain ⟨fb, fo, y, hA', hfbs, hgy, f0⟩ := HEM.out i hi''
        subst hA
        subst hA'
        have hok := HOK.out i hi'
        have hru := HR.out.1.at_ i hi'
        have hrv := HR.out.2.at_ i hi''
        obtain ⟨u, hu⟩ : ∃ u, u = l[i] := ⟨_, rfl⟩
        obtain ⟨v, hv⟩ : ∃ v, v = m[i] := ⟨_, rfl⟩
        rw [← hu] at hgx hok hru
        rw [← hv] at hgy hrv
        have hs1 := H1.out.size
        have hebw : eb < wr.heap.size := by omega
        have hfbw : fb < wr.heap.size := by omega
        have g0 : ∀ X : Near wr.heap.size wr, X.W.cell? ⟨eb, eo + i, none⟩ = some x := fun X => X.cell hebw ((H1.out.cell (p := ⟨eb, eo + i, none⟩) hebs).trans e0)
        have d0 : ∀ X : Near wr.heap.size wr, X.W.cell? ⟨fb, fo + i, none⟩ = some y := fun X => X.cell hfbw ((H1.out.cell (p := ⟨fb, fo + i, none⟩) hfbs).trans f0)
        have HCALL : ∀ bu : Bool, sameB u v = bu → Hid (∀ X : Near wr.heap.size wr, Calls Try.prog 95 #[x, y] X.W
            fun e w' => e = .returned (.bool bu) ∧ ∃ Y : Near wr.heap.size wr, w' = Y.W) := fun bu hbu => Lib.hid fun X =>
          (hok v d d' x y P Q X.W hru hrv (GoV.keep ((Kept.below H1.out).trans (Kept.below X.h)) u hgx) (GoV.keep ((Kept.below H1.out).trans (Kept.below X.h)) v hgy)).mono fun e w' ⟨r, he, hr, hB⟩ => ⟨by rw [he, ← hr.out, hbu], X.of hB (Nat.le_refl _)⟩
        have HAB := Lib.hid (And.intro hu hv)
        have HIK := Lib.hid hik
        have hii0 : (0 : Int) ≤ (i : Int) := by omega
        have hiin : (i : Int) < (n : Int) := by omega
        clear e0 f0 hgx hgy hu hv hik hok hs1 hru hrv
        go_upto_region 10 with fail
        cases hru : sameB u v with
        | false =>
          have HC := HCALL _ hru
          have HRU := Lib.hid hru
          clear HCALL hru
          refine wp_region_near wr.heap.size wr (by kernel_rfl) (by kernel_rfl) (Below.refl _ _) ?_
          repeat (go_big_quiet_step ((exact HC.out _)))
          refine wpQuiet_nil ?_
          intro _ hw'
          obtain ⟨⟨W1, hW1⟩, rfl⟩ := hw'
          have HB1 := Lib.hid (H1.out.trans (hW1.mono H1.out.size))
          clear hW1
          go_wp2_with fail
          go_ret
          refine ⟨_, rfl, Lib.hid (samesB_no fun hh => ?_), HB1.out⟩
          have := SamesP.at_ hh i hi' hi''
          rw [← HAB.out.1, ← HAB.out.2] at this
          have := sameB_yes this
          rw [HRU.out] at this; cases this
        | true =>
          have HC := HCALL _ hru
          have HRU := Lib.hid (sameB_iff.1 hru)
          clear HCALL hru
          refine wp_region_near wr.heap.size wr (by kernel_rfl) (by kernel_rfl) (Below.refl _ _) ?_
          repeat (go_big_quiet_step ((exact HC.out _)))
          refine wpQuiet_nil ?_
          intro _ hw'
          obtain ⟨⟨W1, hW1⟩, rfl⟩ := hw'
          have HB1 := Lib.hid (H1.out.trans (hW1.mono H1.out.size))
          clear hW1
          go_wp2_with fail
          go_roundg mm
          case measure => exact Nat.lt_succ_self mm
          case rel =>
            refine ⟨i + 1, _, rfl, by simp, by have := HIK.out; omega, HB1, Lib.hid (fun j hj hj' hji => ?_)⟩
            by_cases e : j = i
            · subst e
              have := HRU.out
              rw [HAB.out.1, HAB.out.2] at this
              exact this
            · exact H2.out j hj hj' (by omega)
  · have hne : ((l.length : Int) != (m.length : Int)) = true := by simp; omega
    have hne' : ((l.length : Int) == (m.length : Int)) = false := by simp; omega
    have HLEN := Lib.hid hlen
    clear hlen
    obtain ⟨n, hn⟩ : ∃ n, n = l.length := ⟨_, rfl⟩
    obtain ⟨n', hn'⟩ : ∃ n, n = m.length := ⟨_, rfl⟩
    rw [← hn, ← hn'] at hne hne'
    rw [← hn] at hnc ⊢
    rw [← hn'] at hnc' ⊢
    clear hn hn'
    have ta0 : ∀ w, (Instr.typeAssert (.iface 64 (.slice (some a) n c)) 20 64 true).run Try.prog w = .ok (.tuple #[.slice (some a) n c, .bool true]) w := fun w => by kernel_rfl
    have tb0 : ∀ w, (Instr.typeAssert (.iface 64 (.slice (some a') n' c')) 20 64 true).run Try.prog w = .ok (.tuple #[.slice (some a') n' c', .bool true]) w := fun w => by kernel_rfl
    go_enter Try.func95, Try.ntmps95
    go_wp2_with fail
    go_ret
    exact ⟨_, rfl, Lib.hid (samesB_no fun h => HLEN.out h.len), Below.refl _ _⟩
/-- Two dictionaries whose keys are the same, each with the same value. -/
def DictSame (ks ks' : List ByteArray) (l l' : List V) : Prop := ks = ks' ∧ SamesP l l'
noncomputable def dictB (ks ks' : List ByteArray) (l l' : List V) : Bool := @decide (DictSame ks ks' l l') (Classical.propDecidable _)
theorem dictB_no {ks ks' : List ByteArray} {l l' : List V} (h : ¬ DictSame ks ks' l l') : dictB ks ks' l l' = false := @decide_eq_false _ (Classical.propDecidable _) h
theorem dictB_yes {ks ks' : List ByteArray} {l l' : List V} (h : DictSame ks ks' l l') : dictB ks ks' l l' = true := @decide_eq_true _ (Classical.propDecidable _) h
theorem asc_inj {ks : List ByteArray} (h : Asc ks) {i j : Nat} (hi : i < ks.length) (hj : j < ks.length) (e : ks[i] = ks[j]) : i = j := by
  have hp := List.pairwise_iff_getElem.1 h.nodup
  rcases Nat.lt_trichotomy i j with h | h | h
  · exact absurd e (hp i j hi hj h)
  · exact h
  · exact absurd e.symm (hp j i hj hi h)
/-- What one dictionary's keys and values have to do with the other one's: every one is there with the same value. -/
def Met (ks ks' : List ByteArray) (l l' : List V) (i : Nat) : Prop := ∃ j, ∃ (h : i < ks.length) (h' : j < ks'.length) (q : i < l.length) (q' : j < l'.length), ks'[j] = ks[i] ∧ SameP l[i] l'[j]
theorem dict_same {ks ks' : List ByteArray} {l l' : List V} (hl : ks.length = l.length) (hl' : ks'.length = l'.length) (ha : Asc ks) (ha' : Asc ks') (hk : ks.length = ks'.length) (h : ∀ i, i < ks.length → Met ks ks' l l' i) : DictSame ks ks' l l' := by
  have hsub : ∀ x ∈ ks, x ∈ ks' := fun x hx => by
    obtain ⟨i, hi, rfl⟩ := List.mem_iff_getElem.1 hx
    obtain ⟨j, _, hj, _, _, e, _⟩ := h i hi
    rw [← e]; exact List.getElem_mem hj
  have hsup : ∀ x ∈ ks', x ∈ ks := fun x hx => by
    by_cases hx' : x ∈ ks
    · exact hx'
    · have := len_le (l := x :: ks) (List.nodup_cons.2 ⟨hx', ha.nodup⟩) ks' (fun y hy => by
        rcases List.mem_cons.1 hy with rfl | hy
        · exact hx
        · exact hsub y hy)
      rw [List.length_cons] at this; omega
  have hperm : ks.Perm ks' := (List.perm_ext_iff_of_nodup ha.nodup ha'.nodup).2 fun x => ⟨hsub x, hsup x⟩
  have he : ks = ks' := by
    refine List.Perm.eq_of_pairwise (le := fun (a b : ByteArray) => Op.bytesLess a.toList b.toList = true) (fun a b _ _ h1 h2 => ?_) ha ha' hperm
    have := less_trans _ _ _ h1 h2
    rw [less_irrefl] at this; cases this
  subst he
  refine ⟨rfl, SamesP.mk (by omega) fun i hi hi' => ?_⟩
  obtain ⟨j, h1, h2, h3, h4, e, hs⟩ := h i (by omega)
  obtain rfl := asc_inj ha h2 h1 e
  exact hs
theorem entry_of {es : List MapEntry} {ks : List ByteArray} {xs : List Value} (hp : (es.map fun e => (e.key, e.val)).Perm ((ks.map Value.string).zip xs)) {e : MapEntry} (he : e ∈ es) : ∃ (i : Nat) (hi : i < ks.length) (hx : i < xs.length), e.key = .string ks[i] ∧ e.val = xs[i] := by
  have hm : (e.key, e.val) ∈ (ks.map Value.string).zip xs := hp.mem_iff.1 (List.mem_map.2 ⟨e, he, rfl⟩)
  obtain ⟨i, hi, h⟩ := List.mem_iff_getElem.1 hm
  rw [List.length_zip, List.length_map] at hi
  refine ⟨i, by omega, by omega, ?_⟩
  rw [List.getElem_zip] at h
  injection h with h1 h2
  exact ⟨by rw [← h1]; simp, h2.symm⟩
theorem mapLen {w : World} {b : Nat} {es : Array MapEntry} {clk : Nat} (hb : w.heap[b]? = some (.map es clk)) : (Builtin.len_ #[71] 3 #[.map (some b)]).run Try.prog w = .ok (.int .i64 (es.size : Int)) w := by
  simp [Builtin.len_, run_underlying Try.underlying71, MapKept.run_getObj_map hb, goInt, Result.andThen]
/-- What is asked of a dictionary, beside its entries in memory. -/
structure DictOk (ks : List ByteArray) (l : List V) (d : Int) : Prop where
  asc : Asc ks
  r : Rights l d

set_option maxHeartbeats 4000000 in
theorem eqDict_step (ks ks' : List ByteArray) (l l' : List V) (d d' : Int) (hok : ∀ i (h : i < l.length), EqOk l[i]) (hr : DictOk ks l d) (hr' : DictOk ks' l' d') (b b' : Nat) (P Q : Nat → Prop) (w : World)
    (hm : MapIs w P ks l b) (hm' : MapIs w Q ks' l' b') :
    Calls Try.prog 95 #[.iface 71 (.map (some b)), .iface 71 (.map (some b'))] w (TheBool (dictB ks ks' l l') fun w' => Below w.heap.size w w') := by
  obtain ⟨es, clk, xs, hP, hb, hborn, hnd, hsz, hlen, hperm, hg⟩ := hm
  obtain ⟨es', clk', xs', hP', hb', hborn', hnd', hsz', hlen', hperm', hg'⟩ := hm'
  have hxl : xs.length = ks.length := by rw [hg.len]; omega
  have hxl' : xs'.length = ks'.length := by rw [hg'.len]; omega
  have hkp := keys_perm hperm (by omega)
  have hkp' := keys_perm hperm' (by omega)
  have hel : es.size = ks.length := by have := hkp.length_eq; simpa using this
  have hel' : es'.size = ks'.length := by have := hkp'.length_eq; simpa using this
  have hln := mapLen hb
  have hln' := mapLen hb'
  rw [hel] at hln
  rw [hel'] at hln'
  have HOK := Lib.hid hok
  have HR := Lib.hid (And.intro hr hr')
  have HG := Lib.hid (And.intro hg hg')
  have HPERM := Lib.hid (And.intro hperm hperm')
  have HKP := Lib.hid (And.intro hkp hkp')
  have HXL := Lib.hid (And.intro hxl hxl')
  have HLEN := Lib.hid (And.intro hlen hlen')
  have hbl : b < w.heap.size := blk_lt hb
  have hbl' : b' < w.heap.size := blk_lt hb'
  have HBL := Lib.hid (And.intro hbl hbl')
  have HB := Lib.hid (And.intro hb hb')
  have HBORN := Lib.hid hborn
  have HND := Lib.hid hnd
  clear hok hr hr' hg hg' hperm hperm' hkp hkp' hxl hxl' hlen hlen' hb hb' hborn hborn' hnd hnd' hsz hsz' hbl hbl' hP hP' hel hel'
  have tb0 : ∀ w, (Instr.typeAssert (.iface 71 (.map (some b))) 20 64 true).run Try.prog w = .ok (.tuple #[.slice none 0 0, .bool false]) w := fun w => by kernel_rfl
  have tb1 : ∀ w, (Instr.typeAssert (.iface 71 (.map (some b))) 20 71 true).run Try.prog w = .ok (.tuple #[.map (some b), .bool true]) w := fun w => by kernel_rfl
  have tc1 : ∀ w, (Instr.typeAssert (.iface 71 (.map (some b'))) 20 71 true).run Try.prog w = .ok (.tuple #[.map (some b'), .bool true]) w := fun w => by kernel_rfl
  have eq3 : ∀ w, (binOp .eql 71 (.map (some b)) (.map none)).run Try.prog w = .ok (.bool false) w := fun w => by kernel_rfl
  have eq4 : ∀ w, (binOp .eql 71 (.map (some b')) (.map none)).run Try.prog w = .ok (.bool false) w := fun w => by kernel_rfl
  by_cases hke : ks.length = ks'.length
  · obtain ⟨n, hn⟩ : ∃ n, n = ks.length := ⟨_, rfl⟩
    rw [← hke, ← hn] at hln'
    rw [← hn] at hln
    have HN := Lib.hid hn
    have HKE := Lib.hid hke
    clear hn hke
    go_enter Try.func95, Try.ntmps95
    go_wp2_with (at_range; go_must (refine wpList_range_at _ rfl _ _ rfl _ _ Try.underlying71 b es clk rfl HB.out.1 w.heap.size rfl ?_))
    go_frame
    go_loopg [12] (leftOf es #[]).size (fun kq v12 wr => ∃ (seen : Array Nat) (done : List MapEntry), (leftOf es seen).size = kq ∧ Hid (Seen es seen done) ∧ Hid (wr.heap[w.heap.size]? = some (.mapIter (some b) clk seen clk)) ∧
      Hid (∀ e ∈ done, ∀ i (h : i < ks.length), e.key = .string ks[i] → Met ks ks' l l' i) ∧ Hid (Below w.heap.size w wr))
    case atStart => exact ⟨#[], [], rfl, Lib.hid (Seen.start es), Lib.hid (heap_alloc_new w _), Lib.hid (fun e he => absurd he (by simp)), Lib.hid ((Below.refl _ _).alloc (Nat.le_refl _) _)⟩
    case round =>
      obtain ⟨seen, done, hkq, HSN, HIT, HME, HBE⟩ := hrel
      have HKQ := Lib.hid hkq
      clear hkq
      go_wp2_with (at_next; refine wpList_next_at _ rfl _ rfl w.heap.size b clk seen es done rfl HIT.out ((HBE.out.block b HBL.out.1).trans HB.out.1) (fun x hx => HBORN.out x (by simpa using hx)) (by have := HBL.out; omega) HND.out HSN.out ?_ ?_)
      · intro h0
        have hdp := HSN.out.done HND.out (by rw [h0.out]; rfl)
        have HDP := Lib.hid hdp
        clear hdp h0
        go_wp2_with fail
        go_ret
        refine ⟨_, rfl, Lib.hid (dictB_yes (dict_same HLEN.out.1 HLEN.out.2 HR.out.1.asc HR.out.2.asc HKE.out fun i hi => ?_)), HBE.out⟩
        obtain ⟨e, he, hek, _⟩ := entry_at HPERM.out.1 i hi (by have := HXL.out.1; omega)
        exact HME.out e (HDP.out.mem_iff.2 he) i hi hek
      · intro e w1 HALL hen
        obtain ⟨he, hsn, hlt, hit, hoth, hsz, hbel, hgr⟩ := HALL.out
        replace he : e ∈ es.toList := by simpa using he
        clear HALL
        obtain ⟨i, hik, hix, hkey, hval⟩ := entry_of HPERM.out.1 he
        have hil : i < l.length := by have := HLEN.out.1; omega
        obtain ⟨x, hx, hgx⟩ := HG.out.1.at_ i hil
        have hxx : e.val = x := by rw [hval]; rw [List.getElem?_eq_getElem hix] at hx; injection hx
        obtain ⟨key, val, born⟩ := e
        simp only at hkey hxx hen
        subst hkey
        subst hxx
        obtain ⟨s, hs⟩ : ∃ s, s = ks[i] := ⟨_, rfl⟩
        have hb1 : Below w.heap.size w w1 := hbel _ _ HBE.out (Nat.le_refl _)
        have hb'1 : w1.heap[b']? = some (.map es' clk') := (hb1.block b' HBL.out.2).trans HB.out.2
        rw [← hs] at hen ⊢
        have HSN1 := Lib.hid hsn
        have HLT := Lib.hid hlt
        have HIT1 := Lib.hid hit
        have HB1 := Lib.hid hb1
        have HS := Lib.hid hs
        have hok := HOK.out i hil
        have hru := HR.out.1.r.at_ i hil
        by_cases hin : s ∈ ks'
        · obtain ⟨j, hj, hjs⟩ := List.mem_iff_getElem.1 hin
          have hjl : j < l'.length := by have := HLEN.out.2; omega
          have hjx : j < xs'.length := by have := HXL.out.2; omega
          obtain ⟨e', he', hek', hev'⟩ := entry_at HPERM.out.2 j hj hjx
          obtain ⟨y, hy, hgy⟩ := HG.out.2.at_ j hjl
          have hyy : e'.val = y := by rw [hev']; rw [List.getElem?_eq_getElem hjx] at hy; injection hy
          have hlook := run_lookup_yes (P := Try.prog) (w := w1) Try.underlying71 Try.underlying9 hb'1 (keys_text HKP.out.2) s he' (by rw [hek', hjs]) (keys_nodup HKP.out.2 HR.out.2.asc) true
          rw [hyy] at hlook
          simp only [if_true] at hlook
          have hrv := HR.out.2.r.at_ j hjl
          obtain ⟨u, hu⟩ : ∃ u, u = l[i] := ⟨_, rfl⟩
          obtain ⟨v, hv⟩ : ∃ v, v = l'[j] := ⟨_, rfl⟩
          rw [← hu] at hgx hok hru
          rw [← hv] at hgy hrv
          have HCALL := Lib.hid (hok v d d' val y P Q w1 hru hrv (GoV.keep (Kept.below hb1) u hgx) (GoV.keep (Kept.below hb1) v hgy))
          have HX := Lib.hid (And.intro hu (And.intro hv hjs))
          have HSZ : Hid (w.heap.size < w1.heap.size) := Lib.hid (blk_lt hit)
          clear hs hok hru hrv hin hjs he' hek' hev' hy hgy hyy hgx hu hv hb1 hb'1 he hsn hlt hit hoth hsz hbel hgr hx hval
          go_wp2_with fail
          refine (HCALL.out).mono ?_
          rintro e w2 ⟨r, rfl, HRR, hb2⟩
          have HB2 := Lib.hid (HB1.out.trans (hb2.mono HB1.out.size))
          have HIT2 := Lib.hid ((hb2.block _ HSZ.out).trans HIT1.out)
          clear hb2
          cases r with
          | false =>
            go_wp2_with fail
            go_ret
            refine ⟨_, rfl, Lib.hid (dictB_no fun hh => ?_), HB2.out⟩
            obtain ⟨e1, e2⟩ := hh
            obtain ⟨x1, x2, x3⟩ := HX.out
            have hij : i = j := asc_inj HR.out.1.asc hik (by rw [e1]; exact hj) (by rw [← HS.out, ← x3]; simp only [e1])
            subst hij
            have := e2.at_ i hil hjl
            rw [← x1, ← x2] at this
            have := sameB_yes this
            rw [HRR.out] at this; cases this
          | true =>
            have HSM := Lib.hid (sameB_iff.1 HRR.out)
            go_wp2_with fail
            go_roundg (leftOf es (seen.push born)).size
            case measure => rw [← HKQ.out]; exact HLT.out
            case rel =>
              refine ⟨seen.push born, done ++ [⟨.string ks[i], val, born⟩], rfl, HSN1, HIT2, Lib.hid (fun e he i' hi' hek => ?_), HB2⟩
              rcases List.mem_append.1 he with he | he
              · exact HME.out e he i' hi' hek
              · obtain rfl := List.mem_singleton.1 he
                injection hek with hek
                obtain rfl := asc_inj HR.out.1.asc hik hi' hek
                obtain ⟨x1, x2, x3⟩ := HX.out
                refine ⟨j, hik, hj, hil, hjl, by rw [x3, HS.out], ?_⟩
                rw [← x1, ← x2]; exact HSM.out
        · have hlook := run_lookup_no (P := Try.prog) (w := w1) Try.underlying71 Try.underlying9 hb'1 (keys_text HKP.out.2) s (fun e' he' hek' => hin (by
            obtain ⟨j, hj, _, h1, _⟩ := entry_of HPERM.out.2 he'
            rw [h1] at hek'
            injection hek' with hek'
            rw [← hek']; exact List.getElem_mem hj)) (z := .nilIface) (by kernel_rfl) true
          simp only [if_true] at hlook
          have HIN := Lib.hid hin
          clear hs hok hru hin hgx hb1 hb'1 he hsn hlt hit hoth hsz hbel hgr hx hval
          go_wp2_with fail
          go_ret
          refine ⟨_, rfl, Lib.hid (dictB_no fun hh => ?_), HB1.out⟩
          exact HIN.out (by rw [HS.out, ← hh.1]; exact List.getElem_mem hik)
  · have hne : ((ks.length : Int) != (ks'.length : Int)) = true := by simp; omega
    have hne' : ((ks.length : Int) == (ks'.length : Int)) = false := by simp; omega
    have HKE := Lib.hid hke
    clear hke
    go_enter Try.func95, Try.ntmps95
    go_wp2_with fail
    go_ret
    exact ⟨_, rfl, Lib.hid (dictB_no fun h => HKE.out (by rw [h.1])), Below.refl _ _⟩
theorem bare_same {k n n' : Int} {r r' : Nat} {t t' : ByteArray} {ks ks' : List ByteArray} {l l' : List V} {d d' : Int} (ha : Right (.mk k n r t ks l) d) (hb : Right (.mk k n' r' t' ks' l') d') (hk : k = 6 ∨ k = 7) : bareB k n r t k n' r' t' = true := by
  obtain ⟨hn, hf, ht⟩ := ha.bare
  obtain ⟨hn', hf', ht'⟩ := hb.bare
  rw [if_neg (by omega), if_neg (by omega)] at hn hn'
  rw [if_neg (by omega)] at hf hf' ht ht'
  unfold bareB
  rw [hn, hn', ht, ht', feq_of hf hf']
  simp
theorem same_list {n n' : Int} {r r' : Nat} {t t' : ByteArray} {ks ks' : List ByteArray} {l l' : List V} {d d' : Int} (ha : Right (.mk 6 n r t ks l) d) (hb : Right (.mk 6 n' r' t' ks' l') d') : sameB (.mk 6 n r t ks l) (.mk 6 n' r' t' ks' l') = samesB l l' := by
  rw [Bool.eq_iff_iff, sameB_iff, samesB_iff]
  have hbs := bare_same ha hb (.inl rfl)
  unfold Right at ha hb
  obtain ⟨_, _, _, _, _, _, h7, _, _, _⟩ := ha
  obtain ⟨_, _, _, _, _, _, h7', _, _, _⟩ := hb
  obtain rfl := List.eq_nil_of_length_eq_zero (h7 (by omega))
  obtain rfl := List.eq_nil_of_length_eq_zero (h7' (by omega))
  unfold SameP
  exact ⟨fun h => h.2.2.2, fun h => ⟨hbs, rfl, h.len, h⟩⟩
theorem same_dict {n n' : Int} {r r' : Nat} {t t' : ByteArray} {ks ks' : List ByteArray} {l l' : List V} {d d' : Int} (ha : Right (.mk 7 n r t ks l) d) (hb : Right (.mk 7 n' r' t' ks' l') d') : sameB (.mk 7 n r t ks l) (.mk 7 n' r' t' ks' l') = dictB ks ks' l l' := by
  rw [Bool.eq_iff_iff, sameB_iff]
  have hbs := bare_same ha hb (.inr rfl)
  have e : dictB ks ks' l l' = true ↔ DictSame ks ks' l l' := @decide_eq_true_iff _ (Classical.propDecidable _)
  rw [e]
  unfold SameP
  exact ⟨fun h => ⟨h.2.1, h.2.2.2⟩, fun h => ⟨hbs, h.1, h.2.len, h.2⟩⟩
theorem dictOk_of {n : Int} {r : Nat} {t : ByteArray} {ks : List ByteArray} {l : List V} {d : Int} (h : Right (.mk 7 n r t ks l) d) : DictOk ks l (d - 1) := by
  unfold Right at h
  obtain ⟨_, _, _, _, _, _, _, h8, h9, h10⟩ := h
  refine ⟨asc_of_steps fun i h0 hi => (h9 rfl i (by have := h8 rfl; omega)).2 h0, h10⟩
theorem eq_any : ∀ (N : Nat) (a : V), SizeOf.sizeOf a < N → EqOk a := by
  intro N
  induction N with
  | zero => intro a h; omega
  | succ N ih =>
    intro a hN b d d' x y P Q w hra hrb hx hy
    have hch : ∀ i (h : i < a.l.length), EqOk a.l[i] := fun i h => ih _ (by have := a.lt_of_get i h; omega)
    have hka : 0 ≤ a.k ∧ a.k ≤ 7 := by cases a; exact hra.kind
    have hkb : 0 ≤ b.k ∧ b.k ≤ 7 := by cases b; exact hrb.kind
    have B0 : ∀ {r : Bool} {e : Ending} {w' : World}, (e = .returned (.bool r) ∧ w' = w) → TheBool r (fun w' => Below w.heap.size w w') e w' := fun ⟨h1, h2⟩ => ⟨_, h1, Lib.hid rfl, by rw [h2]; exact Below.refl _ _⟩
    by_cases ka : a.k ≤ 5
    · by_cases kb : b.k ≤ 5
      · exact (zzEqual_basic x y _ (face_of hx) (face_of hy) (basic_of hx ka) (basic_of hy kb) (eq_basic hra hrb ka kb hx hy) w).mono fun e w' h => B0 h
      · rw [sameB_kind (by omega)]
        have hbx := basic_of hx ka
        have hfx := face_of hx
        obtain ⟨k, n, r, t, ks, l⟩ := b
        simp only [V.k] at kb
        unfold GoV at hy
        rcases hy with ⟨rfl, rfl⟩ | ⟨rfl, rfl⟩ | ⟨rfl, rfl⟩ | ⟨rfl, rfl⟩ | ⟨rfl, rfl⟩ | ⟨rfl, rfl⟩ | ⟨rfl, q, c, xs, rfl, _⟩ | ⟨rfl, q, es, clk, xs, rfl, _⟩
        iterate 6 omega
        · exact (zzEqual_basic_list x q _ c hfx hbx w).mono fun e w' h => B0 h
        · exact (zzEqual_basic_map x q hfx hbx w).mono fun e w' h => B0 h
    · obtain ⟨k, n, r, t, ks, l⟩ := a
      simp only [V.k] at ka
      unfold GoV at hx
      rcases hx with ⟨rfl, rfl⟩ | ⟨rfl, rfl⟩ | ⟨rfl, rfl⟩ | ⟨rfl, rfl⟩ | ⟨rfl, rfl⟩ | ⟨rfl, rfl⟩ | ⟨rfl, q, c, xs, rfl, hx1, hx2⟩ | ⟨rfl, q, es, clk, xs, rfl, hx1, hx2, hx3, hx4, hx5, hx6, hx7, hx8⟩
      iterate 6 omega
      · have hbas := fun h => basic_of hy h
        obtain ⟨k', n', r', t', ks', l'⟩ := b
        simp only [V.k] at hkb hbas
        have hq := hy
        unfold GoV at hy
        by_cases k6 : k' = 6
        · subst k6
          rcases hy with ⟨h, rfl⟩ | ⟨h, rfl⟩ | ⟨h, rfl⟩ | ⟨h, rfl⟩ | ⟨h, rfl⟩ | ⟨h, rfl⟩ | ⟨_, q', c', xs', rfl, hy1, hy2⟩ | ⟨h, _⟩
          iterate 6 omega
          · rw [same_list hra hrb]
            unfold Right at hra hrb
            exact eqList_step l l' (d - 1) (d' - 1) hch hra.2.2.2.2.2.2.2.2.2 hrb.2.2.2.2.2.2.2.2.2 q q' c c' xs xs' P Q w hx1 hx2 hy1 hy2
          · omega
        · rw [sameB_kind (by simp only [V.k]; omega)]
          by_cases k7 : k' = 7
          · subst k7
            rcases hy with ⟨h, rfl⟩ | ⟨h, rfl⟩ | ⟨h, rfl⟩ | ⟨h, rfl⟩ | ⟨h, rfl⟩ | ⟨h, rfl⟩ | ⟨h, _⟩ | ⟨_, q', es', clk', xs', rfl, _⟩
            iterate 7 omega
            · exact (zzEqual_list_other _ q _ c (fun w => by kernel_rfl) w).mono fun e w' h => B0 h
          · exact (zzEqual_list_other y q _ c (hbas (by omega)).l w).mono fun e w' h => B0 h
      · have hbas := fun h => basic_of hy h
        obtain ⟨k', n', r', t', ks', l'⟩ := b
        simp only [V.k] at hkb hbas
        have hmx : MapIs w P ks l q := ⟨es, clk, xs, hx1, hx2, hx3, hx4, hx5, hx6, hx7, hx8⟩
        unfold GoV at hy
        by_cases k7 : k' = 7
        · subst k7
          rcases hy with ⟨h, rfl⟩ | ⟨h, rfl⟩ | ⟨h, rfl⟩ | ⟨h, rfl⟩ | ⟨h, rfl⟩ | ⟨h, rfl⟩ | ⟨h, _⟩ | ⟨_, q', es', clk', xs', rfl, hy1, hy2, hy3, hy4, hy5, hy6, hy7, hy8⟩
          iterate 7 omega
          · rw [same_dict hra hrb]
            exact eqDict_step ks ks' l l' (d - 1) (d' - 1) hch (dictOk_of hra) (dictOk_of hrb) q q' P Q w hmx ⟨es', clk', xs', hy1, hy2, hy3, hy4, hy5, hy6, hy7, hy8⟩
        · rw [sameB_kind (by simp only [V.k]; omega)]
          by_cases k6 : k' = 6
          · subst k6
            rcases hy with ⟨h, rfl⟩ | ⟨h, rfl⟩ | ⟨h, rfl⟩ | ⟨h, rfl⟩ | ⟨h, rfl⟩ | ⟨h, rfl⟩ | ⟨_, q', c', xs', rfl, _⟩ | ⟨h, _⟩
            iterate 6 omega
            · exact (zzEqual_map_other _ q (fun w => by kernel_rfl) w).mono fun e w' h => B0 h
            · omega
          · exact (zzEqual_map_other y q (hbas (by omega)).m w).mono fun e w' h => B0 h
theorem zzEqual_walk (a : V) : EqOk a := eq_any _ a (Nat.lt_succ_self _)
end Go.Proofs.Ytlkfdjnkkooofaa.Vals
