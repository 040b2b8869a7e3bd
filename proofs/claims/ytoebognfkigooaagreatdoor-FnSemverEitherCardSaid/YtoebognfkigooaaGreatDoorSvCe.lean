/- Semantic versions: what the law of tests asks, plain. -/
import Derived.Test.YtoebognfkigooaaGreatDoorSvAs
import Derived.Test.YtoebognfkigooaaGreatDoorSvPw
import Derived.Test.YtoebognfkigooaaGreatDoorPFnSemverEitherx2
namespace Go.Proofs.YtoebognfkigooaaGreatDoor.Sv
open Go.RowKit Go.Proofs.YtoebognfkigooaaGreatDoor.PFnSemverEither Go.Proofs.YtoebognfkigooaaGreatDoor.PFnSemverEither Go.Proofs.YtoebognfkigooaaGreatDoorW.PrintWords Go.Proofs.YtoebognfkigooaaGreatDoor.Txt Go.Proofs.YtoebognfkigooaaGreatDoor Go.Proofs.YtoebognfkigooaaGreatDoor.Vals
set_option linter.unusedVariables false
set_option linter.unusedSimpArgs false
set_option maxRecDepth 20000
/-- The signs of a test. -/
def nine : List (List UInt8) := [[], [61], [33, 61], [62], [60], [62, 61], [60, 61], [126], [94]]
theorem nine_ops : ∀ o ∈ nine, o ∈ opsLL := by decide
theorem nine_len : ∀ o ∈ nine, o.length ≤ 2 := by decide
theorem ask_num (o bl d1 d2 d3 : List UInt8) (h1 : Num9 d1) (h2 : Num9 d2) (h3 : Num9 d3) (x y z : Nat) : askC x y z ⟨o, bl, d1, d2, d3⟩ = askB o (ord3 x y z (val 0 d1) (val 0 d2) (val 0 d3)) x y z (val 0 d1) (val 0 d2) (val 0 d3) false false false := by
  unfold askC Cn.md Cn.di Cn.pd
  simp only [o3_ord]
  simp [h1.1, h2.1, h3.1]
theorem num_ok {o bl d1 d2 d3 : List UInt8} (h1 : Num9 d1) (h2 : Num9 d2) (h3 : Num9 d3) (ho : o ∈ opsLL) (hb : bl = [] ∨ bl = [32]) : (⟨o, bl, d1, d2, d3⟩ : Cn).Ok := ⟨h1.1, h1.2.1, h2.2.1, h3.2.1, fun h => absurd h h2.1, ho, hb⟩
theorem num_small {o bl d1 d2 d3 : List UInt8} (h1 : Num9 d1) (h2 : Num9 d2) (h3 : Num9 d3) : (⟨o, bl, d1, d2, d3⟩ : Cn).Small := ⟨h1.2.2, h2.2.2, h3.2.2⟩
theorem num_dirty {o bl d1 d2 d3 : List UInt8} (h1 : Num9 d1) (h2 : Num9 d2) (h3 : Num9 d3) (ho : o ∈ opsLL) : DirtyOk (⟨o, bl, d1, d2, d3⟩ : Cn) := ⟨ho, .inl (by unfold Cn.di; simp [h1.1, h2.1, h3.1])⟩
theorem asked_walk (o : List UInt8) (ho : o ∈ nine) (x y z X Y Z : Nat) (h0 : o = [126] → ¬ (X = 0 ∧ Y = 0 ∧ Z = 0)) (w : World) :
    Calls Tryz.prog 8 #[.string (ba o), .agg #[.int .u64 (x : Int), .int .u64 (y : Int), .int .u64 (z : Int), .string ⟨#[]⟩, .string ⟨#[]⟩], .agg #[.int .u64 (X : Int), .int .u64 (Y : Int), .int .u64 (Z : Int), .string ⟨#[]⟩, .string ⟨#[]⟩]] w fun e w' => e = .returned (.bool (askB o (ord3 x y z X Y Z) x y z X Y Z false false false)) ∧ Below w.heap.size w w' := by
  have HO := Lib.hid (fun W => order_walk x y z X Y Z ⟨#[]⟩ ⟨#[]⟩ ⟨#[]⟩ ⟨#[]⟩ W)
  have hc := ord3_cases x y z X Y Z
  simp only [nine, List.mem_cons, List.mem_nil_iff, or_false] at ho
  rcases ho with rfl | rfl | rfl | rfl | rfl | rfl | rfl | rfl | rfl
  · exact asked_none _ _ _ _ _ _ _ HO w
  · exact asked_eq _ _ _ _ _ _ _ HO w
  · exact asked_ne _ _ _ _ _ _ _ HO w
  · refine (asked_gt _ _ _ _ _ _ _ HO w).mono ?_
    rintro e w' ⟨rfl, hb⟩
    refine ⟨?_, hb⟩
    rcases hc with ⟨h1, h2⟩ | ⟨h1, h2⟩ | ⟨h1, h2⟩ <;> rw [h2] <;> rfl
  · exact asked_lt _ _ _ _ _ _ _ HO w
  · exact asked_ge _ _ _ _ _ _ _ HO w
  · exact asked_le _ _ _ _ _ _ _ HO w
  · refine (asked_tilde _ _ _ _ _ _ _ HO w).mono ?_
    rintro e w' ⟨rfl, hb⟩
    refine ⟨?_, hb⟩
    have h0' := h0 rfl
    have e0 : (((X : Int) == 0) && (((Y : Int) == 0) && (((Z : Int) == 0) && (!false && !false)))) = false := by
      rw [Bool.eq_false_iff]; intro h; simp at h; omega
    have e1 : askB [126] (ord3 x y z X Y Z) x y z X Y Z false false false = tildeB (decide (ord3 (x : Int) y z X Y Z < 0)) x y X Y Z false false := by simp [askB]
    rw [e1]
    unfold tildeB
    rw [e0]
    rcases hc with ⟨h1, h2⟩ | ⟨h1, h2⟩ | ⟨h1, h2⟩ <;> rw [h2]
    · rfl
    · cases e5 : ((x : Int) == X) <;> cases e6 : ((y : Int) == Y) <;> simp_all [bne]
    · cases e5 : ((x : Int) == X) <;> cases e6 : ((y : Int) == Y) <;> simp_all [bne]
  · refine (asked_caret _ _ _ _ _ _ _ HO w).mono ?_
    rintro e w' ⟨rfl, hb⟩
    refine ⟨?_, hb⟩
    refine congrArg (fun b => Ending.returned (Value.bool b)) ?_
    rw [ask_caret]
    unfold caretB
    rcases hc with ⟨h1, h2⟩ | ⟨h1, h2⟩ | ⟨h1, h2⟩ <;> rw [h2] <;> (try unfold Lex at *)
    all_goals
      by_cases hX : (0 : Int) < (X : Int) <;> by_cases hY : (0 : Int) < (Y : Int) <;> by_cases hx : (0 : Int) < (x : Int) <;> by_cases hy : (0 : Int) < (y : Int) <;> simp only [hX, hY, hx, hy, if_true, if_false, decide_true, decide_false, Bool.or_false, Bool.or_true, Bool.false_or, Bool.true_or] <;> (first | rfl | (rw [Bool.eq_iff_iff]; simp; done) | (rw [Bool.eq_iff_iff]; simp; omega))
/-! ### parsing, fitting, among -/
theorem parse_call (s : ByteArray) (hs : s.size ≤ 2147483647) : ∃ (r1 r2 r3 : Int) (r4 r5 : ByteArray) (ok : Bool),
    (∀ W, Calls Tryz.prog 5 #[.string s] W fun e w' => e = .returned (.tuple #[.agg #[.int .u64 r1, .int .u64 r2, .int .u64 r3, .string r4, .string r5], .bool ok]) ∧ Below W.heap.size W w') ∧
    (ok = true → r4 = ⟨#[]⟩ → r5 = ⟨#[]⟩ → ∃ d1 d2 d3, Num9 d1 ∧ Num9 d2 ∧ Num9 d3 ∧ s.toList = d1 ++ (sg 46 d2 ++ sg 46 d3) ∧ r1 = (val 0 d1 : Nat) ∧ r2 = (val 0 d2 : Nat) ∧ r3 = (val 0 d3 : Nat)) := by
  obtain ⟨⟨r1, r2, r3, r4, r5, ok⟩, ⟨k, hk⟩, hr⟩ := version_ev s (by omega)
  refine ⟨r1, r2, r3, r4, r5, ok, fun W => spec_ParseVersion.calls k s r1 r2 r3 r4 r5 ok W (hk k (Nat.le_refl k)), fun ho h4 h5 => ?_⟩
  obtain ⟨_, t, n1, n2, n3, _, _, _, htx, e1, e2, e3, e4, e5⟩ := hr ho
  have p4 : t.pre = [] := by rw [← e4]; show r4.toList = []; rw [h4]; exact tl_nil
  have p5 : t.meta_ = [] := by rw [← e5]; show r5.toList = []; rw [h5]; exact tl_nil
  refine ⟨t.d1, t.d2, t.d3, n1, n2, n3, ?_, e1, e2, e3⟩
  rw [htx]; unfold Tx.text; rw [p4, p5]; simp [sg]
def fitsL (l : List ByteArray) : Bool := l.all fun s => decide (s.size ≤ 2147483647)
theorem fitsL_cons (s : ByteArray) (l : List ByteArray) : fitsL (s :: l) = (decide (s.size ≤ 2147483647) && fitsL l) := rfl
theorem fits_ev (l : List ByteArray) : Ev (fun k => laws_zzFits2.f k l) (decide (l.length ≤ 2147483647) && fitsL l) := by
  unfold laws_zzFits2.f
  by_cases h0 : (l.length : Int) > 2147483647
  · rw [decide_eq_false (by omega)]; exact Ev.pos h0 (Ev.now _)
  rw [decide_eq_true (by omega), Bool.true_and]
  refine Ev.neg h0 ?_
  have key : ∀ (d i : Nat), l.length - i = d → i ≤ l.length → Ev (fun k => laws_zzFits2.l0 k l (l.length : Int) (i : Int)) (fitsL (l.drop i)) := by
    intro d
    induction d with
    | zero =>
      intro i hd hi
      rw [List.drop_eq_nil_of_le (by omega)]
      refine Ev.step (f := fun _ => some true) (fun k => ?_) (Ev.now _)
      simp only [laws_zzFits2.l0]; rw [if_neg (by omega)]
    | succ d ih =>
      intro i hd hi
      have hlt : i < l.length := by omega
      have e : l.drop i = l[i] :: l.drop (i + 1) := List.drop_eq_getElem_cons hlt
      have hr : rdOf ByteArray.empty l (i : Int) = l[i] := by simp [rdOf, List.getElem?_eq_getElem hlt]
      by_cases h5 : (l[i].size : Int) > 2147483647
      · have e2 : fitsL (l.drop i) = false := by rw [e, fitsL_cons, decide_eq_false (by omega)]; rfl
        rw [e2]
        refine Ev.step (f := fun _ => some false) (fun k => ?_) (Ev.now _)
        simp only [laws_zzFits2.l0]; rw [if_pos (by omega), if_pos (by omega), if_pos (by omega), hr, if_pos h5]
      · have e2 : fitsL (l.drop i) = fitsL (l.drop (i + 1)) := by rw [e, fitsL_cons, decide_eq_true (by omega)]; rfl
        rw [e2]
        refine Ev.step (f := fun k => laws_zzFits2.l0 k l (l.length : Int) ((i + 1 : Nat) : Int)) (fun k => ?_) (ih (i + 1) (by omega) (by omega))
        simp only [laws_zzFits2.l0]; rw [if_pos (by omega), if_pos (by omega), if_pos (by omega), hr, if_neg h5, w64 (by omega) (by omega)]; rfl
  exact key _ 0 rfl (Nat.zero_le _)
theorem fits_call (l : List ByteArray) : ∃ b : Bool, (b = true → ∀ s ∈ l, s.size ≤ 2147483647) ∧ ∀ (A : Option Addr) (c : Nat) (W : World), l.length ≤ c → ReadsOf Value.string ByteArray.empty W A l.length l → Calls Tryz.prog 4 #[.slice A l.length c] W fun e w' => e = .returned (.bool b) ∧ Below W.heap.size W w' := by
  obtain ⟨k, hk⟩ := fits_ev l
  refine ⟨_, fun hb s hs => ?_, fun A c W hc hr => (laws_zzFits2.calls k A c l _ W (Kd.C_of_reads (h1 := fun _ => rfl) hr) hc (hk k (Nat.le_refl k))).mono fun e w' h => ⟨h.1, h.2.below⟩⟩
  rw [Bool.and_eq_true] at hb
  have := List.all_eq_true.1 hb.2 s hs
  simpa using this
def nineB : List ByteArray := nine.map ba
theorem among_ev (l : List ByteArray) (o : ByteArray) (hl : l.length ≤ 1000) : Ev (fun k => spec_Among.f k l o) (l.any fun s => decide (s.toList = o.toList)) := by
  unfold spec_Among.f
  have key : ∀ (d i : Nat), l.length - i = d → i ≤ l.length → Ev (fun k => spec_Among.l0 k l o (i : Int)) ((l.drop i).any fun s => decide (s.toList = o.toList)) := by
    intro d
    induction d with
    | zero =>
      intro i hd hi
      rw [List.drop_eq_nil_of_le (by omega)]
      refine Ev.step (f := fun _ => some false) (fun k => ?_) (Ev.now _)
      simp only [spec_Among.l0]; rw [if_neg (by omega)]
    | succ d ih =>
      intro i hd hi
      have hlt : i < l.length := by omega
      have e : l.drop i = l[i] :: l.drop (i + 1) := List.drop_eq_getElem_cons hlt
      have hr : rdOf ByteArray.empty l (i : Int) = l[i] := by simp [rdOf, List.getElem?_eq_getElem hlt]
      by_cases h5 : l[i].toList = o.toList
      · have e2 : ((l.drop i).any fun s => decide (s.toList = o.toList)) = true := by rw [e, List.any_cons, decide_eq_true h5]; rfl
        rw [e2]
        refine Ev.step (f := fun _ => some true) (fun k => ?_) (Ev.now _)
        simp only [spec_Among.l0]; rw [if_pos (by omega), if_pos (by omega), hr, if_pos h5]
      · have e2 : ((l.drop i).any fun s => decide (s.toList = o.toList)) = ((l.drop (i + 1)).any fun s => decide (s.toList = o.toList)) := by rw [e, List.any_cons, decide_eq_false h5]; rfl
        rw [e2]
        refine Ev.step (f := fun k => spec_Among.l0 k l o ((i + 1 : Nat) : Int)) (fun k => ?_) (ih (i + 1) (by omega) (by omega))
        simp only [spec_Among.l0]; rw [if_pos (by omega), if_pos (by omega), hr, if_neg h5, w64 (by omega) (by omega)]; rfl
  exact key _ 0 rfl (Nat.zero_le _)
def nineC : Array Value := #[.string ⟨#[]⟩, .string ⟨#[61]⟩, .string ⟨#[33, 61]⟩, .string ⟨#[62]⟩, .string ⟨#[60]⟩, .string ⟨#[62, 61]⟩, .string ⟨#[60, 61]⟩, .string ⟨#[126]⟩, .string ⟨#[94]⟩]
theorem among_call (o : ByteArray) : ∃ b : Bool, (b = true → o.toList ∈ nine) ∧ ∀ (g : Nat) (W : World), W.heap[g]? = some (.cells nineC 9 (0, 0)) → Calls Tryz.prog 6 #[.slice (some ⟨g, 0, none⟩) 9 9, .string o] W fun e w' => e = .returned (.bool b) ∧ Below W.heap.size W w' := by
  obtain ⟨k, hk⟩ := among_ev nineB o (by decide)
  refine ⟨nineB.any fun s => decide (s.toList = o.toList), fun hb => ?_, fun g W hg => ?_⟩
  · obtain ⟨s, hs, he⟩ := List.any_eq_true.1 hb
    obtain ⟨q, hq, rfl⟩ := List.mem_map.1 hs
    rw [← of_decide_eq_true he]
    rw [show (ba q).toList = q from tl_mk q]
    exact hq
  · have hr : ReadsOf Value.string ByteArray.empty W (some ⟨g, 0, none⟩) nineB.length nineB := ⟨rfl, by decide, fun _ => ⟨_, rfl, fun j hj => by
      have hj' : j < 9 := hj
      rw [add_plain, blk_cell hg]
      match j, hj' with
      | 0, _ | 1, _ | 2, _ | 3, _ | 4, _ | 5, _ | 6, _ | 7, _ | 8, _ => rfl⟩⟩
    exact (spec_Among.calls k (some ⟨g, 0, none⟩) 9 nineB o _ W (Kd.C_of_reads (h1 := fun _ => rfl) hr) (by decide) (hk k (Nat.le_refl k))).mono fun e w' h => ⟨h.1, h.2.below⟩
/-! ### the tests so far -/
theorem gtext_snoc (q : Pc) : ∀ ps : List Pc, gtext [] (ps ++ [q]) = gtext [] ps ++ (q.1 ++ q.2.text)
  | [] => by simp [gtext]
  | p :: ps => by rw [List.cons_append, gtext, gtext, gtext_snoc q ps]; simp
def Acc (x y z i : Nat) (T : ByteArray) (B : Bool) : Prop := ∃ ps : List Pc, ps.length = i ∧ T.toList = gtext [] ps ∧ B = (ps.all fun q => askC x y z q.2) ∧ (ps = [] ∨ GOk ps) ∧ (∀ q ∈ ps, DirtyOk q.2) ∧ T.size ≤ 50 * i
theorem Acc.none (x y z : Nat) : Acc x y z 0 ⟨#[]⟩ true := ⟨[], rfl, by rw [tl_nil]; rfl, rfl, .inl rfl, by simp, Nat.le_refl _⟩
theorem Acc.step {x y z i : Nat} {T : ByteArray} {B : Bool} (h : Acc x y z i T B) {o s : ByteArray} (ho : o.toList ∈ nine) {d1 d2 d3 : List UInt8} (n1 : Num9 d1) (n2 : Num9 d2) (n3 : Num9 d3) (hs : s.toList = d1 ++ (sg 46 d2 ++ sg 46 d3)) {T' : ByteArray} (hT : (i = 0 ∧ T' = T) ∨ (0 < i ∧ T' = T ++ ⟨#[44, 32]⟩)) :
    Acc x y z (i + 1) (T' ++ (o ++ s)) (B && askB o.toList (ord3 x y z (val 0 d1) (val 0 d2) (val 0 d3)) x y z (val 0 d1) (val 0 d2) (val 0 d3) false false false) := by
  obtain ⟨ps, hl, ht, hB, hg, hd, hz⟩ := h
  have hop := nine_ops _ ho
  have hol := nine_len _ ho
  have hsz : s.size ≤ 29 := by
    rw [len_eq, hs]; have a1 := n1.2.2; have a2 := n2.2.2; have a3 := n3.2.2
    rw [sg_num n2, sg_num n3]; simp; omega
  have h44 : (⟨#[44, 32]⟩ : ByteArray).toList = [44, 32] := by rw [Lib.toList_data]
  have hz' : (T' ++ (o ++ s)).size ≤ 50 * (i + 1) := by
    rw [size_append, size_append, len_eq o]
    rcases hT with ⟨_, rfl⟩ | ⟨_, rfl⟩
    · omega
    · rw [size_append, show (⟨#[44, 32]⟩ : ByteArray).size = 2 from rfl]; omega
  rcases hT with ⟨hi, rfl⟩ | ⟨hi, rfl⟩
  · have hps : ps = [] := List.eq_nil_of_length_eq_zero (by omega)
    subst hps
    refine ⟨[([], ⟨o.toList, [], d1, d2, d3⟩)], by simp [hi], ?_, ?_, .inr ⟨([], ⟨o.toList, [], d1, d2, d3⟩), [], rfl, num_ok n1 n2 n3 hop (.inl rfl), num_small n1 n2 n3, .inl rfl, by simp⟩, ?_, hz'⟩
    · rw [tl_append, tl_append, ht, hs]; simp [gtext, Cn.text, Cn.vt]
    · rw [hB]; simp only [List.all_cons, List.all_nil, Bool.and_true, Bool.true_and]; rw [ask_num _ _ _ _ _ n1 n2 n3]
    · intro q hq; rw [List.mem_singleton.1 hq]; exact num_dirty n1 n2 n3 hop
  · have hne : ps ≠ [] := by intro h; rw [h] at hl; simp at hl; omega
    obtain ⟨p, r, rfl, k1, k2, k3, k4⟩ := hg.resolve_left hne
    obtain ⟨q, hq1, hq2, hq3, hq4⟩ : ∃ q : Pc, PcOk q ∧ DirtyOk q.2 ∧ q.1 ++ q.2.text = [44, 32] ++ (o.toList ++ s.toList) ∧ askC x y z q.2 = askB o.toList (ord3 x y z (val 0 d1) (val 0 d2) (val 0 d3)) x y z (val 0 d1) (val 0 d2) (val 0 d3) false false false := by
      by_cases he : o.toList = []
      · refine ⟨([44], ⟨o.toList, [32], d1, d2, d3⟩), ⟨num_ok n1 n2 n3 hop (.inr rfl), num_small n1 n2 n3, .inl rfl⟩, num_dirty n1 n2 n3 hop, ?_, ask_num _ _ _ _ _ n1 n2 n3 _ _ _⟩
        rw [hs]; simp [Cn.text, Cn.vt, he]
      · refine ⟨([44, 32], ⟨o.toList, [], d1, d2, d3⟩), ⟨num_ok n1 n2 n3 hop (.inl rfl), num_small n1 n2 n3, .inr (.inl ⟨rfl, he⟩)⟩, num_dirty n1 n2 n3 hop, ?_, ask_num _ _ _ _ _ n1 n2 n3 _ _ _⟩
        rw [hs]; simp [Cn.text, Cn.vt]
    refine ⟨(p :: r) ++ [q], by simp at hl ⊢; omega, ?_, ?_, .inr ⟨p, r ++ [q], rfl, k1, k2, k3, ?_⟩, ?_, hz'⟩
    · rw [gtext_snoc, hq3, tl_append, tl_append, tl_append, ht, h44, List.append_assoc]
    · rw [hB, List.all_append, List.all_cons (a := q), List.all_nil, Bool.and_true, hq4]
    · intro e he
      rcases List.mem_append.1 he with h | h
      · exact k4 e h
      · rw [List.mem_singleton.1 h]; exact hq1
    · intro e he
      rcases List.mem_append.1 he with h | h
      · exact hd e h
      · rw [List.mem_singleton.1 h]; exact hq2
theorem Acc.ask {i : Nat} {T : ByteArray} {B : Bool} {d1 d2 d3 : List UInt8} (h : Acc (val 0 d1) (val 0 d2) (val 0 d3) i T B) (h0 : 0 < i) (h5 : i ≤ 5) (n1 : Num9 d1) (n2 : Num9 d2) (n3 : Num9 d3) {v : ByteArray} (hv : v.toList = d1 ++ (sg 46 d2 ++ sg 46 d3)) (W : World) :
    Calls Tryz.prog 9 #[.string T, .string v] W fun e w' => e = .returned (.tuple #[.bool B, .bool true]) ∧ Below W.heap.size W w' := by
  obtain ⟨ps, hl, ht, hB, hg, hd, hz⟩ := h
  have hne : ps ≠ [] := by intro h; rw [h] at hl; simp at hl; omega
  have := compare_text T v [([], ps)] (by simp) (by simp) (fun g hgm => by rw [List.mem_singleton.1 hgm]; exact ⟨.inl rfl, hg.resolve_left hne, hd⟩) (by omega) ht d1 d2 d3 n1 n2 n3 hv W
  simp only [List.any_cons, List.any_nil, Bool.or_false] at this
  rw [hB]
  exact this
end Go.Proofs.YtoebognfkigooaaGreatDoor.Sv
