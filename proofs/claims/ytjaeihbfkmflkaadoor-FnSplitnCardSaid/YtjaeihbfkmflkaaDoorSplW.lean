/- FnSplitn: walks of sprig's splitn and of impl.textsOf: a map of texts under numbered keys, filled and told. -/
import Derived.Test.YtjaeihbfkmflkaaDoorSplitnPl
import Derived.Test.YtjaeihbfkmflkaaDoorPow
import Derived.Test.YtjaeihbfkmflkaaDoorValDt
namespace Go.Proofs.YtjaeihbfkmflkaaDoor.Vals
open Go.RowKit Go.MapKept Go.ChangeMaps Go.Proofs.YtjaeihbfkmflkaaDoorW.PrintWords Go.Proofs.YtjaeihbfkmflkaaDoor.Txt Go.Proofs.YtjaeihbfkmflkaaDoor.Giv Go.Proofs.YtjaeihbfkmflkaaDoor.PFnSplitn
set_option linter.unusedVariables false
set_option maxRecDepth 20000

theorem getD_str {w : World} {A : Option Addr} {n : Nat} {l : List ByteArray} (h : Kd.C Kd.string w A n l) (j : Nat) (hj : j < n) : ∃ ad, A = some ad ∧ w.cell? (ad.add j) = some (.string (l.getD j ⟨#[]⟩)) := by
  obtain ⟨ad, c, e, hs, hk, hc⟩ := Kd.C_get h ⟨#[]⟩ (j : Int) (by omega) (by omega)
  refine ⟨ad, e, ?_⟩
  have hk' : c = [Value.string (l.getD j ⟨#[]⟩)] := hk
  have := hc 0 (Value.string (l.getD j ⟨#[]⟩)) (by rw [hk']; rfl)
  have e1 : Kd.string.sz = 1 := rfl
  rw [Int.toNat_natCast, e1, Nat.mul_one, Nat.add_zero] at this
  exact this
/-- The key of a place. -/
def keyN (i : Nat) : ByteArray := (⟨#[95]⟩ : ByteArray) ++ itoaB (i : Int)
theorem keyN_small : ∀ i : Fin 32, (keyN i).size ≤ 20 := by decide +kernel
theorem keyN_apart : ∀ i j : Fin 32, keyN i = keyN j → i = j := by decide +kernel
theorem keyN_inj {i j : Nat} (hi : i ≤ 31) (hj : j ≤ 31) (h : keyN i = keyN j) : i = j := by
  have := keyN_apart ⟨i, by omega⟩ ⟨j, by omega⟩ h
  exact Fin.mk.inj_iff.1 this
/-- A map's block: texts under their places' keys, in order. -/
def MapT (w : World) (l : List ByteArray) (b : Nat) : Prop :=
  ∃ es clk, w.heap[b]? = some (.map es clk) ∧ (∀ e ∈ es, e.born < clk) ∧ (es.toList.map (·.born)).Nodup ∧
    (es.toList.map fun e => (e.key, e.val)) = (List.range l.length).map fun i => (Value.string (keyN i), Value.string (l.getD i ⟨#[]⟩))
theorem MapT.block {w w' : World} {l : List ByteArray} {b : Nat} (h : MapT w l b) (e : w'.heap[b]? = w.heap[b]?) : MapT w' l b := by
  obtain ⟨es, clk, h1, h2⟩ := h
  exact ⟨es, clk, e.trans h1, h2⟩
theorem MapT.lt {w : World} {l : List ByteArray} {b : Nat} (h : MapT w l b) : b < w.heap.size := by
  obtain ⟨es, clk, h1, h2⟩ := h
  exact blk_lt h1
theorem MapT.keys {es : Array MapEntry} {l : List ByteArray} (h : (es.toList.map fun e => (e.key, e.val)) = (List.range l.length).map fun i => (Value.string (keyN i), Value.string (l.getD i ⟨#[]⟩))) {e : MapEntry} (he : e ∈ es.toList) : ∃ i, i < l.length ∧ e.key = .string (keyN i) ∧ e.val = .string (l.getD i ⟨#[]⟩) := by
  have hm : (e.key, e.val) ∈ es.toList.map fun e => (e.key, e.val) := List.mem_map.2 ⟨e, he, rfl⟩
  rw [h] at hm
  obtain ⟨i, hi, hx⟩ := List.mem_map.1 hm
  exact ⟨i, List.mem_range.1 hi, (congrArg Prod.fst hx).symm, (congrArg Prod.snd hx).symm⟩
theorem MapT.add {w : World} {l : List ByteArray} {b : Nat} (h : MapT w l b) (hl : l.length ≤ 30) (s : ByteArray) :
    ∃ o, (Instr.mapUpdate 55 (.map (some b)) (.string (keyN l.length)) (.string s)).run Tryd.prog w = .ok () (setBlock w b o) ∧ MapT (setBlock w b o) (l ++ [s]) b := by
  obtain ⟨es, clk, h1, h2, h3, h4⟩ := h
  have htk : TextKeys es := fun e he => by obtain ⟨i, _, hk, _⟩ := MapT.keys h4 he; exact ⟨_, hk⟩
  have hn : ∀ e ∈ es.toList, e.key ≠ .string (keyN l.length) := fun e he hek => by
    obtain ⟨i, hi, hk, _⟩ := MapT.keys h4 he
    rw [hk] at hek
    injection hek with hek
    have := keyN_inj (by omega) (by omega) hek
    omega
  refine ⟨_, run_update_new (P := Tryd.prog) Tryd.underlying55 Tryd.underlying9 h1 htk (keyN l.length) (.string s) hn, _, clk + 1, setBlock_at h1, ?_, ?_, ?_⟩
  · intro e he
    rcases Array.mem_push.1 he with he | rfl
    · have := h2 e he; omega
    · simp
  · rw [Array.toList_push, List.map_append]
    refine List.nodup_append.2 ⟨h3, by simp, fun a ha b hb => ?_⟩
    have hb' : b = clk := by simpa using hb
    obtain ⟨e, he, rfl⟩ := List.mem_map.1 ha
    have := h2 e (by simpa using he)
    omega
  · rw [Array.toList_push, List.map_append, h4, List.length_append, List.length_singleton, List.range_succ, List.map_append]
    congr 1
    · refine List.map_congr_left fun i hi => ?_
      have hi := List.mem_range.1 hi
      simp only [List.getD_eq_getElem?_getD, List.getElem?_append_left hi]
    · simp [List.getD_eq_getElem?_getD]

def MapNewT (l : List ByteArray) (w : World) (e : Ending) (w' : World) : Prop := ∃ b, e = .returned (.map (some b)) ∧ Hid (w.heap.size ≤ b ∧ MapT w' l b) ∧ Hid (Below w.heap.size w w')
set_option maxHeartbeats 4000000 in
theorem splitn_walk (a0 a2 : ByteArray) (n : Int) (l : List ByteArray) (hl : l.length ≤ 30) (hz : ∃ k, sprig_zzSplitN.f k a2 a0 n = some l) (w : World) (T : Pow10 w) :
    Calls Tryd.prog 38 #[.string a0, .int .i64 n, .string a2] w (MapNewT l w) := by
  have HZ : Hid (Calls Tryd.prog 52 #[.string a2, .string a0, .int .i64 n] w fun e w' => ∃ v0_ : Value, e = .returned (v0_) ∧ Kd.R Kd.string 9 w' w.heap.size (fun _ => True) v0_ l ∧ Below w.heap.size w w') := Lib.hid (by
    obtain ⟨k, hk⟩ := hz
    exact sprig_zzSplitN.calls k a2 a0 n l w hk)
  have HT := Lib.hid T
  obtain ⟨N, hN⟩ : ∃ N, N = l.length := ⟨_, rfl⟩
  have HN := Lib.hid hN
  rw [← hN] at hl
  have hmk : ∀ W, (Instr.makeMap 55 (some (.int .i64 (N : Int)))).run Tryd.prog W = .ok (.map (some W.heap.size)) (W.alloc (.map #[] 0)) := fun W => by kernel_rfl
  clear T hz hN
  go_enter Tryd.func38, Tryd.ntmps38
  go_wp2_with fail
  refine HZ.out.mono ?_
  rintro e w1 ⟨v0, rfl, HR, hb1⟩
  obtain ⟨A, c, rfl⟩ := Kd.R_slice HR
  have HC := Lib.hid (Kd.R_reads' HR).2.2
  have HB1 := Lib.hid hb1
  clear HR hb1
  rw [← HN.out] at HC ⊢
  go_wp2_with fail
  go_loopg [20] N (fun kq v20 wr => ∃ (i : Nat), v20 = .int .i64 (i : Int) ∧ i + kq = N ∧ Hid (MapT wr (l.take i) w1.heap.size) ∧ Hid (Below w1.heap.size w1 wr))
  case atStart =>
    refine ⟨0, rfl, by omega, Lib.hid ⟨#[], 0, heap_alloc_new w1 _, by simp, by simp, by simp⟩, Lib.hid ((Below.refl _ _).alloc (Nat.le_refl _) _)⟩
  case round =>
    obtain ⟨i, rfl, hik, HM, HB⟩ := hrel
    cases gk with
    | zero =>
      have hin : i = N := by omega
      have hni : ¬ (i : Int) < (N : Int) := by omega
      have HIN := Lib.hid hin
      clear hin hik
      go_wp2_with fail
      go_ret
      refine ⟨w1.heap.size, rfl, Lib.hid ⟨HB1.out.size, ?_⟩, Lib.hid (HB1.out.trans (HB.out.mono HB1.out.size))⟩
      have h := HM.out
      rw [HIN.out, HN.out, List.take_length] at h
      exact h
    | succ m =>
      have hi : i < N := by omega
      have hi' : i < l.length := by have := HN.out; omega
      obtain ⟨ad, rfl, hc⟩ := getD_str (Kd.C_below HC.out HB.out) i hi
      obtain ⟨u, hu⟩ : ∃ u, u = l[i] := ⟨_, rfl⟩
      have hgd : l.getD i ⟨#[]⟩ = u := by rw [hu, List.getD_eq_getElem?_getD, List.getElem?_eq_getElem hi']; rfl
      rw [hgd] at hc
      have HIT := Lib.hid (itoa_walk (i : Int) (by omega) (by omega) wr (HT.out.below (HB1.out.trans (HB.out.mono HB1.out.size))))
      have HU := Lib.hid hu
      have HIK := Lib.hid hik
      clear hgd hu hik
      go_wp2_with fail
      refine HIT.out.mono ?_
      rintro e w2 ⟨rfl, hb2⟩
      have hs2 := hb2.size
      have hm2 : MapT w2 (l.take i) w1.heap.size := HM.out.block (hb2.block _ HM.out.lt)
      obtain ⟨o, hmu, hmx⟩ := hm2.add (by rw [List.length_take]; omega) u
      have ht : (l.take i).length = i := by rw [List.length_take]; omega
      rw [ht] at hmu
      have hks := keyN_small ⟨i, by omega⟩
      have HX := Lib.hid hmx
      have HB2 := Lib.hid (HB.out.trans (hb2.mono HB.out.size))
      have hconc : (⟨#[95]⟩ : ByteArray) ++ itoaB (i : Int) = keyN i := rfl
      have hsz : (1 + (itoaB (i : Int)).size : Int) ≤ 20 := by
        have h1 : (keyN i).size ≤ 20 := hks
        unfold keyN at h1
        rw [size_append] at h1
        have h2 : (⟨#[95]⟩ : ByteArray).size = 1 := rfl
        omega
      clear hb2 hs2 hm2 ht hks hmx
      have c1 : (9223372036854775807 < 1 + (itoaB (i : Int)).size) = False := eq_false (by omega)
      go_wp2_with fail
      go_roundg m
      case measure => exact Nat.lt_succ_self m
      case rel =>
        refine ⟨i + 1, by simp, by have := HIK.out; omega, Lib.hid ?_, Lib.hid (below_setBlock HB2.out (Nat.le_refl _) _)⟩
        rw [List.take_succ_eq_append_getElem hi', ← HU.out]
        exact HX.out
theorem sprigSplitn_walk (a0 a2 : ByteArray) (n : Int) (l : List ByteArray) (hl : l.length ≤ 30) (hz : ∃ k, sprig_zzSplitN.f k a2 a0 n = some l) (w : World) (T : Pow10 w) :
    Calls Tryd.prog 29 #[.string a0, .int .i64 n, .string a2] w (MapNewT l w) := by
  have HC := Lib.hid (splitn_walk a0 a2 n l hl hz w T)
  clear hl hz T
  go_enter Tryd.func29, Tryd.ntmps29
  go_wp2_with fail
  refine HC.out.mono ?_
  rintro e w1 ⟨b, rfl, H1, H2⟩
  go_wp2_with fail
  go_ret
  exact ⟨b, rfl, H1, H2⟩

/-! ### a dictionary of texts -/
/-- What was met is in the dictionary, and nothing else. -/
def Got (done : List MapEntry) (ks : List ByteArray) (vs : List V) : Prop :=
  ks.length = done.length ∧ vs.length = done.length ∧ (∀ e ∈ done, ∀ s u, e.key = .string s → e.val = .string u → (s, textV u) ∈ ks.zip vs) ∧ (∀ k ∈ ks, ∃ e ∈ done, e.key = .string k) ∧ (∀ v ∈ vs, ∃ u, v = textV u ∧ ∃ e ∈ done, e.val = .string u)
theorem Got.put {done : List MapEntry} {ks : List ByteArray} {vs : List V} (h : Got done ks vs) {e : MapEntry} {s u : ByteArray} (hk : e.key = .string s) (hv : e.val = .string u) (hn : isD ks s = false) : Got (done ++ [e]) (putK ks s) (putL ks vs s (textV u)) := by
  obtain ⟨h1, h2, h3, h4, h5⟩ := h
  have e1 : putK ks s = ks.take (atD ks s) ++ s :: ks.drop (atD ks s) := by unfold putK; rw [if_neg (by rw [hn]; decide)]
  have e2 : putL ks vs s (textV u) = vs.take (atD ks s) ++ textV u :: vs.drop (atD ks s) := by unfold putL; rw [if_neg (by rw [hn]; decide)]
  have hat := atD_le ks s
  rw [e1, e2]
  have z1 : (ks.take (atD ks s) ++ s :: ks.drop (atD ks s)).zip (vs.take (atD ks s) ++ textV u :: vs.drop (atD ks s)) = (ks.take (atD ks s)).zip (vs.take (atD ks s)) ++ (s, textV u) :: (ks.drop (atD ks s)).zip (vs.drop (atD ks s)) := by
    rw [List.zip_append (by simp [h1, h2])]; rfl
  have z2 : ks.zip vs = (ks.take (atD ks s)).zip (vs.take (atD ks s)) ++ (ks.drop (atD ks s)).zip (vs.drop (atD ks s)) := by
    rw [← List.zip_append (by simp [h1, h2]), List.take_append_drop, List.take_append_drop]
  refine ⟨?_, ?_, ?_, ?_, ?_⟩
  · simp only [List.length_append, List.length_cons, List.length_take, List.length_drop, List.length_nil]; omega
  · simp only [List.length_append, List.length_cons, List.length_take, List.length_drop, List.length_nil]; omega
  · intro x hx s' u' hs' hu'
    rw [z1]
    rcases List.mem_append.1 hx with hx | hx
    · have := h3 x hx s' u' hs' hu'
      rw [z2] at this
      rcases List.mem_append.1 this with this | this
      · exact List.mem_append.2 (.inl this)
      · exact List.mem_append.2 (.inr (List.mem_cons_of_mem _ this))
    · rw [List.mem_singleton.1 hx, hk] at hs'
      rw [List.mem_singleton.1 hx, hv] at hu'
      injection hs' with hs'
      injection hu' with hu'
      subst hs' hu'
      exact List.mem_append.2 (.inr (List.mem_cons_self ..))
  · intro k hk'
    have : k ∈ ks ∨ k = s := by
      rcases List.mem_append.1 hk' with h | h
      · exact .inl (List.mem_of_mem_take h)
      · rcases List.mem_cons.1 h with h | h
        · exact .inr h
        · exact .inl (List.mem_of_mem_drop h)
    rcases this with h | rfl
    · obtain ⟨e', he', hke⟩ := h4 k h
      exact ⟨e', List.mem_append.2 (.inl he'), hke⟩
    · exact ⟨e, List.mem_append.2 (.inr (by simp)), hk⟩
  · intro v hv'
    have : v ∈ vs ∨ v = textV u := by
      rcases List.mem_append.1 hv' with h | h
      · exact .inl (List.mem_of_mem_take h)
      · rcases List.mem_cons.1 h with h | h
        · exact .inr h
        · exact .inl (List.mem_of_mem_drop h)
    rcases this with h | rfl
    · obtain ⟨u', hu', e', he', hke⟩ := h5 v h
      exact ⟨u', hu', e', List.mem_append.2 (.inl he'), hke⟩
    · exact ⟨u, rfl, e, List.mem_append.2 (.inr (by simp)), hv⟩
theorem norm_text (s : ByteArray) : norm (textV s) = textV s := norm_5 ..
theorem norms_map (l : List V) : norms l = l.map norm := by
  induction l with
  | nil => rfl
  | cons v r ih => rw [norms, ih, List.map_cons]
theorem norms_text {vs : List V} (h : ∀ v ∈ vs, ∃ u, v = textV u) : norms vs = vs := by
  rw [norms_map]
  conv => rhs; rw [← List.map_id vs]
  refine List.map_congr_left fun v hv => ?_
  obtain ⟨u, rfl⟩ := h v hv
  exact norm_text u
theorem textV_fine {s : ByteArray} (h : s.size ≤ maxLen) : Fine (textV s) := by
  unfold textV Fine
  exact ⟨by omega, by unfold I64; omega, h, by simp, fun h => absurd h (by omega), by unfold Fines; trivial⟩
/-- The parts under their keys. -/
def PartsOf (l ks : List ByteArray) (vs : List V) : Prop := ks.length = l.length ∧ vs.length = l.length ∧ (∀ i (h : i < l.length), (keyN i, textV l[i]) ∈ ks.zip vs) ∧ (∀ v ∈ vs, ∃ u, v = textV u) ∧ (∀ k ∈ ks, k.size ≤ 20)
theorem entry_ix {es : Array MapEntry} {l : List ByteArray} (h : (es.toList.map fun e => (e.key, e.val)) = (List.range l.length).map fun i => (Value.string (keyN i), Value.string (l.getD i ⟨#[]⟩))) (a : Nat) (ha : a < es.toList.length) : a < l.length ∧ (es.toList[a]).key = .string (keyN a) := by
  have hl : es.toList.length = l.length := by have := congrArg List.length h; simpa using this
  have h2 := congrArg (fun (x : List (Value × Value)) => x[a]?) h
  simp only [List.getElem?_map, List.getElem?_eq_getElem ha, List.getElem?_range (by omega : a < l.length), Option.map_some, Option.some.injEq, Prod.mk.injEq] at h2
  exact ⟨by omega, h2.1⟩
theorem keys_same {es : Array MapEntry} {l : List ByteArray} (h : (es.toList.map fun e => (e.key, e.val)) = (List.range l.length).map fun i => (Value.string (keyN i), Value.string (l.getD i ⟨#[]⟩))) (hl : l.length ≤ 30) {e e' : MapEntry} (he : e ∈ es.toList) (he' : e' ∈ es.toList) (hk : e.key = e'.key) : e = e' := by
  obtain ⟨a, ha, rfl⟩ := List.mem_iff_getElem.1 he
  obtain ⟨b, hb, rfl⟩ := List.mem_iff_getElem.1 he'
  obtain ⟨a1, a2⟩ := entry_ix h a ha
  obtain ⟨b1, b2⟩ := entry_ix h b hb
  rw [a2, b2] at hk
  injection hk with hk
  have := keyN_inj (by omega) (by omega) hk
  subst this
  rfl
theorem parts_of {es : Array MapEntry} {l : List ByteArray} (h : (es.toList.map fun e => (e.key, e.val)) = (List.range l.length).map fun i => (Value.string (keyN i), Value.string (l.getD i ⟨#[]⟩))) (hl : l.length ≤ 30) (hls : ∀ x ∈ l, x.size ≤ maxLen) {done : List MapEntry} (hp : done.Perm es.toList) {ks : List ByteArray} {vs : List V} (hg : Got done ks vs) :
    PartsOf l ks vs ∧ Fines vs := by
  obtain ⟨h1, h2, h3, h4, h5⟩ := hg
  have hln : es.toList.length = l.length := by have := congrArg List.length h; simpa using this
  have hdl := hp.length_eq
  refine ⟨⟨by omega, by omega, fun i hi => ?_, fun v hv => ?_, fun k hk => ?_⟩, Fines.mk fun i hi => ?_⟩
  · have ha : i < es.toList.length := by omega
    have h6 := congrArg (fun (x : List (Value × Value)) => x[i]?) h
    simp only [List.getElem?_map, List.getElem?_eq_getElem ha, List.getElem?_range hi, Option.map_some, Option.some.injEq, Prod.mk.injEq] at h6
    have h7 : l.getD i ⟨#[]⟩ = l[i] := by rw [List.getD_eq_getElem?_getD, List.getElem?_eq_getElem hi]; rfl
    rw [h7] at h6
    exact h3 _ (hp.mem_iff.2 (List.getElem_mem ha)) _ _ h6.1 h6.2
  · obtain ⟨u, hu, _⟩ := h5 v hv
    exact ⟨u, hu⟩
  · obtain ⟨e, he, hek⟩ := h4 k hk
    obtain ⟨i, hi, hx, _⟩ := MapT.keys h (hp.mem_iff.1 he)
    rw [hx] at hek
    injection hek with hek
    rw [← hek]
    exact keyN_small ⟨i, by omega⟩
  · obtain ⟨u, hu, e, he, hev⟩ := h5 _ (List.getElem_mem hi)
    obtain ⟨j, hj, _, hx⟩ := MapT.keys h (hp.mem_iff.1 he)
    rw [hx] at hev
    injection hev with hev
    rw [hu]
    refine textV_fine ?_
    rw [← hev, List.getD_eq_getElem?_getD, List.getElem?_eq_getElem hj]
    exact hls _ (List.getElem_mem hj)
def DictT (l : List ByteArray) (w : World) (e : Ending) (w' : World) : Prop := ∃ kv lv ks vs, e = .returned (.agg #[.int .i64 7, .int .i64 0, .float .f64 0, .string ⟨#[]⟩, kv, lv]) ∧
  Hid (IsV w' (fun b => w.heap.size ≤ b) (.mk 7 0 0 ⟨#[]⟩ ks vs) [.int .i64 7, .int .i64 0, .float .f64 0, .string ⟨#[]⟩, kv, lv]) ∧ Hid (PartsOf l ks vs) ∧ Hid (Below w.heap.size w w')
theorem mapX_new (w : World) (b : Nat) (h : w.heap[b]? = some (.map #[] 0)) : MapX w (fun x => x = b) [] [] b :=
  ⟨#[], 0, [], rfl, h, by simp, by simp, by unfold maxLen; simp, rfl, by simp, by unfold GoVs; rfl⟩
set_option maxHeartbeats 4000000 in
theorem textsOf_walk (l : List ByteArray) (hl : l.length ≤ 30) (hls : ∀ x ∈ l, x.size ≤ maxLen) (b : Nat) (w : World) (hm : MapT w l b) :
    Calls Tryd.prog 28 #[.map (some b)] w (DictT l w) := by
  have HLS := Lib.hid hls
  obtain ⟨es, clk, hb, hborn, hnd, hes⟩ := hm
  have HES := Lib.hid hes
  have HB := Lib.hid hb
  have HBL : Hid (b < w.heap.size) := Lib.hid (blk_lt hb)
  have HBORN := Lib.hid hborn
  have HND := Lib.hid hnd
  have hmm := @run_makeMap Tryd.prog
  have hsf := store_float
  have HB0 := Lib.hid ((Box6.new w (.int .i64 0) (.int .i64 0) (.float .f64 0) (.string ⟨#[]⟩) (.slice none 0 0) (.slice none 0 0)))
  clear hls hb hborn hnd hes
  go_enter Tryd.func28, Tryd.ntmps28
  go_wp2_with (at_range; go_must (refine wpList_range_at _ rfl _ _ rfl _ _ Tryd.underlying55 b es clk rfl ((((((Below.refl w.heap.size w).alloc (Nat.le_refl _) _).alloc (by simp) _).block b HBL.out)).trans HB.out) (w.heap.size + 2) (by simp) ?_))
  go_frame
  go_loopg [4] (leftOf es #[]).size (fun kq v4 wr => ∃ (seen : Array Nat) (done : List MapEntry) (ks : List ByteArray) (vs : List V), (leftOf es seen).size = kq ∧ Hid (Seen es seen done) ∧ Hid (wr.heap[w.heap.size + 2]? = some (.mapIter (some b) clk seen clk)) ∧
    Hid (Box6 wr w.heap.size (.int .i64 0) (.int .i64 0) (.float .f64 0) (.string ⟨#[]⟩) (.slice none 0 0) (.slice none 0 0)) ∧
    Hid (MapX wr (fun x => x = w.heap.size + 1) ks vs (w.heap.size + 1)) ∧ Hid (Asc ks) ∧ Hid (Got done ks vs) ∧ Hid (Below w.heap.size w wr) ∧ Hid (w.heap.size + 3 ≤ wr.heap.size))
  case atStart =>
    refine ⟨#[], [], [], [], rfl, Lib.hid (Seen.start es), Lib.hid ?_, Lib.hid (HB0.out.below (((Below.refl _ _).alloc (Nat.le_refl _) _).alloc (by simp) _)), Lib.hid (mapX_new _ _ ?_), Lib.hid List.Pairwise.nil, Lib.hid ⟨rfl, rfl, fun e he => absurd he (by simp), fun e he => absurd he (by simp), fun e he => absurd he (by simp)⟩, Lib.hid ((((Below.refl _ _).alloc (Nat.le_refl _) _).alloc (by simp) _).alloc (by simp; omega) _), Lib.hid (by simp)⟩
    · have h := heap_alloc_new ((w.alloc (.cells #[.int .i64 0, .int .i64 0, .float .f64 0, .string ⟨#[]⟩, .slice none 0 0, .slice none 0 0] 41)).alloc (.map #[] 0)) (.mapIter (some b) clk #[] clk)
      simpa using h
    · have h := heap_alloc_new (w.alloc (.cells #[.int .i64 0, .int .i64 0, .float .f64 0, .string ⟨#[]⟩, .slice none 0 0, .slice none 0 0] 41)) (.map #[] 0)
      rw [World.size_alloc] at h
      exact (((Below.refl _ _).alloc (Nat.le_refl _) _).block _ (by simp)).trans h
  case round =>
    obtain ⟨seen, done, ks, vs, hkq, HSN, HIT, HR, HMX, HAS, HGT, HBE, HSZ⟩ := hrel
    have HKQ := Lib.hid hkq
    clear hkq
    go_wp2_with (at_next; refine wpList_next_at _ rfl _ rfl (w.heap.size + 2) b clk seen es done rfl HIT.out ((HBE.out.block b HBL.out).trans HB.out) (fun x hx => HBORN.out x (by simpa using hx)) (by have := HBL.out; omega) HND.out HSN.out ?_ ?_)
    · intro h0
      have hdp := HSN.out.done HND.out (by rw [h0.out]; rfl)
      obtain ⟨hpo, hfi⟩ := parts_of HES.out hl HLS.out hdp HGT.out
      have HPO := Lib.hid hpo
      have HD := Lib.hid (dictOf_of HAS.out (fun x hx => by have := hpo.2.2.2.2 x hx; unfold maxLen; omega) hfi (by have := hpo.2.1; omega) (w.heap.size + 1) _ wr HMX.out.is)
      clear h0 hdp hpo hfi
      go_wp2_with fail
      refine (HD.out).mono ?_
      rintro e w4 ⟨k4, l4, rfl, HX4, HB4⟩
      have hvs : norms vs = vs := norms_text HPO.out.2.2.2.1
      rw [hvs] at HX4
      have hbx4 := HR.out.below HB4.out
      obtain ⟨⟨Ak, ck, rfl⟩, Al, cl, rfl⟩ : (∃ A c, k4 = .slice A ks.length c) ∧ ∃ A c, l4 = .slice A vs.length c := by
        obtain ⟨_, h1, h2, _⟩ := HX4.out.parts
        obtain ⟨A, c, h1, _⟩ := h1.form
        obtain ⟨A', c', h2, _⟩ := h2.form
        exact ⟨⟨A, c, h1⟩, A', c', h2⟩
      obtain ⟨d0, d1, d2, d3, d4, d5⟩ := hbx4.cells
      have fz : ∀ j, w4.frozen? ⟨w.heap.size, j, none⟩ = false := fun j => by unfold Box6 at hbx4; simp [World.frozen?, hbx4]
      obtain ⟨nk, hnk⟩ : ∃ nk, nk = ks.length := ⟨_, rfl⟩
      obtain ⟨nl, hnl⟩ : ∃ nl, nl = vs.length := ⟨_, rfl⟩
      rw [← hnk, ← hnl] at HX4 ⊢
      have HBX4 := Lib.hid hbx4
      clear hbx4 hnk hnl hvs
      go_wp2_with fail
      obtain ⟨w5, hw5⟩ : ∃ w5, w5 = (((((w4.setCell ⟨w.heap.size, 0, none⟩ (.int .i64 7)).setCell ⟨w.heap.size, 1, none⟩ (.int .i64 0)).setCell ⟨w.heap.size, 2, none⟩ (.float .f64 0)).setCell ⟨w.heap.size, 3, none⟩ (.string ⟨#[]⟩)).setCell ⟨w.heap.size, 4, none⟩ (.slice Ak nk ck)).setCell ⟨w.heap.size, 5, none⟩ (.slice Al nl cl) := ⟨_, rfl⟩
      rw [← hw5]
      obtain ⟨hb2, ho2, hl2⟩ := set6 HBX4.out _ _ _ _ _ _ hw5
      have e0 : w5.cell? ⟨w.heap.size, 0, none⟩ = some (.int .i64 7) := by rw [blk_cell hb2]; rfl
      have e1 : w5.cell? ⟨w.heap.size, 1, none⟩ = some (.int .i64 0) := by rw [blk_cell hb2]; rfl
      have e2 : w5.cell? ⟨w.heap.size, 2, none⟩ = some (.float .f64 0) := by rw [blk_cell hb2]; rfl
      have e3 : w5.cell? ⟨w.heap.size, 3, none⟩ = some (.string ⟨#[]⟩) := by rw [blk_cell hb2]; rfl
      have e4 : w5.cell? ⟨w.heap.size, 4, none⟩ = some (.slice Ak nk ck) := by rw [blk_cell hb2]; rfl
      have e5 : w5.cell? ⟨w.heap.size, 5, none⟩ = some (.slice Al nl cl) := by rw [blk_cell hb2]; rfl
      refine bodyPost_ret (v := .agg #[.int .i64 7, .int .i64 0, .float .f64 0, .string ⟨#[]⟩, .slice Ak nk ck, .slice Al nl cl]) (by simp [results, Tryd.results28, go_sem, e0, e1, e2, e3, e4, e5]) rfl ?_
      have hs3 := HSZ.out
      have kk : Kept w4 w5 (fun b => wr.heap.size ≤ b) (fun b => w.heap.size ≤ b) := fun b hb _ => ⟨by have hb' : wr.heap.size ≤ b := hb; omega, ho2 b (by have hb' : wr.heap.size ≤ b := hb; omega)⟩
      exact ⟨_, _, ks, vs, rfl, Lib.hid (IsV.keep kk _ HX4.out), HPO, Lib.hid ((HBE.out.trans (HB4.out.mono HBE.out.size)).trans (hl2.mono (by omega)))⟩
    · intro e w1 HALL hen
      obtain ⟨he, hsn, hlt, hit, hoth, hsz, hbel, hgr⟩ := HALL.out
      replace he : e ∈ es.toList := by simpa using he
      clear HALL
      obtain ⟨key, val, born⟩ := e
      obtain ⟨i, hi, hk, hv⟩ := MapT.keys HES.out he
      simp only at hk hv
      subst hk hv
      obtain ⟨u, hu⟩ : ∃ u, u = l.getD i ⟨#[]⟩ := ⟨_, rfl⟩
      rw [← hu] at he hsn hen ⊢
      have hnd : isD ks (keyN i) = false := by
        cases hd : isD ks (keyN i) with
        | false => rfl
        | true =>
          exfalso
          obtain ⟨hk, hks⟩ := isD_mem hd
          obtain ⟨e', he', hek⟩ := HGT.out.2.2.2.1 _ (List.getElem_mem hk)
          rw [hks] at hek
          have e1 := keys_same HES.out hl (HSN.out.mem e' he') he hek
          have e2 := hsn.nd
          rw [List.map_append] at e2
          exact (List.nodup_append.1 e2).2.2 e'.born (List.mem_map.2 ⟨e', he', rfl⟩) born (by simp) (by rw [e1])
      have kk : Kept wr w1 (fun x => x = w.heap.size + 1) (fun x => x = w.heap.size + 1) := fun x hx _ => ⟨hx, hoth x (by have hx' : x = w.heap.size + 1 := hx; omega)⟩
      have hksl : ks.length ≤ 100000 := by
        have h1 := HGT.out.1
        have h2 := hsn.nd
        have h3 : done.length ≤ es.toList.length := by
          have hd : (done ++ [(⟨.string (keyN i), .string u, born⟩ : MapEntry)]).Nodup := (List.pairwise_map.1 h2).imp fun hne e => hne (by rw [e])
          have := len_le hd es.toList (fun e he => hsn.mem e he)
          simp at this
          simp
          omega
        have h4 : es.toList.length = l.length := by have := congrArg List.length HES.out; simpa using this
        omega
      obtain ⟨o, hmu, hmx⟩ := (HMX.out.keep kk).update HAS.out hksl (keyN i) (u := textV u) (x := .iface 9 (.string u)) (by unfold textV GoV; simp)
      have hg := HGT.out.put (e := ⟨.string (keyN i), .string u, born⟩) rfl rfl hnd
      have HX := Lib.hid (And.intro hmx (And.intro (HAS.out.put (keyN i)) hg))
      have HSN1 := Lib.hid hsn
      have HLT := Lib.hid hlt
      have HIT1 : Hid ((setBlock w1 (w.heap.size + 1) o).heap[w.heap.size + 2]? = some (.mapIter (some b) clk (seen.push born) clk)) := Lib.hid ((setBlock_other o (by omega)).trans hit)
      have HR1 : Hid (Box6 (setBlock w1 (w.heap.size + 1) o) w.heap.size (.int .i64 0) (.int .i64 0) (.float .f64 0) (.string ⟨#[]⟩) (.slice none 0 0) (.slice none 0 0)) := Lib.hid ((setBlock_other o (by omega)).trans ((hoth _ (by omega)).trans HR.out))
      have HBE1 : Hid (Below w.heap.size w (setBlock w1 (w.heap.size + 1) o)) := Lib.hid (below_setBlock (hbel _ _ HBE.out (by omega)) (by omega) o)
      have HSZ1 : Hid (w.heap.size + 3 ≤ (setBlock w1 (w.heap.size + 1) o).heap.size) := Lib.hid (by rw [setBlock_size, hsz]; exact HSZ.out)
      have HU := Lib.hid hu
      clear he hsn hlt hit hoth hsz hbel hgr hnd kk hksl hmx hg hu hi
      go_wp2_with fail
      go_roundg (leftOf es (seen.push born)).size
      case measure => rw [← HKQ.out]; exact HLT.out
      case rel =>
        obtain ⟨h1, h2, h3⟩ := HX.out
        exact ⟨seen.push born, done ++ [⟨.string (keyN i), .string u, born⟩], _, _, rfl, HSN1, HIT1, HR1, Lib.hid h1, Lib.hid h2, Lib.hid h3, HBE1, HSZ1⟩
end Go.Proofs.YtjaeihbfkmflkaaDoor.Vals
