/- Walks of the reference's UTF-8 test (spec.replaced, spec.Points, spec.UTF8): what they answer, for every text of at most 2^45 bytes. -/
import Derived.Test.YtjaeihbfkmflkaaDoorProg
import Derived.Test.YtjaeihbfkmflkaaDoorTxt
import Derived.WalkKit
import Derived.BigCall
import Derived.Lib.OthersKept
import Derived.Laws.RangeAny
import Derived.Laws.Cover4
import Derived.Laws.IdiomStrings
import Derived.WalkLawsBesides
import Derived.WalkSpells
import Derived.Outline
import Derived.Lib.Hide
namespace Go.Proofs.YtjaeihbfkmflkaaDoor.Giv
open Go.RowKit Go.Proofs.YtjaeihbfkmflkaaDoorW.PrintWords Go.Proofs.YtjaeihbfkmflkaaDoor.Txt

/-! ### 'replaced' -/
def replFrom (s : ByteArray) : Nat → Nat → Bool
  | 0, _ => false
  | f + 1, pos => if pos < s.size then (if (Utf8.decode s pos).1 = 65533 ∧ (s.size < pos + 3 ∨ (s.extract pos (pos + 3)).toList ≠ [239, 191, 189]) then true else replFrom s f (pos + (Utf8.decode s pos).2)) else false
def repl (s : ByteArray) : Bool := replFrom s s.size 0
theorem replFrom_end (s : ByteArray) (f pos : Nat) (h : ¬ pos < s.size) : replFrom s f pos = false := by
  cases f with
  | zero => rfl
  | succ f => simp [replFrom, h]
theorem width_pos (s : ByteArray) (pos : Nat) (h : pos < s.size) : 1 ≤ (Utf8.decode s pos).2 := by
  by_cases ha : (s[pos]'h).toNat < 128
  · rw [decode_ascii s pos h ha]; exact Nat.le_refl _
  · exact (decode_high s pos h (by omega)).2

set_option maxHeartbeats 1000000 in
theorem replaced_walk (s : ByteArray) (w : World) (hs : s.size ≤ 35184372088832) :
    Calls Tryd.prog 31 #[.string s] w fun e w' => e = .returned (.bool (repl s)) ∧ Below w.heap.size w w' := by
  go_enter Tryd.func31, Tryd.ntmps31
  go_wp2
  go_loopw [] (fun wr => ∃ (pos fuel : Nat), wr.heap[w.heap.size]? = some (.stringIter s pos) ∧ Below w.heap.size w wr ∧ replFrom s fuel pos = repl s ∧ s.size ≤ pos + fuel) (fun wr => s.size - wr.iterPos w.heap.size)
  case atStart =>
    exact ⟨0, s.size, World.iter_heap w s 0, ((Below.refl _ w).alloc (Nat.le_refl _) _), rfl, by omega⟩
  case round =>
    obtain ⟨pos, fuel, hit, hbw, hacc, hfu⟩ := hrel
    by_cases hp : pos < s.size
    · have hnx : ∀ ty, (Instr.next (.pointer (some ⟨w.heap.size, 0, none⟩)) true ty).run Tryd.prog wr = _ := fun ty => Lib.run_next_any_at wr w.heap.size s pos ty hit hp
      have hw := width_pos s pos hp
      obtain ⟨f, rfl⟩ : ∃ f, fuel = f + 1 := ⟨fuel - 1, by omega⟩
      have hd1 := decode_le s pos
      have hit2 := Lib.iterAt_heap wr w.heap.size s pos (pos + (Utf8.decode s pos).2) hit
      have hbw2 := Lib.below_iterAt hbw (k := w.heap.size) (by omega) s (pos + (Utf8.decode s pos).2)
      by_cases h1 : (Utf8.decode s pos).1 = 65533
      · by_cases h2 : s.size < pos + 3
        · go_wp2
          go_ret
          have e : replFrom s (f + 1) pos = true := by rw [replFrom, if_pos hp, if_pos ⟨h1, .inl h2⟩]
          exact ⟨by rw [← hacc, e]; rfl, hbw2⟩
        · go_wp2
          · have hx : (s.size : Int) - (pos : Int) < 3 ∨ (!(s.extract pos (pos + 3)).toList == [239, 191, 189]) = true := by assumption
            go_ret
            have e : replFrom s (f + 1) pos = true := by
              have h3 : s.size < pos + 3 ∨ (s.extract pos (pos + 3)).toList ≠ [239, 191, 189] := by
                rcases hx with hx | hx
                · exact .inl (by omega)
                · exact .inr (by simpa using hx)
              rw [replFrom, if_pos hp, if_pos ⟨h1, h3⟩]
            exact ⟨by rw [← hacc, e]; rfl, hbw2⟩
          · have hx : 3 ≤ (s.size : Int) - (pos : Int) ∧ (!(s.extract pos (pos + 3)).toList == [239, 191, 189]) = false := by assumption
            have e : replFrom s (f + 1) pos = replFrom s f (pos + (Utf8.decode s pos).2) := by
              rw [replFrom, if_pos hp, if_neg]
              rintro ⟨_, h | h⟩
              · omega
              · exact h (by simpa using hx.2)
            refine ⟨⟨pos + (Utf8.decode s pos).2, f, hit2, hbw2, e.symm.trans hacc, by omega⟩, ?_⟩
            simp only [World.iterPos, hit2, hit]; omega
      · go_wp2
        have e : replFrom s (f + 1) pos = replFrom s f (pos + (Utf8.decode s pos).2) := by rw [replFrom, if_pos hp, if_neg (fun h => h1 h.1)]
        refine ⟨⟨pos + (Utf8.decode s pos).2, f, hit2, hbw2, e.symm.trans hacc, by omega⟩, ?_⟩
        simp only [World.iterPos, hit2, hit]; omega
    · have hnx : ∀ ty, (Instr.next (.pointer (some ⟨w.heap.size, 0, none⟩)) true ty).run Tryd.prog wr = _ := fun ty => Lib.run_next_end_at wr w.heap.size s pos ty hit hp
      go_wp2
      go_ret
      rw [replFrom_end s fuel pos hp] at hacc
      exact ⟨by rw [← hacc]; rfl, hbw⟩

/-! ### 'Points' -/
/-- A text's code points, from a place on. -/
def runesFrom (s : ByteArray) : Nat → Nat → List Int
  | 0, _ => []
  | f + 1, i => if i < s.size then ((Utf8.decode s i).1 : Int) :: runesFrom s f (i + (Utf8.decode s i).2) else []
def runes (s : ByteArray) : List Int := runesFrom s s.size 0
theorem conv_runes (s : ByteArray) : ∀ (f i : Nat) (acc : Array Value), Conv.runesFrom s f i acc = acc ++ ((runesFrom s f i).map (Value.int .i32)).toArray
  | 0, _, acc => by simp [Conv.runesFrom, runesFrom]
  | f + 1, i, acc => by
    unfold Conv.runesFrom runesFrom
    split
    · show Conv.runesFrom s f (i + (Utf8.decode s i).2) (acc.push (Value.int IntKind.i32 (Int.ofNat (Utf8.decode s i).1))) = _
      rw [conv_runes s f]
      simp
    · simp
theorem runes_conv (s : ByteArray) : Conv.runesFrom s s.size 0 #[] = ((runes s).map (Value.int .i32)).toArray := by
  rw [conv_runes]; simp [runes]
theorem runesFrom_length (s : ByteArray) : ∀ (f i : Nat), (runesFrom s f i).length ≤ f
  | 0, _ => by simp [runesFrom]
  | f + 1, i => by
    unfold runesFrom
    split
    · have := runesFrom_length s f (i + (Utf8.decode s i).2); simp; omega
    · simp
theorem runes_length (s : ByteArray) : (runes s).length ≤ s.size := runesFrom_length s s.size 0

/-- '[]rune(s)': the row that is made. -/
theorem made_runes {P : Program} (w : World) (src dst e : TypeId) (s : ByteArray) (hS : P.underlying src = some .string) (hD : P.underlying dst = some (.slice e)) (hE : P.underlying e = some (.int .i32)) (hs : s.size ≤ 35184372088832) :
    ∃ (cap : Nat) (W1 : World), (convert src dst (.string s)).run P w = .ok (.slice (some ⟨w.heap.size, 0, none⟩) (runes s).length cap) W1 ∧
      W1.ownsRow w.heap.size e 1 (.slice (some ⟨w.heap.size, 0, none⟩) (runes s).length cap) (runes s).length (nums .i32 (runes s)) ∧ Below w.heap.size w W1 := by
  have h46 : (Conv.runesFrom s s.size 0 #[]).size ≤ 70368744177664 := by have := size_runesFrom s s.size 0 #[]; simp at this; omega
  have hcv := run_runes_of_string (P := P) w src dst e s hS hD hE h46
  have hz : (Conv.runesFrom s s.size 0 #[]).size = (runes s).length := by rw [runes_conv]; simp
  rw [hz] at hcv
  have hge := grownCap_ge w (runes s).length 0 e
  have hle := runes_length s
  have hmx := grownCap_le_maxLen w (runes s).length 0 e (by simp only [maxLen]; omega)
  refine ⟨_, _, hcv, ⟨by simp [nums], .inr ⟨w.heap.size, _, _, rfl, Nat.le_refl _, heap_alloc_new w.drew _, hge, hmx, ?_, ?_⟩⟩, (below_drew (Below.refl _ _)).alloc (Nat.le_refl _) _⟩
  · simp [hz]; omega
  · rw [Nat.mul_one, runes_conv]
    simp [nums]
/-- 'string(rs)' of a row of runes. -/
theorem text_runes {P : Program} {W : World} {base n : Nat} {xs : List Int} (src dst e : TypeId) (g cap : Nat) (hS : P.underlying src = some (.slice e)) (hE : P.underlying e = some (.int .i32)) (hD : P.underlying dst = some .string)
    (h : W.ownsRow base e 1 (.slice (some ⟨g, 0, none⟩) n cap) n (nums .i32 xs)) :
    (convert src dst (.slice (some ⟨g, 0, none⟩) n cap)).run P W = .ok (.string (runesBytes xs)) W := by
  have hl : xs.length = n := by have := h.1; simpa [nums] using this
  have := run_convert_runes (P := P) W src dst e ⟨g, 0, none⟩ n cap xs (by omega) hS hE hD (fun j hj => by
    have hc := h.cells (g := g) rfl j (.int .i32 (xs.getD j 0)) (by simp [nums, List.getElem?_eq_getElem hj])
    exact hc)
  rw [← hl, List.take_length] at this
  rw [← hl]; exact this

set_option maxHeartbeats 1000000 in
theorem points_walk (s : ByteArray) (w : World) (hs : s.size ≤ 35184372088832) :
    Calls Tryd.prog 17 #[.string s] w fun e w' => ∃ v : Value, e = .returned (.tuple #[v, .bool (decide (runesBytes (runes s) = s) && !repl s)]) ∧ Kd.R (Kd.int .i32) 21 w' w.heap.size (fun _ => True) v (runes s) ∧ Below w.heap.size w w' := by
  obtain ⟨cap, W1, hcv, hown, hb⟩ := made_runes (P := Tryd.prog) w 9 22 21 s Tryd.underlying9 Tryd.underlying22 Tryd.underlying21 hs
  have hcs := text_runes (P := Tryd.prog) 22 9 21 w.heap.size cap Tryd.underlying22 Tryd.underlying21 Tryd.underlying9 hown
  have Hown := Lib.hid hown; clear hown
  have Hb := Lib.hid hb; clear hb
  obtain ⟨n, hn⟩ : ∃ n, n = (runes s).length := ⟨_, rfl⟩
  rw [← hn] at hcv hcs
  have Hn := Lib.hid hn; clear hn
  obtain ⟨B, hB⟩ : ∃ B, B = runesBytes (runes s) := ⟨_, rfl⟩
  rw [← hB] at hcs
  have HB := Lib.hid hB; clear hB
  cases h : (B.toList == s.toList)
  · go_enter Tryd.func17, Tryd.ntmps17
    go_wp2_with fail
    go_ret2
    have hd : (decide (B = s) && !repl s) = false := by
      have : ¬ B = s := fun e => by rw [e] at h; simp at h
      simp [this]
    rw [HB.out] at hd
    exact ⟨_, by rw [hd]; rfl, Kd.R_of_own (by rw [← Hn.out]; have := Hown.out; rw [← Hn.out] at this; exact this) (fun _ _ => trivial), Hb.out⟩
  · go_enter Tryd.func17, Tryd.ntmps17
    go_wp2_with fail
    refine (replaced_walk s W1 hs).mono ?_
    rintro e w' ⟨rfl, hb'⟩
    have Hb' := Lib.hid hb'; clear hb'
    go_wp2_with fail
    go_ret2
    have hd : (decide (B = s) && !repl s) = !repl s := by
      have : B = s := ext_eq (by simpa using h)
      simp [this]
    rw [HB.out] at hd
    have ho : w'.ownsRow w.heap.size 21 1 (.slice (some ⟨w.heap.size, 0, none⟩) n cap) (runes s).length (encs (Value.int .i32) (runes s)) := by
      have := pw_own_below Hown.out Hb'.out; rw [← Hn.out] at this ⊢; exact this
    exact ⟨_, by rw [hd]; rfl, Kd.R_of_own ho (fun _ _ => trivial), Hb.out.trans (Hb'.out.mono Hb.out.size)⟩

def utf8 (s : ByteArray) : Bool := decide (runesBytes (runes s) = s) && !repl s
theorem utf8_walk (s : ByteArray) (w : World) (hs : s.size ≤ 35184372088832) :
    Calls Tryd.prog 19 #[.string s] w fun e w' => e = .returned (.bool (utf8 s)) ∧ Below w.heap.size w w' := by
  obtain ⟨u, hu⟩ : ∃ u, u = utf8 s := ⟨_, rfl⟩
  have Hp := Lib.hid (points_walk s w hs)
  have Hu := Lib.hid hu
  clear hu
  go_enter Tryd.func19, Tryd.ntmps19
  go_wp2_with fail
  refine Hp.out.mono ?_
  rintro e w' ⟨v, rfl, -, hb⟩
  have Hb := Lib.hid hb
  clear hb
  go_wp2_with fail
  go_ret
  exact ⟨rfl, Hb.out⟩

/-! ### in the print's form -/
def spec_UTF8.f (a0 : ByteArray) : Option (Bool) := if a0.size ≤ 35184372088832 then some (utf8 a0) else none
theorem spec_UTF8.calls (a0 : ByteArray) (r : Bool) (w : World) (h : spec_UTF8.f a0 = some r) :
    Calls Tryd.prog 19 #[.string a0] w fun e w' => e = .returned (.bool r) ∧ Below w.heap.size w w' := by
  unfold spec_UTF8.f at h
  split at h
  · obtain rfl := Option.some.inj h
    exact utf8_walk a0 w (by assumption)
  · exact absurd h (by simp)
def spec_Points.f (a0 : ByteArray) : Option (List Int × Bool) := if a0.size ≤ 35184372088832 then some (runes a0, utf8 a0) else none
theorem spec_Points.calls (a0 : ByteArray) (r1 : List Int) (r2 : Bool) (w : World) (h : spec_Points.f a0 = some (r1, r2)) :
    Calls Tryd.prog 17 #[.string a0] w fun e w' => ∃ v0_ : Value, e = .returned (.tuple #[v0_, .bool r2]) ∧ Kd.R (Kd.int .i32) 21 w' w.heap.size (fun _ => True) v0_ r1 ∧ Below w.heap.size w w' := by
  unfold spec_Points.f at h
  split at h
  · obtain ⟨rfl, rfl⟩ := Prod.mk.inj (Option.some.inj h)
    exact points_walk a0 w (by assumption)
  · exact absurd h (by simp)

end Go.Proofs.YtjaeihbfkmflkaaDoor.Giv
