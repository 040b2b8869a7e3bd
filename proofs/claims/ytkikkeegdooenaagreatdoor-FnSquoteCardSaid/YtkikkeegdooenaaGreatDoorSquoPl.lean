/- FnSquote, plain: spec.whole says what strconv says; texts joined. -/
import Derived.Test.YtkikkeegdooenaaGreatDoorPFnSquotex1
import Derived.Test.YtkikkeegdooenaaGreatDoorPow
import Derived.Lib.LazyBuf
import Derived.Lib.Join
import Derived.Lib.ItoaLen
namespace Go.Proofs.YtkikkeegdooenaaGreatDoor.Pure
open Go.RowKit Go.Proofs.YtkikkeegdooenaaGreatDoor.PFnSquote Go.Proofs.YtkikkeegdooenaaGreatDoorW.PrintWords Go.Proofs.YtkikkeegdooenaaGreatDoorW.PrintLast Go.Proofs.YtkikkeegdooenaaGreatDoor.Txt Go.Proofs.YtkikkeegdooenaaGreatDoor Go.Proofs.YtkikkeegdooenaaGreatDoor.Giv

/-! ### texts joined -/
/-- The bytes of texts with one between each two. -/
def joinL (p : List UInt8) : List (List UInt8) → List UInt8
  | [] => []
  | [x] => x
  | x :: y :: l => x ++ p ++ joinL p (y :: l)
/-- What stands behind the first part. -/
def tailL (p : List UInt8) (l : List (List UInt8)) : List UInt8 := l.flatMap fun x => p ++ x
theorem joinL_cons (p x : List UInt8) (l : List (List UInt8)) : joinL p (x :: l) = x ++ tailL p l := by
  induction l generalizing x with
  | nil => simp [joinL, tailL]
  | cons y l ih => rw [joinL, ih]; simp [tailL]
theorem joined_ev (p : ByteArray) (l : List ByteArray) (hp : p.size ≤ 100000) (hn : l.length ≤ 100000) (hl : ∀ x ∈ l, x.size ≤ 100000) :
    ∃ r : ByteArray, Ev (fun k => spec_Joined.f k p l) r ∧ r.toList = joinL p.toList (l.map ByteArray.toList) := by
  have key : ∀ (d i : Nat) (acc : ByteArray), l.length - i = d → 0 < i → i ≤ l.length → acc.size ≤ i * 200000 → ∃ r : ByteArray, Ev (fun k => spec_Joined.l0 k p l acc (l.length : Int) (i : Int)) r ∧ r.toList = acc.toList ++ tailL p.toList ((l.drop i).map ByteArray.toList) := by
    intro d
    induction d with
    | zero =>
      intro i acc hd h0 hi ha
      refine ⟨acc, Ev.step (f := fun _ => some acc) (fun k => by simp only [spec_Joined.l0]; rw [if_neg (by omega)]) (Ev.now _), ?_⟩
      rw [List.drop_eq_nil_of_le (by omega)]; simp [tailL]
    | succ d ih =>
      intro i acc hd h0 hi ha
      have hlt : i < l.length := by omega
      have e : l.drop i = l[i] :: l.drop (i + 1) := List.drop_eq_getElem_cons hlt
      have hr : rdOf ByteArray.empty l (i : Int) = l[i] := by simp [rdOf, List.getElem?_eq_getElem hlt]
      have hz := hl l[i] (List.getElem_mem hlt)
      have hs1 := size_append acc p; have hs2 := size_append (acc ++ p) l[i]
      obtain ⟨r, h1, h2⟩ := ih (i + 1) ((acc ++ p) ++ l[i]) (by omega) (by omega) (by omega) (by omega)
      refine ⟨r, Ev.step (f := fun k => spec_Joined.l0 k p l ((acc ++ p) ++ l[i]) (l.length : Int) ((i + 1 : Nat) : Int)) (fun k => ?_) h1, ?_⟩
      · simp only [spec_Joined.l0]
        rw [if_pos (by omega), if_pos (by omega), if_pos (by omega), if_pos (by omega), if_pos (by omega), hr, if_pos (by omega), w64 (by omega) (by omega)]; rfl
      · rw [h2, e, List.map_cons, tl_append, tl_append]; simp [tailL]
  cases l with
  | nil => exact ⟨⟨#[]⟩, Ev.step (f := fun _ => some _) (fun k => by show spec_Joined.l0 (k + 1) p [] ⟨#[]⟩ _ 0 = _; simp only [spec_Joined.l0]; rw [if_neg (by decide)]) (Ev.now _), tl_nil⟩
  | cons x l =>
    have hz := hl x (List.mem_cons_self ..)
    have he : (⟨#[]⟩ : ByteArray) ++ x = x := ext_eq (by rw [tl_append, tl_nil, List.nil_append])
    obtain ⟨r, h1, h2⟩ := key _ 1 x rfl (by omega) (by simp) (by omega)
    refine ⟨r, Ev.step (f := fun k => spec_Joined.l0 k p (x :: l) x ((x :: l).length : Int) ((1 : Nat) : Int)) (fun k => ?_) h1, ?_⟩
    · show spec_Joined.l0 (k + 1) p (x :: l) ⟨#[]⟩ _ 0 = _
      simp only [spec_Joined.l0]
      rw [if_pos (by simp only [List.length_cons]; omega), if_neg (by omega), if_pos (by omega), if_pos (by simp only [List.length_cons]; omega)]
      have hr : rdOf ByteArray.empty (x :: l) 0 = x := rfl
      rw [hr, he, if_pos (by show 0 + x.size ≤ _; omega), w64 (by decide) (by decide)]; rfl
    · rw [h2, List.map_cons, joinL_cons]; rfl
theorem str_one (e : Nat) (he : e ≤ 9) : (strOfNums [((48 + e : Nat) : Int)]) = ⟨#[UInt8.ofNat (48 + e)]⟩ := by
  have := Lib.Lz.strOfNums_map [UInt8.ofNat (48 + e)]
  have h2 : (UInt8.ofNat (48 + e)).toNat = 48 + e := by simp; omega
  simp only [List.map_cons, List.map_nil, h2] at this
  exact this
theorem dig (d : Int) (h0 : -9 ≤ d) (h1 : d ≤ 9) : (wrap64 (48 + mx d (wrap64 (-d)))) % 256 = ((48 + d.natAbs : Nat) : Int) := by
  have hw : wrap64 (-d) = -d := w64 (by omega) (by omega)
  rw [hw]
  have hm : mx d (-d) = (d.natAbs : Int) := by unfold mx; split <;> omega
  rw [hm, w64 (by omega) (by omega)]
  omega
theorem bytes_one (c : UInt8) (acc : ByteArray) : ((⟨#[c]⟩ : ByteArray) ++ acc).toList = c :: acc.toList := by
  rw [tl_append, Lib.toList_data]; rfl
theorem whole_key : ∀ (m : Nat) (x : Int) (acc : ByteArray) (b : Bool), x.natAbs = m → x.natAbs ≤ 9223372036854775808 → -9223372036854775808 ≤ x → x ≤ 9223372036854775807 → acc.size + 100 ≤ 1000000 + 10 → acc.size + (Lib.decDigits m).length ≤ 1000 →
    ∃ r : ByteArray, Ev (fun k => spec_whole.l0 k x acc b) r ∧ r.toList = (if b = true then [45] else []) ++ Lib.decDigits m ++ acc.toList := by
  intro m
  induction m using Nat.strongRecOn with
  | _ m ih =>
    intro x acc b hm h0 h1 h2 ha hb
    by_cases hs : m < 10
    · have hd := dig x (by omega) (by omega)
      have e0 := str_one x.natAbs (by omega)
      have hsz : (⟨#[UInt8.ofNat (48 + x.natAbs)]⟩ : ByteArray).size = 1 := rfl
      have z1 := size_append (⟨#[UInt8.ofNat (48 + x.natAbs)]⟩ : ByteArray) acc
      have hdd : Lib.decDigits m = [UInt8.ofNat (48 + x.natAbs)] := by rw [hm, Lib.decDigits]; simp [hs]
      cases b with
      | false =>
        refine ⟨(⟨#[UInt8.ofNat (48 + x.natAbs)]⟩ : ByteArray) ++ acc, Ev.step (f := fun _ => some ((⟨#[UInt8.ofNat (48 + x.natAbs)]⟩ : ByteArray) ++ acc)) (fun k => ?_) (Ev.now _), ?_⟩
        · simp only [spec_whole.l0, Option.bind_some]
          rw [if_neg (by omega), if_neg (by omega), hd, e0, if_pos (by omega), if_neg (by decide)]
        · rw [bytes_one, hdd]; rfl
      | true =>
        refine ⟨(⟨#[45]⟩ : ByteArray) ++ ((⟨#[UInt8.ofNat (48 + x.natAbs)]⟩ : ByteArray) ++ acc), Ev.step (f := fun _ => some ((⟨#[45]⟩ : ByteArray) ++ ((⟨#[UInt8.ofNat (48 + x.natAbs)]⟩ : ByteArray) ++ acc))) (fun k => ?_) (Ev.now _), ?_⟩
        · simp only [spec_whole.l0, Option.bind_some]
          rw [if_neg (by omega), if_neg (by omega), hd, e0, if_pos (by omega), if_pos trivial, if_pos (by omega)]
        · rw [bytes_one, bytes_one, hdd]; rfl
    · have hmod : (Int.tmod x 10).natAbs = m % 10 := by rw [Int.natAbs_tmod, hm]; rfl
      have hdiv : (Int.tdiv x 10).natAbs = m / 10 := by rw [Int.natAbs_tdiv, hm]; rfl
      have hd := dig (Int.tmod x 10) (by omega) (by omega)
      rw [hmod] at hd
      have e0 := str_one (m % 10) (by omega)
      have hdd : Lib.decDigits m = Lib.decDigits (m / 10) ++ [UInt8.ofNat (48 + m % 10)] := by rw [Lib.decDigits]; simp [hs]
      have hsz : (⟨#[UInt8.ofNat (48 + m % 10)]⟩ : ByteArray).size = 1 := rfl
      have z1 := size_append (⟨#[UInt8.ofNat (48 + m % 10)]⟩ : ByteArray) acc
      have hlen : (Lib.decDigits m).length = (Lib.decDigits (m / 10)).length + 1 := by rw [hdd]; simp
      have hq : wrap64 (Int.tdiv x 10) = Int.tdiv x 10 := w64 (by omega) (by omega)
      obtain ⟨r, hr1, hr2⟩ := ih (m / 10) (by omega) (Int.tdiv x 10) ((⟨#[UInt8.ofNat (48 + m % 10)]⟩ : ByteArray) ++ acc) b hdiv (by omega) (by omega) (by omega) (by omega) (by omega)
      refine ⟨r, Ev.step (fun k => ?_) hr1, ?_⟩
      · simp only [spec_whole.l0, Option.bind_some]
        rw [hd, e0, hq]
        by_cases hp : x > 9
        · rw [if_pos hp, if_pos (by omega)]
        · rw [if_neg hp, if_pos (by omega), if_pos (by omega)]
      · rw [hr2, bytes_one, hdd]; simp
theorem whole_ev (n : Int) (h0 : -9223372036854775808 ≤ n) (h1 : n ≤ 9223372036854775807) : Ev (fun k => spec_whole.f k n) (itoaB n) := by
  have hL := Lib.itoa_length_le n h0 h1
  have hi : Lib.itoa n = (if n < 0 then [45] else []) ++ Lib.decDigits n.natAbs := by
    unfold Lib.itoa
    split
    · rfl
    · have : n.toNat = n.natAbs := by omega
      rw [this]; rfl
  have hlen : (Lib.decDigits n.natAbs).length ≤ 21 := by
    rw [hi] at hL
    simp only [List.length_append] at hL
    omega
  obtain ⟨r, h1, h2⟩ := whole_key n.natAbs n ⟨#[]⟩ (decide (n < 0)) rfl (by omega) h0 h1 (by decide) (by show 0 + _ ≤ 1000; omega)
  have : r = itoaB n := by
    apply ext_eq
    unfold itoaB
    rw [h2, hi, tl_nil, List.append_nil, tl_mk]
    simp
  rw [this] at h1
  exact h1
end Go.Proofs.YtkikkeegdooenaaGreatDoor.Pure
