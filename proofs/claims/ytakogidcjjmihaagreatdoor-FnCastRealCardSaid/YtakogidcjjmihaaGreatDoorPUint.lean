/- strconv.ParseUint at digits of the bases 2, 8, 10 and 16, with their prefixes. Printed by gen_pu.py. -/
import Derived.Test.YtakogidcjjmihaaGreatDoorProg
import Derived.Test.YtakogidcjjmihaaGreatDoorTxt
import Derived.WalkKit
import Derived.WalkSpells
import Derived.WalkLawsBesides
import Derived.LoopN
import Derived.BigCall
import Derived.OwnWalk
import Derived.Lib.AtoiErrMem
import Derived.Lib.Hide
import Derived.Laws.IdiomStrings
namespace Go.Proofs.YtakogidcjjmihaaGreatDoor.Pu
open Go.RowKit Go.Proofs.YtakogidcjjmihaaGreatDoorW.PrintWords Go.Proofs.YtakogidcjjmihaaGreatDoor.Txt
set_option linter.unusedVariables false
set_option linter.unusedSimpArgs false
set_option maxRecDepth 100000
/-- What a digit says. -/
def dv (c : UInt8) : Nat := if c.toNat ≤ 57 then c.toNat - 48 else c.toNat - 87
/-- A digit of a base. -/
def okD (b : Nat) (c : UInt8) : Prop := ((48 ≤ c.toNat ∧ c.toNat ≤ 57) ∨ (97 ≤ c.toNat ∧ c.toNat ≤ 102)) ∧ dv c < b
/-- What digits say, behind others. -/
def valB (b : Nat) : Nat → List UInt8 → Nat
  | a, [] => a
  | a, c :: t => valB b (a * b + dv c) t
theorem valB_ge (b : Nat) (hb : 1 ≤ b) : ∀ (l : List UInt8) (a : Nat), a ≤ valB b a l
  | [], a => Nat.le_refl _
  | c :: t, a => Nat.le_trans (Nat.le_trans (Nat.le_mul_of_pos_right a hb) (Nat.le_add_right _ _)) (valB_ge b hb t _)
theorem or32 (n : Nat) (h : (48 ≤ n ∧ n ≤ 57) ∨ (97 ≤ n ∧ n ≤ 122)) : bits BinOp.or IntKind.u8 (n : Int) 32 = (n : Int) := by
  have : ∀ n : Fin 256, ((48 ≤ n.val ∧ n.val ≤ 57) ∨ (97 ≤ n.val ∧ n.val ≤ 122)) → bits BinOp.or IntKind.u8 (n.val : Int) 32 = (n.val : Int) := by decide
  exact this ⟨n, by omega⟩ h
theorem lower_walk (n : Nat) (h : (48 ≤ n ∧ n ≤ 57) ∨ (97 ≤ n ∧ n ≤ 122)) (w : World) :
    Calls Tryz.prog 60 #[.int .u8 (n : Int)] w fun e w' => e = .returned (.int .u8 (n : Int)) ∧ w' = w := by
  go_enter Tryz.func60, Tryz.ntmps60
  go_wp2_with fail
  go_ret
  refine ⟨?_, rfl⟩
  show Ending.returned (Value.int IntKind.u8 (bits BinOp.or IntKind.u8 (n : Int) 32)) = _
  rw [or32 n h]
theorem u64w (x : Int) (h0 : 0 ≤ x) (h1 : x < 18446744073709551616) : IntKind.u64.wrap x = x := by
  show x % (2 ^ 64 : Int) = x
  exact Int.emod_eq_of_lt h0 h1
theorem drop_cons {l : List UInt8} {i : Nat} (h : i < l.length) : l.drop i = l[i] :: l.drop (i + 1) := List.drop_eq_getElem_cons h
theorem conv_bytes (s : ByteArray) (w : World) : (convert 9 23 (.string s)).run Tryz.prog w = .ok (.slice (some ⟨w.heap.size, 0, none⟩) s.size (grownCap w s.size 0 5)) (Lib.bytesWorld w 5 s) := Lib.run_convert_string_bytes w _ _ _ s Tryz.underlying9 Tryz.underlying23 Tryz.underlying5
set_option maxHeartbeats 4000000 in
theorem uint_a (s u : ByteArray) (l : List UInt8) (hs : s.toList = [] ++ l) (hu : u.toList = l) (h0 : 0 < s.size) (hz : s.size ≤ 1000) (hd : ∀ c ∈ l, okD 8 c) (V : Nat) (hV : valB 8 0 l = V) (hVb : V < 18014398509481984) (w : World) :
    Calls Tryz.prog 44 #[.string s, .int .i64 8, .int .i64 64] w fun e w' => e = .returned (.tuple #[.int .u64 (V : Int), .nilIface]) ∧ Below w.heap.size w w' := by
  have he : u = s := ext_eq (by rw [hs, hu]; rfl)
  subst he
  have hne : u.toList.isEmpty = false := by
    cases e : u.toList with
    | nil => rw [len_eq, e] at h0; simp at h0
    | cons a b => rfl
  obtain ⟨n, hn⟩ : ∃ n, n = u.size := ⟨_, rfl⟩
  have hlu : u.data.toList = l := by rw [← hu, Lib.toList_data]
  have hln : l.length = n := by rw [← hu, hn, len_eq]
  have hn1 : n ≤ 1000 := by have := len_eq u; rw [hs, List.length_append] at this; omega
  have hcv := fun W => conv_bytes u W
  rw [← hn] at hcv
  have hw_ : True := trivial
  have hcell : ∀ W (j : Nat) (h : j < l.length), (Lib.bytesWorld W 5 u).cell? ⟨W.heap.size, j, none⟩ = some (.int .u8 ((l[j]).toNat : Int)) := fun W j h => by
    rw [Lib.bytesWorld_cell W _ u j (by omega), hlu, List.getD_eq_getElem?_getD, List.getElem?_eq_getElem h]; rfl
  have HC := Lib.hid hcell
  have HD := Lib.hid hd
  have HV := Lib.hid hV
  have HVB := Lib.hid hVb
  have HLN := Lib.hid hln
  clear hcell hd hV hln hlu hn hu hs hw_
  go_enter Tryz.func44, Tryz.ntmps44
  go_wp2_with fail
  rw [show IntKind.u64.wrap (IntKind.u64.wrap 18446744073709551616 - 1) = 18446744073709551615 by decide]
  go_loopg [12, 13, 15, 16, 17, 101] n (fun kq v12 v13 v15 v16 v17 v101 wr => ∃ (i A : Nat) (x15 x16 x17 : Value), v12 = .bool false ∧ v13 = .int .u64 (A : Int) ∧ v15 = x15 ∧ v16 = x16 ∧ v17 = x17 ∧ v101 = .int .i64 (i : Int) ∧ i + kq = n ∧ Hid (valB 8 A (l.drop i) = V) ∧ wr = Lib.bytesWorld w 5 u)
  case atStart => exact ⟨0, 0, _, _, _, rfl, rfl, rfl, rfl, rfl, rfl, by omega, HV, rfl⟩
  case round =>
    obtain ⟨i, A, x15, x16, x17, rfl, rfl, rfl, rfl, rfl, rfl, hik, HI, rfl⟩ := hrel
    cases gk with
    | zero =>
      have hin : i = n := by omega
      have hni : ¬ (i : Int) < (n : Int) := by omega
      have hA : A = V := by
        have := HI.out
        rw [List.drop_eq_nil_of_le (by rw [HLN.out]; omega)] at this
        exact this
      clear hik hin
      subst hA
      go_wp2_with fail
      go_ret2
      exact ⟨rfl, Lib.bytesWorld_below _ _ _⟩
    | succ m =>
      have hil : i < l.length := by rw [HLN.out]; omega
      have hi' : (i : Int) < (n : Int) := by omega
      have HIK := Lib.hid hik
      have c0 := HC.out w i hil
      obtain ⟨c, hc⟩ : ∃ c, c = l[i] := ⟨_, rfl⟩
      rw [← hc] at c0
      obtain ⟨hdig, hdb⟩ := HD.out c (by rw [hc]; exact List.getElem_mem hil)
      have hst : valB 8 (A * 8 + dv c) (l.drop (i + 1)) = V := by
        have := HI.out
        rw [drop_cons hil, ← hc] at this
        exact this
      have hle : A * 8 + dv c ≤ V := by rw [← hst]; exact valB_ge 8 (by decide) _ _
      have hVb := HVB.out
      have HST := Lib.hid hst
      obtain ⟨k, hk⟩ : ∃ k, k = c.toNat := ⟨_, rfl⟩
      rw [← hk] at c0 hdig
      obtain ⟨d, hd⟩ : ∃ d, d = dv c := ⟨_, rfl⟩
      rw [← hd] at hle hdb HST
      have hdk : (k ≤ 57 → d = k - 48) ∧ (¬ k ≤ 57 → d = k - 87) := by rw [hd, hk]; unfold dv; constructor <;> intro h <;> simp [h]
      have HLOW := Lib.hid (fun W => lower_walk k (by omega) W)
      have HDK := Lib.hid hdk
      have HLE := Lib.hid hle
      have HDB := Lib.hid hdb
      have HDIG := Lib.hid hdig
      clear hik hc hst hk hd hdk hle hdb hdig hVb hil
      by_cases h57 : k ≤ 57
      · have h48 : 48 ≤ k := by have := HDIG.out; omega
        have hd8 : d ≤ 9 ∧ k = d + 48 := by have := HDK.out.1 h57; omega
        have hlt : d < 8 ∧ A * 8 + d ≤ V ∧ V < 18014398509481984 := ⟨HDB.out, HLE.out, HVB.out⟩
        obtain ⟨hd9, rfl⟩ := hd8
        have x1 : (d + 48 == 95) = false := by simp <;> omega
        have x2 : (((d + 48 : Nat) : Int) == 95) = false := by simp <;> omega
        have x2' : (((d : Int) + 48) == 95) = false := by simp <;> omega
        have x4 : (48 : Int) ≤ (d : Int) + 48 := by omega
        have x5 : (d : Int) + 48 ≤ 57 := by omega
        have x6 : ((8 : Int) ≤ (d : Int)) = False := eq_false (by omega)
        have x6' : (8 ≤ d) = False := eq_false (by omega)
        have x7 : ((2305843009213693952 : Int) ≤ (A : Int)) = False := eq_false (by omega)
        have x7' : (2305843009213693952 ≤ A) = False := eq_false (by omega)
        have m1 : IntKind.u64.wrap ((A : Int) * 8) = (A : Int) * 8 := u64w _ (by omega) (by omega)
        have m2 : IntKind.u64.wrap ((A : Int) * 8 + (d : Int)) = (A : Int) * 8 + (d : Int) := u64w _ (by omega) (by omega)
        have x8 : ((A : Int) * 8 + (d : Int) < (A : Int) * 8) = False := eq_false (by omega)
        have x9 : (18446744073709551615 < (A : Int) * 8 + (d : Int)) = False := eq_false (by omega)
        clear h57 h48 hd9 hlt
        go_upto_region 54 with fail
        go_wp2_with fail
        go_roundg m
        case measure => exact Nat.lt_succ_self m
        case rel => exact ⟨i + 1, A * 8 + d, _, _, _, rfl, by simp, rfl, rfl, rfl, by simp, by have := HIK.out; omega, HST, rfl⟩
      · exact absurd HDIG.out (by have := HDK.out.2 h57; have := HDB.out; omega)
set_option maxHeartbeats 4000000 in
theorem uint_c (s u : ByteArray) (l : List UInt8) (hs : s.toList = [48, 120] ++ l) (hu : u.toList = l) (h0 : 0 < l.length) (hz : s.size ≤ 1000) (hd : ∀ c ∈ l, okD 16 c) (V : Nat) (hV : valB 16 0 l = V) (hVb : V < 18014398509481984) (w : World) :
    Calls Tryz.prog 44 #[.string s, .int .i64 0, .int .i64 0] w fun e w' => e = .returned (.tuple #[.int .u64 (V : Int), .nilIface]) ∧ Below w.heap.size w w' := by
  have hsl : s.size = l.length + 2 := by rw [len_eq, hs]; simp
  have hs3 : 3 ≤ s.size := by omega
  have hne : s.toList.isEmpty = false := by rw [hs]; rfl
  have hdl : s.data.toList = [48, 120] ++ l := by rw [← Lib.toList_data, hs]
  have b0 : ∀ h, (s[0]'h).toNat = 48 := fun h => by show (s.data[0]'h).toNat = 48; rw [← Array.getElem_toList]; simp [hdl]
  have b1 : ∀ h, (s[1]'h).toNat = 120 := fun h => by show (s.data[1]'h).toNat = 120; rw [← Array.getElem_toList]; simp [hdl]
  have hex : s.extract 2 s.size = u := ext_eq (by rw [hu, tl_extract, hs]; simp [hsl])
  clear hdl hsl
  have HLW : Hid (∀ W, Calls Tryz.prog 60 #[.int .u8 120] W fun e w' => e = .returned (.int .u8 120) ∧ w' = W) := Lib.hid fun W => by simpa using lower_walk 120 (by decide) W
  obtain ⟨n, hn⟩ : ∃ n, n = u.size := ⟨_, rfl⟩
  have hlu : u.data.toList = l := by rw [← hu, Lib.toList_data]
  have hln : l.length = n := by rw [← hu, hn, len_eq]
  have hn1 : n ≤ 1000 := by have := len_eq s; rw [hs, List.length_append] at this; omega
  have hcv := fun W => conv_bytes u W
  rw [← hn] at hcv
  have hw_ : True := trivial
  have hcell : ∀ W (j : Nat) (h : j < l.length), (Lib.bytesWorld W 5 u).cell? ⟨W.heap.size, j, none⟩ = some (.int .u8 ((l[j]).toNat : Int)) := fun W j h => by
    rw [Lib.bytesWorld_cell W _ u j (by omega), hlu, List.getD_eq_getElem?_getD, List.getElem?_eq_getElem h]; rfl
  have HC := Lib.hid hcell
  have HD := Lib.hid hd
  have HV := Lib.hid hV
  have HVB := Lib.hid hVb
  have HLN := Lib.hid hln
  clear hcell hd hV hln hlu hn hu hs hw_
  go_enter Tryz.func44, Tryz.ntmps44
  go_wp2_with fail
  refine (HLW.out _).mono ?_
  rintro e w' ⟨rfl, hw'⟩
  subst w'
  go_wp2_with fail
  refine (HLW.out _).mono ?_
  rintro e w' ⟨rfl, hw'⟩
  subst w'
  go_wp2_with fail
  refine (HLW.out _).mono ?_
  rintro e w' ⟨rfl, hw'⟩
  subst w'
  go_wp2_with fail
  rw [show IntKind.u64.wrap (IntKind.u64.wrap 18446744073709551616 - 1) = 18446744073709551615 by decide]
  go_loopg [12, 13, 15, 16, 17, 101] n (fun kq v12 v13 v15 v16 v17 v101 wr => ∃ (i A : Nat) (x15 x16 x17 : Value), v12 = .bool false ∧ v13 = .int .u64 (A : Int) ∧ v15 = x15 ∧ v16 = x16 ∧ v17 = x17 ∧ v101 = .int .i64 (i : Int) ∧ i + kq = n ∧ Hid (valB 16 A (l.drop i) = V) ∧ wr = Lib.bytesWorld w 5 u)
  case atStart => exact ⟨0, 0, _, _, _, rfl, rfl, rfl, rfl, rfl, rfl, by omega, HV, rfl⟩
  case round =>
    obtain ⟨i, A, x15, x16, x17, rfl, rfl, rfl, rfl, rfl, rfl, hik, HI, rfl⟩ := hrel
    cases gk with
    | zero =>
      have hin : i = n := by omega
      have hni : ¬ (i : Int) < (n : Int) := by omega
      have hA : A = V := by
        have := HI.out
        rw [List.drop_eq_nil_of_le (by rw [HLN.out]; omega)] at this
        exact this
      clear hik hin
      subst hA
      go_wp2_with fail
      go_ret2
      exact ⟨rfl, Lib.bytesWorld_below _ _ _⟩
    | succ m =>
      have hil : i < l.length := by rw [HLN.out]; omega
      have hi' : (i : Int) < (n : Int) := by omega
      have HIK := Lib.hid hik
      have c0 := HC.out w i hil
      obtain ⟨c, hc⟩ : ∃ c, c = l[i] := ⟨_, rfl⟩
      rw [← hc] at c0
      obtain ⟨hdig, hdb⟩ := HD.out c (by rw [hc]; exact List.getElem_mem hil)
      have hst : valB 16 (A * 16 + dv c) (l.drop (i + 1)) = V := by
        have := HI.out
        rw [drop_cons hil, ← hc] at this
        exact this
      have hle : A * 16 + dv c ≤ V := by rw [← hst]; exact valB_ge 16 (by decide) _ _
      have hVb := HVB.out
      have HST := Lib.hid hst
      obtain ⟨k, hk⟩ : ∃ k, k = c.toNat := ⟨_, rfl⟩
      rw [← hk] at c0 hdig
      obtain ⟨d, hd⟩ : ∃ d, d = dv c := ⟨_, rfl⟩
      rw [← hd] at hle hdb HST
      have hdk : (k ≤ 57 → d = k - 48) ∧ (¬ k ≤ 57 → d = k - 87) := by rw [hd, hk]; unfold dv; constructor <;> intro h <;> simp [h]
      have HLOW := Lib.hid (fun W => lower_walk k (by omega) W)
      have HDK := Lib.hid hdk
      have HLE := Lib.hid hle
      have HDB := Lib.hid hdb
      have HDIG := Lib.hid hdig
      clear hik hc hst hk hd hdk hle hdb hdig hVb hil
      by_cases h57 : k ≤ 57
      · have h48 : 48 ≤ k := by have := HDIG.out; omega
        have hd8 : d ≤ 9 ∧ k = d + 48 := by have := HDK.out.1 h57; omega
        have hlt : d < 16 ∧ A * 16 + d ≤ V ∧ V < 18014398509481984 := ⟨HDB.out, HLE.out, HVB.out⟩
        obtain ⟨hd9, rfl⟩ := hd8
        have x1 : (d + 48 == 95) = false := by simp <;> omega
        have x2 : (((d + 48 : Nat) : Int) == 95) = false := by simp <;> omega
        have x2' : (((d : Int) + 48) == 95) = false := by simp <;> omega
        have x4 : (48 : Int) ≤ (d : Int) + 48 := by omega
        have x5 : (d : Int) + 48 ≤ 57 := by omega
        have x6 : ((16 : Int) ≤ (d : Int)) = False := eq_false (by omega)
        have x6' : (16 ≤ d) = False := eq_false (by omega)
        have x7 : ((1152921504606846976 : Int) ≤ (A : Int)) = False := eq_false (by omega)
        have x7' : (1152921504606846976 ≤ A) = False := eq_false (by omega)
        have m1 : IntKind.u64.wrap ((A : Int) * 16) = (A : Int) * 16 := u64w _ (by omega) (by omega)
        have m2 : IntKind.u64.wrap ((A : Int) * 16 + (d : Int)) = (A : Int) * 16 + (d : Int) := u64w _ (by omega) (by omega)
        have x8 : ((A : Int) * 16 + (d : Int) < (A : Int) * 16) = False := eq_false (by omega)
        have x9 : (18446744073709551615 < (A : Int) * 16 + (d : Int)) = False := eq_false (by omega)
        clear h57 h48 hd9 hlt
        go_upto_region 54 with fail
        go_wp2_with fail
        go_roundg m
        case measure => exact Nat.lt_succ_self m
        case rel => exact ⟨i + 1, A * 16 + d, _, _, _, rfl, by simp, rfl, rfl, rfl, by simp, by have := HIK.out; omega, HST, rfl⟩
      · have hd8 : 97 ≤ k ∧ k ≤ 102 ∧ d + 87 = k := by have := HDK.out.2 h57; have := HDIG.out; omega
        have hlt : d < 16 ∧ A * 16 + d ≤ V ∧ V < 18014398509481984 := ⟨HDB.out, HLE.out, HVB.out⟩
        obtain ⟨e, he⟩ : ∃ e, e = d - 10 := ⟨_, rfl⟩
        obtain ⟨hk1, hk2, hk3⟩ := hd8
        obtain rfl : d = e + 10 := by omega
        obtain rfl : k = e + 97 := by omega
        have x1 : (e + 97 == 95) = false := by simp <;> omega
        have x2 : (((e + 97 : Nat) : Int) == 95) = false := by simp <;> omega
        have x2' : (((e : Int) + 97) == 95) = false := by simp <;> omega
        have x4 : (48 : Int) ≤ (e : Int) + 97 := by omega
        have x5 : ((e : Int) + 97 ≤ 57) = False := eq_false (by omega)
        have y4 : (97 : Int) ≤ (e : Int) + 97 := by omega
        have y5 : (e : Int) + 97 ≤ 122 := by omega
        have x6 : ((16 : Int) ≤ (e : Int) + 10) = False := eq_false (by omega)
        have x6' : (16 ≤ e + 10) = False := eq_false (by omega)
        have x7 : ((1152921504606846976 : Int) ≤ (A : Int)) = False := eq_false (by omega)
        have x7' : (1152921504606846976 ≤ A) = False := eq_false (by omega)
        have m1 : IntKind.u64.wrap ((A : Int) * 16) = (A : Int) * 16 := u64w _ (by omega) (by omega)
        have m2 : IntKind.u64.wrap ((A : Int) * 16 + ((e : Int) + 10)) = (A : Int) * 16 + ((e : Int) + 10) := u64w _ (by omega) (by omega)
        have x8 : ((A : Int) * 16 + ((e : Int) + 10) < (A : Int) * 16) = False := eq_false (by omega)
        have x9 : (18446744073709551615 < (A : Int) * 16 + ((e : Int) + 10)) = False := eq_false (by omega)
        clear h57 hk1 hk2 hk3 he hlt
        have HL2 : Hid (∀ W, Calls Tryz.prog 60 #[.int .u8 ((e : Int) + 97)] W fun e' w' => e' = .returned (.int .u8 ((e : Int) + 97)) ∧ w' = W) := Lib.hid fun W => by
          have := HLOW.out W
          simpa using this
        clear HLOW
        go_wp2_with fail
        refine (HL2.out _).mono ?_
        rintro e' w' ⟨rfl, hw'⟩
        subst w'
        go_wp2_with fail
        refine (HL2.out _).mono ?_
        rintro e' w' ⟨rfl, hw'⟩
        subst w'
        go_wp2_with fail
        refine (HL2.out _).mono ?_
        rintro e' w' ⟨rfl, hw'⟩
        subst w'
        go_upto_region 54 with fail
        go_wp2_with fail
        go_roundg m
        case measure => exact Nat.lt_succ_self m
        case rel => exact ⟨i + 1, A * 16 + (e + 10), _, _, _, rfl, by simp, rfl, rfl, rfl, by simp, by have := HIK.out; omega, HST, rfl⟩
set_option maxHeartbeats 4000000 in
theorem uint_d (s u : ByteArray) (l : List UInt8) (hs : s.toList = [48, 111] ++ l) (hu : u.toList = l) (h0 : 0 < l.length) (hz : s.size ≤ 1000) (hd : ∀ c ∈ l, okD 8 c) (V : Nat) (hV : valB 8 0 l = V) (hVb : V < 18014398509481984) (w : World) :
    Calls Tryz.prog 44 #[.string s, .int .i64 0, .int .i64 0] w fun e w' => e = .returned (.tuple #[.int .u64 (V : Int), .nilIface]) ∧ Below w.heap.size w w' := by
  have hsl : s.size = l.length + 2 := by rw [len_eq, hs]; simp
  have hs3 : 3 ≤ s.size := by omega
  have hne : s.toList.isEmpty = false := by rw [hs]; rfl
  have hdl : s.data.toList = [48, 111] ++ l := by rw [← Lib.toList_data, hs]
  have b0 : ∀ h, (s[0]'h).toNat = 48 := fun h => by show (s.data[0]'h).toNat = 48; rw [← Array.getElem_toList]; simp [hdl]
  have b1 : ∀ h, (s[1]'h).toNat = 111 := fun h => by show (s.data[1]'h).toNat = 111; rw [← Array.getElem_toList]; simp [hdl]
  have hex : s.extract 2 s.size = u := ext_eq (by rw [hu, tl_extract, hs]; simp [hsl])
  clear hdl hsl
  have HLW : Hid (∀ W, Calls Tryz.prog 60 #[.int .u8 111] W fun e w' => e = .returned (.int .u8 111) ∧ w' = W) := Lib.hid fun W => by simpa using lower_walk 111 (by decide) W
  obtain ⟨n, hn⟩ : ∃ n, n = u.size := ⟨_, rfl⟩
  have hlu : u.data.toList = l := by rw [← hu, Lib.toList_data]
  have hln : l.length = n := by rw [← hu, hn, len_eq]
  have hn1 : n ≤ 1000 := by have := len_eq s; rw [hs, List.length_append] at this; omega
  have hcv := fun W => conv_bytes u W
  rw [← hn] at hcv
  have hw_ : True := trivial
  have hcell : ∀ W (j : Nat) (h : j < l.length), (Lib.bytesWorld W 5 u).cell? ⟨W.heap.size, j, none⟩ = some (.int .u8 ((l[j]).toNat : Int)) := fun W j h => by
    rw [Lib.bytesWorld_cell W _ u j (by omega), hlu, List.getD_eq_getElem?_getD, List.getElem?_eq_getElem h]; rfl
  have HC := Lib.hid hcell
  have HD := Lib.hid hd
  have HV := Lib.hid hV
  have HVB := Lib.hid hVb
  have HLN := Lib.hid hln
  clear hcell hd hV hln hlu hn hu hs hw_
  go_enter Tryz.func44, Tryz.ntmps44
  go_wp2_with fail
  refine (HLW.out _).mono ?_
  rintro e w' ⟨rfl, hw'⟩
  subst w'
  go_wp2_with fail
  refine (HLW.out _).mono ?_
  rintro e w' ⟨rfl, hw'⟩
  subst w'
  go_wp2_with fail
  rw [show IntKind.u64.wrap (IntKind.u64.wrap 18446744073709551616 - 1) = 18446744073709551615 by decide]
  go_loopg [12, 13, 15, 16, 17, 101] n (fun kq v12 v13 v15 v16 v17 v101 wr => ∃ (i A : Nat) (x15 x16 x17 : Value), v12 = .bool false ∧ v13 = .int .u64 (A : Int) ∧ v15 = x15 ∧ v16 = x16 ∧ v17 = x17 ∧ v101 = .int .i64 (i : Int) ∧ i + kq = n ∧ Hid (valB 8 A (l.drop i) = V) ∧ wr = Lib.bytesWorld w 5 u)
  case atStart => exact ⟨0, 0, _, _, _, rfl, rfl, rfl, rfl, rfl, rfl, by omega, HV, rfl⟩
  case round =>
    obtain ⟨i, A, x15, x16, x17, rfl, rfl, rfl, rfl, rfl, rfl, hik, HI, rfl⟩ := hrel
    cases gk with
    | zero =>
      have hin : i = n := by omega
      have hni : ¬ (i : Int) < (n : Int) := by omega
      have hA : A = V := by
        have := HI.out
        rw [List.drop_eq_nil_of_le (by rw [HLN.out]; omega)] at this
        exact this
      clear hik hin
      subst hA
      go_wp2_with fail
      go_ret2
      exact ⟨rfl, Lib.bytesWorld_below _ _ _⟩
    | succ m =>
      have hil : i < l.length := by rw [HLN.out]; omega
      have hi' : (i : Int) < (n : Int) := by omega
      have HIK := Lib.hid hik
      have c0 := HC.out w i hil
      obtain ⟨c, hc⟩ : ∃ c, c = l[i] := ⟨_, rfl⟩
      rw [← hc] at c0
      obtain ⟨hdig, hdb⟩ := HD.out c (by rw [hc]; exact List.getElem_mem hil)
      have hst : valB 8 (A * 8 + dv c) (l.drop (i + 1)) = V := by
        have := HI.out
        rw [drop_cons hil, ← hc] at this
        exact this
      have hle : A * 8 + dv c ≤ V := by rw [← hst]; exact valB_ge 8 (by decide) _ _
      have hVb := HVB.out
      have HST := Lib.hid hst
      obtain ⟨k, hk⟩ : ∃ k, k = c.toNat := ⟨_, rfl⟩
      rw [← hk] at c0 hdig
      obtain ⟨d, hd⟩ : ∃ d, d = dv c := ⟨_, rfl⟩
      rw [← hd] at hle hdb HST
      have hdk : (k ≤ 57 → d = k - 48) ∧ (¬ k ≤ 57 → d = k - 87) := by rw [hd, hk]; unfold dv; constructor <;> intro h <;> simp [h]
      have HLOW := Lib.hid (fun W => lower_walk k (by omega) W)
      have HDK := Lib.hid hdk
      have HLE := Lib.hid hle
      have HDB := Lib.hid hdb
      have HDIG := Lib.hid hdig
      clear hik hc hst hk hd hdk hle hdb hdig hVb hil
      by_cases h57 : k ≤ 57
      · have h48 : 48 ≤ k := by have := HDIG.out; omega
        have hd8 : d ≤ 9 ∧ k = d + 48 := by have := HDK.out.1 h57; omega
        have hlt : d < 8 ∧ A * 8 + d ≤ V ∧ V < 18014398509481984 := ⟨HDB.out, HLE.out, HVB.out⟩
        obtain ⟨hd9, rfl⟩ := hd8
        have x1 : (d + 48 == 95) = false := by simp <;> omega
        have x2 : (((d + 48 : Nat) : Int) == 95) = false := by simp <;> omega
        have x2' : (((d : Int) + 48) == 95) = false := by simp <;> omega
        have x4 : (48 : Int) ≤ (d : Int) + 48 := by omega
        have x5 : (d : Int) + 48 ≤ 57 := by omega
        have x6 : ((8 : Int) ≤ (d : Int)) = False := eq_false (by omega)
        have x6' : (8 ≤ d) = False := eq_false (by omega)
        have x7 : ((2305843009213693952 : Int) ≤ (A : Int)) = False := eq_false (by omega)
        have x7' : (2305843009213693952 ≤ A) = False := eq_false (by omega)
        have m1 : IntKind.u64.wrap ((A : Int) * 8) = (A : Int) * 8 := u64w _ (by omega) (by omega)
        have m2 : IntKind.u64.wrap ((A : Int) * 8 + (d : Int)) = (A : Int) * 8 + (d : Int) := u64w _ (by omega) (by omega)
        have x8 : ((A : Int) * 8 + (d : Int) < (A : Int) * 8) = False := eq_false (by omega)
        have x9 : (18446744073709551615 < (A : Int) * 8 + (d : Int)) = False := eq_false (by omega)
        clear h57 h48 hd9 hlt
        go_upto_region 54 with fail
        go_wp2_with fail
        go_roundg m
        case measure => exact Nat.lt_succ_self m
        case rel => exact ⟨i + 1, A * 8 + d, _, _, _, rfl, by simp, rfl, rfl, rfl, by simp, by have := HIK.out; omega, HST, rfl⟩
      · exact absurd HDIG.out (by have := HDK.out.2 h57; have := HDB.out; omega)
set_option maxHeartbeats 4000000 in
theorem uint_e (s u : ByteArray) (l : List UInt8) (hs : s.toList = [48, 98] ++ l) (hu : u.toList = l) (h0 : 0 < l.length) (hz : s.size ≤ 1000) (hd : ∀ c ∈ l, okD 2 c) (V : Nat) (hV : valB 2 0 l = V) (hVb : V < 18014398509481984) (w : World) :
    Calls Tryz.prog 44 #[.string s, .int .i64 0, .int .i64 0] w fun e w' => e = .returned (.tuple #[.int .u64 (V : Int), .nilIface]) ∧ Below w.heap.size w w' := by
  have hsl : s.size = l.length + 2 := by rw [len_eq, hs]; simp
  have hs3 : 3 ≤ s.size := by omega
  have hne : s.toList.isEmpty = false := by rw [hs]; rfl
  have hdl : s.data.toList = [48, 98] ++ l := by rw [← Lib.toList_data, hs]
  have b0 : ∀ h, (s[0]'h).toNat = 48 := fun h => by show (s.data[0]'h).toNat = 48; rw [← Array.getElem_toList]; simp [hdl]
  have b1 : ∀ h, (s[1]'h).toNat = 98 := fun h => by show (s.data[1]'h).toNat = 98; rw [← Array.getElem_toList]; simp [hdl]
  have hex : s.extract 2 s.size = u := ext_eq (by rw [hu, tl_extract, hs]; simp [hsl])
  clear hdl hsl
  have HLW : Hid (∀ W, Calls Tryz.prog 60 #[.int .u8 98] W fun e w' => e = .returned (.int .u8 98) ∧ w' = W) := Lib.hid fun W => by simpa using lower_walk 98 (by decide) W
  obtain ⟨n, hn⟩ : ∃ n, n = u.size := ⟨_, rfl⟩
  have hlu : u.data.toList = l := by rw [← hu, Lib.toList_data]
  have hln : l.length = n := by rw [← hu, hn, len_eq]
  have hn1 : n ≤ 1000 := by have := len_eq s; rw [hs, List.length_append] at this; omega
  have hcv := fun W => conv_bytes u W
  rw [← hn] at hcv
  have hw_ : True := trivial
  have hcell : ∀ W (j : Nat) (h : j < l.length), (Lib.bytesWorld W 5 u).cell? ⟨W.heap.size, j, none⟩ = some (.int .u8 ((l[j]).toNat : Int)) := fun W j h => by
    rw [Lib.bytesWorld_cell W _ u j (by omega), hlu, List.getD_eq_getElem?_getD, List.getElem?_eq_getElem h]; rfl
  have HC := Lib.hid hcell
  have HD := Lib.hid hd
  have HV := Lib.hid hV
  have HVB := Lib.hid hVb
  have HLN := Lib.hid hln
  clear hcell hd hV hln hlu hn hu hs hw_
  go_enter Tryz.func44, Tryz.ntmps44
  go_wp2_with fail
  refine (HLW.out _).mono ?_
  rintro e w' ⟨rfl, hw'⟩
  subst w'
  go_wp2_with fail
  rw [show IntKind.u64.wrap (IntKind.u64.wrap 18446744073709551616 - 1) = 18446744073709551615 by decide]
  go_loopg [12, 13, 15, 16, 17, 101] n (fun kq v12 v13 v15 v16 v17 v101 wr => ∃ (i A : Nat) (x15 x16 x17 : Value), v12 = .bool false ∧ v13 = .int .u64 (A : Int) ∧ v15 = x15 ∧ v16 = x16 ∧ v17 = x17 ∧ v101 = .int .i64 (i : Int) ∧ i + kq = n ∧ Hid (valB 2 A (l.drop i) = V) ∧ wr = Lib.bytesWorld w 5 u)
  case atStart => exact ⟨0, 0, _, _, _, rfl, rfl, rfl, rfl, rfl, rfl, by omega, HV, rfl⟩
  case round =>
    obtain ⟨i, A, x15, x16, x17, rfl, rfl, rfl, rfl, rfl, rfl, hik, HI, rfl⟩ := hrel
    cases gk with
    | zero =>
      have hin : i = n := by omega
      have hni : ¬ (i : Int) < (n : Int) := by omega
      have hA : A = V := by
        have := HI.out
        rw [List.drop_eq_nil_of_le (by rw [HLN.out]; omega)] at this
        exact this
      clear hik hin
      subst hA
      go_wp2_with fail
      go_ret2
      exact ⟨rfl, Lib.bytesWorld_below _ _ _⟩
    | succ m =>
      have hil : i < l.length := by rw [HLN.out]; omega
      have hi' : (i : Int) < (n : Int) := by omega
      have HIK := Lib.hid hik
      have c0 := HC.out w i hil
      obtain ⟨c, hc⟩ : ∃ c, c = l[i] := ⟨_, rfl⟩
      rw [← hc] at c0
      obtain ⟨hdig, hdb⟩ := HD.out c (by rw [hc]; exact List.getElem_mem hil)
      have hst : valB 2 (A * 2 + dv c) (l.drop (i + 1)) = V := by
        have := HI.out
        rw [drop_cons hil, ← hc] at this
        exact this
      have hle : A * 2 + dv c ≤ V := by rw [← hst]; exact valB_ge 2 (by decide) _ _
      have hVb := HVB.out
      have HST := Lib.hid hst
      obtain ⟨k, hk⟩ : ∃ k, k = c.toNat := ⟨_, rfl⟩
      rw [← hk] at c0 hdig
      obtain ⟨d, hd⟩ : ∃ d, d = dv c := ⟨_, rfl⟩
      rw [← hd] at hle hdb HST
      have hdk : (k ≤ 57 → d = k - 48) ∧ (¬ k ≤ 57 → d = k - 87) := by rw [hd, hk]; unfold dv; constructor <;> intro h <;> simp [h]
      have HLOW := Lib.hid (fun W => lower_walk k (by omega) W)
      have HDK := Lib.hid hdk
      have HLE := Lib.hid hle
      have HDB := Lib.hid hdb
      have HDIG := Lib.hid hdig
      clear hik hc hst hk hd hdk hle hdb hdig hVb hil
      by_cases h57 : k ≤ 57
      · have h48 : 48 ≤ k := by have := HDIG.out; omega
        have hd8 : d ≤ 9 ∧ k = d + 48 := by have := HDK.out.1 h57; omega
        have hlt : d < 2 ∧ A * 2 + d ≤ V ∧ V < 18014398509481984 := ⟨HDB.out, HLE.out, HVB.out⟩
        obtain ⟨hd9, rfl⟩ := hd8
        have x1 : (d + 48 == 95) = false := by simp <;> omega
        have x2 : (((d + 48 : Nat) : Int) == 95) = false := by simp <;> omega
        have x2' : (((d : Int) + 48) == 95) = false := by simp <;> omega
        have x4 : (48 : Int) ≤ (d : Int) + 48 := by omega
        have x5 : (d : Int) + 48 ≤ 57 := by omega
        have x6 : ((2 : Int) ≤ (d : Int)) = False := eq_false (by omega)
        have x6' : (2 ≤ d) = False := eq_false (by omega)
        have x7 : ((9223372036854775808 : Int) ≤ (A : Int)) = False := eq_false (by omega)
        have x7' : (9223372036854775808 ≤ A) = False := eq_false (by omega)
        have m1 : IntKind.u64.wrap ((A : Int) * 2) = (A : Int) * 2 := u64w _ (by omega) (by omega)
        have m2 : IntKind.u64.wrap ((A : Int) * 2 + (d : Int)) = (A : Int) * 2 + (d : Int) := u64w _ (by omega) (by omega)
        have x8 : ((A : Int) * 2 + (d : Int) < (A : Int) * 2) = False := eq_false (by omega)
        have x9 : (18446744073709551615 < (A : Int) * 2 + (d : Int)) = False := eq_false (by omega)
        clear h57 h48 hd9 hlt
        go_upto_region 54 with fail
        go_wp2_with fail
        go_roundg m
        case measure => exact Nat.lt_succ_self m
        case rel => exact ⟨i + 1, A * 2 + d, _, _, _, rfl, by simp, rfl, rfl, rfl, by simp, by have := HIK.out; omega, HST, rfl⟩
      · exact absurd HDIG.out (by have := HDK.out.2 h57; have := HDB.out; omega)
set_option maxHeartbeats 4000000 in
theorem uint_b (s u : ByteArray) (l : List UInt8) (hs : s.toList = [] ++ l) (hu : u.toList = l) (h0 : 0 < s.size) (h48 : ∀ h : 0 < l.length, (l[0]).toNat ≠ 48) (hz : s.size ≤ 1000) (hd : ∀ c ∈ l, okD 10 c) (V : Nat) (hV : valB 10 0 l = V) (hVb : V < 18014398509481984) (w : World) :
    Calls Tryz.prog 44 #[.string s, .int .i64 0, .int .i64 0] w fun e w' => e = .returned (.tuple #[.int .u64 (V : Int), .nilIface]) ∧ Below w.heap.size w w' := by
  have he : u = s := ext_eq (by rw [hs, hu]; rfl)
  subst he
  have hdl : u.data.toList = l := by rw [← Lib.toList_data, hu]
  have b0 : ∀ h : 0 < u.size, ((u[0]'h).toNat == 48) = false := fun h => by
    rw [beq_eq_false_iff_ne]
    have h1 : 0 < l.length := by rw [← hu, ← len_eq]; exact h
    have := h48 h1
    have e : (u[0]'h) = l[0] := by show (u.data[0]'h) = _; rw [← Array.getElem_toList]; simp [hdl]
    rw [e]; exact this
  have b0' : ∀ h : 0 < u.size, (((u[0]'h).toNat : Int) == 48) = false := fun h => by
    have := b0 h
    rw [beq_eq_false_iff_ne] at this ⊢
    omega
  have hne : u.toList.isEmpty = false := by
    cases e : u.toList with
    | nil => rw [len_eq, e] at h0; simp at h0
    | cons a b => rfl
  clear hdl h48
  obtain ⟨n, hn⟩ : ∃ n, n = u.size := ⟨_, rfl⟩
  have hlu : u.data.toList = l := by rw [← hu, Lib.toList_data]
  have hln : l.length = n := by rw [← hu, hn, len_eq]
  have hn1 : n ≤ 1000 := by have := len_eq u; rw [hs, List.length_append] at this; omega
  have hcv := fun W => conv_bytes u W
  rw [← hn] at hcv
  have hw_ : True := trivial
  have hcell : ∀ W (j : Nat) (h : j < l.length), (Lib.bytesWorld W 5 u).cell? ⟨W.heap.size, j, none⟩ = some (.int .u8 ((l[j]).toNat : Int)) := fun W j h => by
    rw [Lib.bytesWorld_cell W _ u j (by omega), hlu, List.getD_eq_getElem?_getD, List.getElem?_eq_getElem h]; rfl
  have HC := Lib.hid hcell
  have HD := Lib.hid hd
  have HV := Lib.hid hV
  have HVB := Lib.hid hVb
  have HLN := Lib.hid hln
  clear hcell hd hV hln hlu hn hu hs hw_
  go_enter Tryz.func44, Tryz.ntmps44
  go_wp2_with fail
  rw [show IntKind.u64.wrap (IntKind.u64.wrap 18446744073709551616 - 1) = 18446744073709551615 by decide]
  go_loopg [12, 13, 15, 16, 17, 101] n (fun kq v12 v13 v15 v16 v17 v101 wr => ∃ (i A : Nat) (x15 x16 x17 : Value), v12 = .bool false ∧ v13 = .int .u64 (A : Int) ∧ v15 = x15 ∧ v16 = x16 ∧ v17 = x17 ∧ v101 = .int .i64 (i : Int) ∧ i + kq = n ∧ Hid (valB 10 A (l.drop i) = V) ∧ wr = Lib.bytesWorld w 5 u)
  case atStart => exact ⟨0, 0, _, _, _, rfl, rfl, rfl, rfl, rfl, rfl, by omega, HV, rfl⟩
  case round =>
    obtain ⟨i, A, x15, x16, x17, rfl, rfl, rfl, rfl, rfl, rfl, hik, HI, rfl⟩ := hrel
    cases gk with
    | zero =>
      have hin : i = n := by omega
      have hni : ¬ (i : Int) < (n : Int) := by omega
      have hA : A = V := by
        have := HI.out
        rw [List.drop_eq_nil_of_le (by rw [HLN.out]; omega)] at this
        exact this
      clear hik hin
      subst hA
      go_wp2_with fail
      go_ret2
      exact ⟨rfl, Lib.bytesWorld_below _ _ _⟩
    | succ m =>
      have hil : i < l.length := by rw [HLN.out]; omega
      have hi' : (i : Int) < (n : Int) := by omega
      have HIK := Lib.hid hik
      have c0 := HC.out w i hil
      obtain ⟨c, hc⟩ : ∃ c, c = l[i] := ⟨_, rfl⟩
      rw [← hc] at c0
      obtain ⟨hdig, hdb⟩ := HD.out c (by rw [hc]; exact List.getElem_mem hil)
      have hst : valB 10 (A * 10 + dv c) (l.drop (i + 1)) = V := by
        have := HI.out
        rw [drop_cons hil, ← hc] at this
        exact this
      have hle : A * 10 + dv c ≤ V := by rw [← hst]; exact valB_ge 10 (by decide) _ _
      have hVb := HVB.out
      have HST := Lib.hid hst
      obtain ⟨k, hk⟩ : ∃ k, k = c.toNat := ⟨_, rfl⟩
      rw [← hk] at c0 hdig
      obtain ⟨d, hd⟩ : ∃ d, d = dv c := ⟨_, rfl⟩
      rw [← hd] at hle hdb HST
      have hdk : (k ≤ 57 → d = k - 48) ∧ (¬ k ≤ 57 → d = k - 87) := by rw [hd, hk]; unfold dv; constructor <;> intro h <;> simp [h]
      have HLOW := Lib.hid (fun W => lower_walk k (by omega) W)
      have HDK := Lib.hid hdk
      have HLE := Lib.hid hle
      have HDB := Lib.hid hdb
      have HDIG := Lib.hid hdig
      clear hik hc hst hk hd hdk hle hdb hdig hVb hil
      by_cases h57 : k ≤ 57
      · have h48 : 48 ≤ k := by have := HDIG.out; omega
        have hd8 : d ≤ 9 ∧ k = d + 48 := by have := HDK.out.1 h57; omega
        have hlt : d < 10 ∧ A * 10 + d ≤ V ∧ V < 18014398509481984 := ⟨HDB.out, HLE.out, HVB.out⟩
        obtain ⟨hd9, rfl⟩ := hd8
        have x1 : (d + 48 == 95) = false := by simp <;> omega
        have x2 : (((d + 48 : Nat) : Int) == 95) = false := by simp <;> omega
        have x2' : (((d : Int) + 48) == 95) = false := by simp <;> omega
        have x4 : (48 : Int) ≤ (d : Int) + 48 := by omega
        have x5 : (d : Int) + 48 ≤ 57 := by omega
        have x6 : ((10 : Int) ≤ (d : Int)) = False := eq_false (by omega)
        have x6' : (10 ≤ d) = False := eq_false (by omega)
        have x7 : ((1844674407370955162 : Int) ≤ (A : Int)) = False := eq_false (by omega)
        have x7' : (1844674407370955162 ≤ A) = False := eq_false (by omega)
        have m1 : IntKind.u64.wrap ((A : Int) * 10) = (A : Int) * 10 := u64w _ (by omega) (by omega)
        have m2 : IntKind.u64.wrap ((A : Int) * 10 + (d : Int)) = (A : Int) * 10 + (d : Int) := u64w _ (by omega) (by omega)
        have x8 : ((A : Int) * 10 + (d : Int) < (A : Int) * 10) = False := eq_false (by omega)
        have x9 : (18446744073709551615 < (A : Int) * 10 + (d : Int)) = False := eq_false (by omega)
        clear h57 h48 hd9 hlt
        go_upto_region 54 with fail
        go_wp2_with fail
        go_roundg m
        case measure => exact Nat.lt_succ_self m
        case rel => exact ⟨i + 1, A * 10 + d, _, _, _, rfl, by simp, rfl, rfl, rfl, by simp, by have := HIK.out; omega, HST, rfl⟩
      · exact absurd HDIG.out (by have := HDK.out.2 h57; have := HDB.out; omega)
set_option maxHeartbeats 4000000 in
theorem uint_f (s u : ByteArray) (l : List UInt8) (hs : s.toList = [48] ++ l) (hu : u.toList = l) (hl2 : l.length < 2) (hz : s.size ≤ 1000) (hd : ∀ c ∈ l, okD 8 c) (V : Nat) (hV : valB 8 0 l = V) (hVb : V < 18014398509481984) (w : World) :
    Calls Tryz.prog 44 #[.string s, .int .i64 0, .int .i64 0] w fun e w' => e = .returned (.tuple #[.int .u64 (V : Int), .nilIface]) ∧ Below w.heap.size w w' := by
  have hsl : s.size = l.length + 1 := by rw [len_eq, hs]; simp
  have hs3 : 1 ≤ s.size := by omega
  have hs4 : (3 ≤ (s.size : Int)) = False := eq_false (by omega)
  have hs5 : (3 ≤ s.size) = False := eq_false (by omega)
  have hne : s.toList.isEmpty = false := by rw [hs]; rfl
  have hdl : s.data.toList = [48] ++ l := by rw [← Lib.toList_data, hs]
  have b0 : ∀ h, (s[0]'h).toNat = 48 := fun h => by show (s.data[0]'h).toNat = 48; rw [← Array.getElem_toList]; simp [hdl]
  have hex : s.extract 1 s.size = u := ext_eq (by rw [hu, tl_extract, hs]; simp [hsl])
  clear hdl hsl
  obtain ⟨n, hn⟩ : ∃ n, n = u.size := ⟨_, rfl⟩
  have hlu : u.data.toList = l := by rw [← hu, Lib.toList_data]
  have hln : l.length = n := by rw [← hu, hn, len_eq]
  have hn1 : n ≤ 1000 := by have := len_eq s; rw [hs, List.length_append] at this; omega
  have hcv := fun W => conv_bytes u W
  rw [← hn] at hcv
  have hw_ : True := trivial
  have hcell : ∀ W (j : Nat) (h : j < l.length), (Lib.bytesWorld W 5 u).cell? ⟨W.heap.size, j, none⟩ = some (.int .u8 ((l[j]).toNat : Int)) := fun W j h => by
    rw [Lib.bytesWorld_cell W _ u j (by omega), hlu, List.getD_eq_getElem?_getD, List.getElem?_eq_getElem h]; rfl
  have HC := Lib.hid hcell
  have HD := Lib.hid hd
  have HV := Lib.hid hV
  have HVB := Lib.hid hVb
  have HLN := Lib.hid hln
  clear hcell hd hV hln hlu hn hu hs hw_
  go_enter Tryz.func44, Tryz.ntmps44
  go_wp2_with fail
  rw [show IntKind.u64.wrap (IntKind.u64.wrap 18446744073709551616 - 1) = 18446744073709551615 by decide]
  go_loopg [12, 13, 15, 16, 17, 101] n (fun kq v12 v13 v15 v16 v17 v101 wr => ∃ (i A : Nat) (x15 x16 x17 : Value), v12 = .bool false ∧ v13 = .int .u64 (A : Int) ∧ v15 = x15 ∧ v16 = x16 ∧ v17 = x17 ∧ v101 = .int .i64 (i : Int) ∧ i + kq = n ∧ Hid (valB 8 A (l.drop i) = V) ∧ wr = Lib.bytesWorld w 5 u)
  case atStart => exact ⟨0, 0, _, _, _, rfl, rfl, rfl, rfl, rfl, rfl, by omega, HV, rfl⟩
  case round =>
    obtain ⟨i, A, x15, x16, x17, rfl, rfl, rfl, rfl, rfl, rfl, hik, HI, rfl⟩ := hrel
    cases gk with
    | zero =>
      have hin : i = n := by omega
      have hni : ¬ (i : Int) < (n : Int) := by omega
      have hA : A = V := by
        have := HI.out
        rw [List.drop_eq_nil_of_le (by rw [HLN.out]; omega)] at this
        exact this
      clear hik hin
      subst hA
      go_wp2_with fail
      go_ret2
      exact ⟨rfl, Lib.bytesWorld_below _ _ _⟩
    | succ m =>
      have hil : i < l.length := by rw [HLN.out]; omega
      have hi' : (i : Int) < (n : Int) := by omega
      have HIK := Lib.hid hik
      have c0 := HC.out w i hil
      obtain ⟨c, hc⟩ : ∃ c, c = l[i] := ⟨_, rfl⟩
      rw [← hc] at c0
      obtain ⟨hdig, hdb⟩ := HD.out c (by rw [hc]; exact List.getElem_mem hil)
      have hst : valB 8 (A * 8 + dv c) (l.drop (i + 1)) = V := by
        have := HI.out
        rw [drop_cons hil, ← hc] at this
        exact this
      have hle : A * 8 + dv c ≤ V := by rw [← hst]; exact valB_ge 8 (by decide) _ _
      have hVb := HVB.out
      have HST := Lib.hid hst
      obtain ⟨k, hk⟩ : ∃ k, k = c.toNat := ⟨_, rfl⟩
      rw [← hk] at c0 hdig
      obtain ⟨d, hd⟩ : ∃ d, d = dv c := ⟨_, rfl⟩
      rw [← hd] at hle hdb HST
      have hdk : (k ≤ 57 → d = k - 48) ∧ (¬ k ≤ 57 → d = k - 87) := by rw [hd, hk]; unfold dv; constructor <;> intro h <;> simp [h]
      have HLOW := Lib.hid (fun W => lower_walk k (by omega) W)
      have HDK := Lib.hid hdk
      have HLE := Lib.hid hle
      have HDB := Lib.hid hdb
      have HDIG := Lib.hid hdig
      clear hik hc hst hk hd hdk hle hdb hdig hVb hil
      by_cases h57 : k ≤ 57
      · have h48 : 48 ≤ k := by have := HDIG.out; omega
        have hd8 : d ≤ 9 ∧ k = d + 48 := by have := HDK.out.1 h57; omega
        have hlt : d < 8 ∧ A * 8 + d ≤ V ∧ V < 18014398509481984 := ⟨HDB.out, HLE.out, HVB.out⟩
        obtain ⟨hd9, rfl⟩ := hd8
        have x1 : (d + 48 == 95) = false := by simp <;> omega
        have x2 : (((d + 48 : Nat) : Int) == 95) = false := by simp <;> omega
        have x2' : (((d : Int) + 48) == 95) = false := by simp <;> omega
        have x4 : (48 : Int) ≤ (d : Int) + 48 := by omega
        have x5 : (d : Int) + 48 ≤ 57 := by omega
        have x6 : ((8 : Int) ≤ (d : Int)) = False := eq_false (by omega)
        have x6' : (8 ≤ d) = False := eq_false (by omega)
        have x7 : ((2305843009213693952 : Int) ≤ (A : Int)) = False := eq_false (by omega)
        have x7' : (2305843009213693952 ≤ A) = False := eq_false (by omega)
        have m1 : IntKind.u64.wrap ((A : Int) * 8) = (A : Int) * 8 := u64w _ (by omega) (by omega)
        have m2 : IntKind.u64.wrap ((A : Int) * 8 + (d : Int)) = (A : Int) * 8 + (d : Int) := u64w _ (by omega) (by omega)
        have x8 : ((A : Int) * 8 + (d : Int) < (A : Int) * 8) = False := eq_false (by omega)
        have x9 : (18446744073709551615 < (A : Int) * 8 + (d : Int)) = False := eq_false (by omega)
        clear h57 h48 hd9 hlt
        go_upto_region 54 with fail
        go_wp2_with fail
        go_roundg m
        case measure => exact Nat.lt_succ_self m
        case rel => exact ⟨i + 1, A * 8 + d, _, _, _, rfl, by simp, rfl, rfl, rfl, by simp, by have := HIK.out; omega, HST, rfl⟩
      · exact absurd HDIG.out (by have := HDK.out.2 h57; have := HDB.out; omega)
set_option maxHeartbeats 4000000 in
theorem uint_g (s u : ByteArray) (l : List UInt8) (hs : s.toList = [48] ++ l) (hu : u.toList = l) (hl2 : 2 ≤ l.length) (hz : s.size ≤ 1000) (hd : ∀ c ∈ l, okD 8 c) (V : Nat) (hV : valB 8 0 l = V) (hVb : V < 18014398509481984) (w : World) :
    Calls Tryz.prog 44 #[.string s, .int .i64 0, .int .i64 0] w fun e w' => e = .returned (.tuple #[.int .u64 (V : Int), .nilIface]) ∧ Below w.heap.size w w' := by
  have hsl : s.size = l.length + 1 := by rw [len_eq, hs]; simp
  have hs3 : 3 ≤ s.size := by omega
  have hne : s.toList.isEmpty = false := by rw [hs]; rfl
  have hdl : s.data.toList = [48] ++ l := by rw [← Lib.toList_data, hs]
  have b0 : ∀ h, (s[0]'h).toNat = 48 := fun h => by show (s.data[0]'h).toNat = 48; rw [← Array.getElem_toList]; simp [hdl]
  have hex : s.extract 1 s.size = u := ext_eq (by rw [hu, tl_extract, hs]; simp [hsl])
  obtain ⟨k, hk⟩ : ∃ k, k = (l[0]'(by omega)).toNat := ⟨_, rfl⟩
  have hkd := hd _ (List.getElem_mem (by omega : 0 < l.length))
  have hk2 : 48 ≤ k ∧ k ≤ 57 := by
    obtain ⟨h1, h2⟩ := hkd
    rw [← hk] at h1
    unfold dv at h2
    rw [← hk] at h2
    rcases h1 with h1 | h1
    · exact h1
    · rw [if_neg (by omega)] at h2; omega
  have b1 : ∀ h, (s[1]'h).toNat = k := fun h => by show (s.data[1]'h).toNat = k; rw [← Array.getElem_toList, hk]; simp [hdl]
  have HLW : Hid (∀ W, Calls Tryz.prog 60 #[.int .u8 (k : Int)] W fun e w' => e = .returned (.int .u8 (k : Int)) ∧ w' = W) := Lib.hid fun W => lower_walk k (.inl hk2) W
  have z1 : (k == 98) = false := by simp <;> omega
  have z2 : (k == 111) = false := by simp <;> omega
  have z3 : (k == 120) = false := by simp <;> omega
  have z4 : ((k : Int) == 98) = false := by simp <;> omega
  have z5 : ((k : Int) == 111) = false := by simp <;> omega
  have z6 : ((k : Int) == 120) = false := by simp <;> omega
  clear hdl hsl hk hkd hk2
  obtain ⟨n, hn⟩ : ∃ n, n = u.size := ⟨_, rfl⟩
  have hlu : u.data.toList = l := by rw [← hu, Lib.toList_data]
  have hln : l.length = n := by rw [← hu, hn, len_eq]
  have hn1 : n ≤ 1000 := by have := len_eq s; rw [hs, List.length_append] at this; omega
  have hcv := fun W => conv_bytes u W
  rw [← hn] at hcv
  have hw_ : True := trivial
  have hcell : ∀ W (j : Nat) (h : j < l.length), (Lib.bytesWorld W 5 u).cell? ⟨W.heap.size, j, none⟩ = some (.int .u8 ((l[j]).toNat : Int)) := fun W j h => by
    rw [Lib.bytesWorld_cell W _ u j (by omega), hlu, List.getD_eq_getElem?_getD, List.getElem?_eq_getElem h]; rfl
  have HC := Lib.hid hcell
  have HD := Lib.hid hd
  have HV := Lib.hid hV
  have HVB := Lib.hid hVb
  have HLN := Lib.hid hln
  clear hcell hd hV hln hlu hn hu hs hw_
  go_enter Tryz.func44, Tryz.ntmps44
  go_wp2_with fail
  refine (HLW.out _).mono ?_
  rintro e w' ⟨rfl, hw'⟩
  subst w'
  go_wp2_with fail
  refine (HLW.out _).mono ?_
  rintro e w' ⟨rfl, hw'⟩
  subst w'
  go_wp2_with fail
  refine (HLW.out _).mono ?_
  rintro e w' ⟨rfl, hw'⟩
  subst w'
  go_wp2_with fail
  rw [show IntKind.u64.wrap (IntKind.u64.wrap 18446744073709551616 - 1) = 18446744073709551615 by decide]
  go_loopg [12, 13, 15, 16, 17, 101] n (fun kq v12 v13 v15 v16 v17 v101 wr => ∃ (i A : Nat) (x15 x16 x17 : Value), v12 = .bool false ∧ v13 = .int .u64 (A : Int) ∧ v15 = x15 ∧ v16 = x16 ∧ v17 = x17 ∧ v101 = .int .i64 (i : Int) ∧ i + kq = n ∧ Hid (valB 8 A (l.drop i) = V) ∧ wr = Lib.bytesWorld w 5 u)
  case atStart => exact ⟨0, 0, _, _, _, rfl, rfl, rfl, rfl, rfl, rfl, by omega, HV, rfl⟩
  case round =>
    obtain ⟨i, A, x15, x16, x17, rfl, rfl, rfl, rfl, rfl, rfl, hik, HI, rfl⟩ := hrel
    cases gk with
    | zero =>
      have hin : i = n := by omega
      have hni : ¬ (i : Int) < (n : Int) := by omega
      have hA : A = V := by
        have := HI.out
        rw [List.drop_eq_nil_of_le (by rw [HLN.out]; omega)] at this
        exact this
      clear hik hin
      subst hA
      go_wp2_with fail
      go_ret2
      exact ⟨rfl, Lib.bytesWorld_below _ _ _⟩
    | succ m =>
      have hil : i < l.length := by rw [HLN.out]; omega
      have hi' : (i : Int) < (n : Int) := by omega
      have HIK := Lib.hid hik
      have c0 := HC.out w i hil
      obtain ⟨c, hc⟩ : ∃ c, c = l[i] := ⟨_, rfl⟩
      rw [← hc] at c0
      obtain ⟨hdig, hdb⟩ := HD.out c (by rw [hc]; exact List.getElem_mem hil)
      have hst : valB 8 (A * 8 + dv c) (l.drop (i + 1)) = V := by
        have := HI.out
        rw [drop_cons hil, ← hc] at this
        exact this
      have hle : A * 8 + dv c ≤ V := by rw [← hst]; exact valB_ge 8 (by decide) _ _
      have hVb := HVB.out
      have HST := Lib.hid hst
      obtain ⟨k, hk⟩ : ∃ k, k = c.toNat := ⟨_, rfl⟩
      rw [← hk] at c0 hdig
      obtain ⟨d, hd⟩ : ∃ d, d = dv c := ⟨_, rfl⟩
      rw [← hd] at hle hdb HST
      have hdk : (k ≤ 57 → d = k - 48) ∧ (¬ k ≤ 57 → d = k - 87) := by rw [hd, hk]; unfold dv; constructor <;> intro h <;> simp [h]
      have HLOW := Lib.hid (fun W => lower_walk k (by omega) W)
      have HDK := Lib.hid hdk
      have HLE := Lib.hid hle
      have HDB := Lib.hid hdb
      have HDIG := Lib.hid hdig
      clear hik hc hst hk hd hdk hle hdb hdig hVb hil
      by_cases h57 : k ≤ 57
      · have h48 : 48 ≤ k := by have := HDIG.out; omega
        have hd8 : d ≤ 9 ∧ k = d + 48 := by have := HDK.out.1 h57; omega
        have hlt : d < 8 ∧ A * 8 + d ≤ V ∧ V < 18014398509481984 := ⟨HDB.out, HLE.out, HVB.out⟩
        obtain ⟨hd9, rfl⟩ := hd8
        have x1 : (d + 48 == 95) = false := by simp <;> omega
        have x2 : (((d + 48 : Nat) : Int) == 95) = false := by simp <;> omega
        have x2' : (((d : Int) + 48) == 95) = false := by simp <;> omega
        have x4 : (48 : Int) ≤ (d : Int) + 48 := by omega
        have x5 : (d : Int) + 48 ≤ 57 := by omega
        have x6 : ((8 : Int) ≤ (d : Int)) = False := eq_false (by omega)
        have x6' : (8 ≤ d) = False := eq_false (by omega)
        have x7 : ((2305843009213693952 : Int) ≤ (A : Int)) = False := eq_false (by omega)
        have x7' : (2305843009213693952 ≤ A) = False := eq_false (by omega)
        have m1 : IntKind.u64.wrap ((A : Int) * 8) = (A : Int) * 8 := u64w _ (by omega) (by omega)
        have m2 : IntKind.u64.wrap ((A : Int) * 8 + (d : Int)) = (A : Int) * 8 + (d : Int) := u64w _ (by omega) (by omega)
        have x8 : ((A : Int) * 8 + (d : Int) < (A : Int) * 8) = False := eq_false (by omega)
        have x9 : (18446744073709551615 < (A : Int) * 8 + (d : Int)) = False := eq_false (by omega)
        clear h57 h48 hd9 hlt
        go_upto_region 54 with fail
        go_wp2_with fail
        go_roundg m
        case measure => exact Nat.lt_succ_self m
        case rel => exact ⟨i + 1, A * 8 + d, _, _, _, rfl, by simp, rfl, rfl, rfl, by simp, by have := HIK.out; omega, HST, rfl⟩
      · exact absurd HDIG.out (by have := HDK.out.2 h57; have := HDB.out; omega)
end Go.Proofs.YtakogidcjjmihaaGreatDoor.Pu
