-- PRINTED BY print.sh 35421559b90ae4d0a3588c463048766b98c2df88dd9212a6774a882060cdf62d: not written by this session
import Derived.Test.YtoebognfkigooaaGreatDoorWTab
/-! ### 57. A region of open order by ONE relation over what is listed so far: each operation is shown once, whatever came up before it -/
namespace Go.Proofs.YtoebognfkigooaaGreatDoorW.PrintLast
/-- Number i is listed too. -/
def up (b : Nat → Bool) (i : Nat) : Nat → Bool := fun j => if j = i then true else b j
/-- The destinations of what is listed are filled. -/
def putSel (a : Act) (b : Nat → Bool) : List (Nat × Tmp × Value) → Act
  | [] => a
  | e :: r => putSel (if b e.1 = true then a.put (some e.2.1) e.2.2 else a) b r
section
variable {P : Program} {ops : Array Oper} {Q : Exit → Act → World → Prop} {md : Region.Mode} {T : Bool × List (List Nat × List Nat)} {B : List Nat} {O : List Nat} {b : Nat → Bool} {i j n : Nat}
/-! The frame: what is listed has its destination filled. -/
end
end Go.Proofs.YtoebognfkigooaaGreatDoorW.PrintLast
