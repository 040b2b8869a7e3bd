/- Semantic versions: impl.SemverOrder at two texts that NewVersion takes. -/
import Derived.Test.YtmoilbhkjmhoaaaDoorSvCv
namespace Go.Proofs.YtmoilbhkjmhoaaaDoor.Sv
open Go.RowKit Go.Proofs.YtmoilbhkjmhoaaaDoor.PFnSemverOrderThree Go.Proofs.YtmoilbhkjmhoaaaDoorW.PrintWords Go.Proofs.YtmoilbhkjmhoaaaDoor.Txt Go.Proofs.YtmoilbhkjmhoaaaDoor Go.Proofs.YtmoilbhkjmhoaaaDoor.Vals
set_option linter.unusedVariables false
set_option linter.unusedSimpArgs false
set_option maxRecDepth 20000

set_option maxHeartbeats 4000000 in
theorem semverOrder_walk (x y : ByteArray) (a m p a' m' p' : Nat) (pre me pre' me' : ByteArray) (w : World) (r : Int)
    (NX : ∀ W, Calls Tryd.prog 22 #[.string x] W (VerRes a m p pre me x W))
    (NY : ∀ W, Calls Tryd.prog 22 #[.string y] W (VerRes a' m' p' pre' me' y W))
    (CP : ∀ b c W, VerIs W b a m p pre me x → VerIs W c a' m' p' pre' me' y → Below w.heap.size w W → Calls Tryd.prog 25 #[.pointer (some ⟨b, 0, none⟩), .pointer (some ⟨c, 0, none⟩)] W fun e w' => e = .returned (.int .i64 r) ∧ Below W.heap.size W w') :
    Calls Tryd.prog 12 #[.string x, .string y] w fun e w' => e = .returned (.tuple #[.int .i64 r, .bool true]) ∧ Below w.heap.size w w' := by
  have H1 := Lib.hid (NX w)
  have HN := Lib.hid NY
  have HC := Lib.hid CP
  clear NX NY CP
  go_enter Tryd.func12, Tryd.ntmps12
  go_wp2_with fail
  refine H1.out.mono ?_
  rintro e w1 ⟨b, rfl, hb, HV, HB1⟩
  have H2 := Lib.hid (HN.out w1)
  go_wp2_with fail
  refine H2.out.mono ?_
  rintro e w2 ⟨c, rfl, hc, HW, HB2⟩
  have HB3 := Lib.hid (HB1.out.trans (HB2.out.mono HB1.out.size))
  have hv : VerIs w2 b a m p pre me x := (HB2.out.block _ (blk_lt HV.out)).trans HV.out
  have H3 := Lib.hid (HC.out b c w2 hv HW.out HB3.out)
  clear hv hb hc
  go_wp2_with fail
  refine H3.out.mono ?_
  rintro e w3 ⟨rfl, hb3⟩
  have HB4 := Lib.hid (HB3.out.trans (hb3.mono HB3.out.size))
  clear hb3
  go_wp2_with fail
  go_ret2
  exact ⟨rfl, HB4.out⟩
end Go.Proofs.YtmoilbhkjmhoaaaDoor.Sv
