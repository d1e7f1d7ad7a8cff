/- The walk of FnIsFullExactAfterSetSp. -/
import Derived.Test.YtkmojdjnpiljaaaStkLaw11
namespace Go.Proofs.Ytkmojdjnpiljaaa.fnIsFullExactAfterSetSp
open Go.RowKit
set_option linter.unusedVariables false

set_option maxHeartbeats 1000000 in
theorem walk (a0 : Int) (a1 : Int) (w : World) (w0 : (Lit.int .i64 a0).wf = true) (w1 : (Lit.int .i64 a1).wf = true) :
    Calls Try.prog 4 #[.int .i64 a0, .int .i64 a1] w fun e w' => e = .returned (.bool true) ∧ Below w.heap.size w w' := by
  by_cases h1 : a0 < 0
  · go_enter Try.func4, Try.ntmps4
    go_wp2
    go_ret
    exact ⟨rfl, Below.refl _ _⟩
  by_cases h2 : 65536 < a0
  · go_enter Try.func4, Try.ntmps4
    go_wp2
    go_ret
    exact ⟨rfl, Below.refl _ _⟩
  obtain ⟨n, rfl⟩ := Int.eq_ofNat_of_zero_le (show 0 ≤ a0 by omega)
  clear h1 w0
  go_enter Try.func4, Try.ntmps4
  go_wp2_with fail
  refine (st_new n (by omega) _).mono ?_; rintro e w1 ⟨rfl, hs⟩
  have HS := Lib.hid hs
  clear hs
  go_wp2_with fail
  refine (st_set HS.out a1).mono ?_; rintro e w2 ⟨rfl, hs⟩
  have HS2 := Lib.hid hs
  clear hs
  go_wp2_with fail
  refine (st_full HS2.out).mono ?_; rintro e w3 ⟨rfl, hs⟩
  have HS3 := Lib.hid hs
  clear hs
  go_wp2
  go_ret
  exact ⟨rfl, HS3.out.below⟩

end Go.Proofs.Ytkmojdjnpiljaaa.fnIsFullExactAfterSetSp
