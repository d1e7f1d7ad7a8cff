/- The walk of FnIsEmptyExactAfterSetSp. -/
import Derived.Test.YtkmojdjnpiljaaaStkZZ11
import Derived.Test.YtkmojdjnpiljaaaStkSet
namespace Go.Proofs.Ytkmojdjnpiljaaa.fnIsEmptyExactAfterSetSp
open Go.RowKit
set_option linter.unusedVariables false

theorem walk (a0 : Int) (a1 : Int) (w : World) (w0 : (Lit.int .i64 a0).wf = true) (w1 : (Lit.int .i64 a1).wf = true) :
    Calls Try.prog 3 #[.int .i64 a0, .int .i64 a1] w fun e w' => e = .returned (.bool true) ∧ Below w.heap.size w w' := by
  by_cases h1 : a0 < 0
  · go_enter Try.func3, Try.ntmps3
    go_wp2
    go_ret
    exact ⟨rfl, Below.refl _ _⟩
  by_cases h2 : 65536 < a0
  · go_enter Try.func3, Try.ntmps3
    go_wp2
    go_ret
    exact ⟨rfl, Below.refl _ _⟩
  obtain ⟨n, rfl⟩ := Int.eq_ofNat_of_zero_le (show 0 ≤ a0 by omega)
  clear h1 w0
  go_enter Try.func3, Try.ntmps3
  go_wp2_with fail
  refine (zznew_any n (by omega) _).mono ?_; rintro e w1 ⟨rfl, arr, hs, _, hb⟩
  have HS := Lib.hid hs
  have HB := Lib.hid hb
  clear hs hb
  go_wp2_with fail
  refine (setSp_any _ _ n 0 a1 arr _ HS.out).mono ?_; rintro e w2 ⟨rfl, rfl⟩
  have HS2 := Lib.hid (HS.out.setSp a1)
  have HB2 := Lib.hid (HB.out.setCell (p := ⟨w.heap.size + 1, 1, none⟩) (by simp) (.int .i64 a1))
  generalize w1.setCell ⟨w.heap.size + 1, 1, none⟩ (.int .i64 a1) = w2 at *
  go_wp2_with fail
  refine (sp_any _ _ n a1 arr _ HS2.out).mono ?_; rintro e w3 ⟨rfl, rfl⟩
  go_wp2_with fail
  refine (isEmpty_any _ _ n a1 arr _ HS2.out).mono ?_; rintro e w3 ⟨rfl, rfl⟩
  go_wp2
  go_ret
  exact ⟨rfl, HB2.out⟩

end Go.Proofs.Ytkmojdjnpiljaaa.fnIsEmptyExactAfterSetSp
