/- The walk of FnNewStackPushCountTable. -/
import Derived.Test.YtkmojdjnpiljaaaStkLaw11
namespace Go.Proofs.Ytkmojdjnpiljaaa.fnNewStackPushCountTable
open Go.RowKit
set_option linter.unusedVariables false

set_option maxHeartbeats 1000000 in
theorem walk (a0 : Int) (a1 : Int) (w : World) (w0 : (Lit.int .i64 a0).wf = true) (w1 : (Lit.int .i64 a1).wf = true) :
    Calls Try.prog 5 #[.int .i64 a0, .int .i64 a1] w fun e w' => e = .returned (.bool true) ∧ Below w.heap.size w w' := by
  by_cases h1 : a0 < 0
  · go_enter Try.func5, Try.ntmps5
    go_wp2
    go_ret
    exact ⟨rfl, Below.refl _ _⟩
  by_cases h2 : 65536 < a0
  · go_enter Try.func5, Try.ntmps5
    go_wp2
    go_ret
    exact ⟨rfl, Below.refl _ _⟩
  by_cases h3 : a1 < 0
  · go_enter Try.func5, Try.ntmps5
    go_wp2
    go_ret
    exact ⟨rfl, Below.refl _ _⟩
  by_cases h4 : a0 < a1
  · go_enter Try.func5, Try.ntmps5
    go_wp2
    go_ret
    exact ⟨rfl, Below.refl _ _⟩
  obtain ⟨n, rfl⟩ := Int.eq_ofNat_of_zero_le (show 0 ≤ a0 by omega)
  obtain ⟨k, rfl⟩ := Int.eq_ofNat_of_zero_le (show 0 ≤ a1 by omega)
  clear h1 h3 w0 w1
  go_enter Try.func5, Try.ntmps5
  go_wp2_with fail
  refine (st_new n (by omega) _).mono ?_; rintro e w1 ⟨rfl, hs⟩
  have HS := Lib.hid hs
  clear hs
  go_wp2_with fail
  go_loopw [6] (fun i wr => ∃ j : Nat, j ≤ k ∧ i = .int .i64 j ∧ St w n j (j : Int) wr) (fun i _ => k - (intOf i).toNat)
  case atStart => exact ⟨0, by omega, rfl, HS.out⟩
  case round =>
    obtain ⟨j, hj, rfl, hst⟩ := hrel
    have HST := Lib.hid hst
    clear hst
    by_cases hlt : j < k
    · go_wp2_with fail
      refine (st_push HST.out (by omega)).mono ?_; rintro e w2 ⟨rfl, hs⟩
      have HS2 := Lib.hid hs
      clear hs
      go_wp2
      go_roundw
      case rel => exact ⟨j + 1, by omega, by go_num, HS2.out⟩
      case measure => simp [intOf]; omega
    · have : j = k := by omega
      subst this
      go_wp2_with fail
      refine (st_sp HST.out).mono ?_; rintro e w2 ⟨rfl, rfl⟩
      go_wp2_with fail
      refine (st_empty HST.out).mono ?_; rintro e w2 ⟨rfl, rfl⟩
      go_wp2_with fail
      refine (st_full HST.out).mono ?_; rintro e w2 ⟨rfl, hs⟩
      have HS2 := Lib.hid hs
      clear hs
      go_wp2_with fail
      refine (st_last HS2.out (by omega)).mono ?_; rintro e w3 ⟨rfl, hs⟩
      have HS3 := Lib.hid hs
      clear hs
      go_wp2
      go_ret
      exact ⟨rfl, HS3.out.below⟩

end Go.Proofs.Ytkmojdjnpiljaaa.fnNewStackPushCountTable
