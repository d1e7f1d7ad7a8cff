/- The walk of FnClearEmptiesAnyState. -/
import Derived.Test.YtkmojdjnpiljaaaStkLaw11
namespace Go.Proofs.Ytkmojdjnpiljaaa.fnClearEmptiesAnyState
open Go.RowKit
set_option linter.unusedVariables false

set_option maxHeartbeats 1000000 in
theorem walk (a0 : Int) (a1 : Int) (a2 : Int) (a3 : Bool) (w : World) (w0 : (Lit.int .i64 a0).wf = true) (w1 : (Lit.int .i64 a1).wf = true) (w2 : (Lit.int .i64 a2).wf = true) :
    Calls Try.prog 6 #[.int .i64 a0, .int .i64 a1, .int .i64 a2, .bool a3] w fun e w' => e = .returned (.bool true) ∧ Below w.heap.size w w' := by
  by_cases h1 : a0 < 0
  · go_enter Try.func6, Try.ntmps6
    go_wp2
    go_ret
    exact ⟨rfl, Below.refl _ _⟩
  by_cases h2 : 65536 < a0
  · go_enter Try.func6, Try.ntmps6
    go_wp2
    go_ret
    exact ⟨rfl, Below.refl _ _⟩
  by_cases h3 : a1 < 0
  · go_enter Try.func6, Try.ntmps6
    go_wp2
    go_ret
    exact ⟨rfl, Below.refl _ _⟩
  by_cases h4 : a0 < a1
  · go_enter Try.func6, Try.ntmps6
    go_wp2
    go_ret
    exact ⟨rfl, Below.refl _ _⟩
  obtain ⟨n, rfl⟩ := Int.eq_ofNat_of_zero_le (show 0 ≤ a0 by omega)
  obtain ⟨k, rfl⟩ := Int.eq_ofNat_of_zero_le (show 0 ≤ a1 by omega)
  clear h1 h3 w0 w1
  go_enter Try.func6, Try.ntmps6
  go_wp2_with fail
  refine (st_new n (by omega) _).mono ?_; rintro e w' ⟨rfl, hs⟩
  have K1 := Lib.hid hs
  clear hs
  go_wp2_with fail
  go_loopw [10] (fun i wr => ∃ j : Nat, j ≤ k ∧ i = .int .i64 j ∧ St w n j (j : Int) wr) (fun i _ => k - (intOf i).toNat)
  case atStart => exact ⟨0, by omega, rfl, K1.out⟩
  case round =>
    obtain ⟨j, hj, rfl, hst⟩ := hrel
    have HST := Lib.hid hst
    clear hst
    by_cases hlt : j < k
    · go_wp2_with fail
      refine (st_push HST.out (by omega)).mono ?_; rintro e w2 ⟨rfl, hs⟩
      have HS2 := Lib.hid hs
      clear hs
      go_wp2
      go_roundw
      case rel => exact ⟨j + 1, by omega, by go_num, HS2.out⟩
      case measure => simp [intOf]; omega
    · have hjk : j = k := by omega
      subst hjk
      have hn0 : ((0 : Int) == (n : Int)) = ((n : Int) == 0) := by rw [Bool.eq_iff_iff, beq_iff_eq, beq_iff_eq]; omega
      cases a3
      · go_wp2_with fail
        refine (st_clear HST.out).mono ?_; rintro e w' ⟨rfl, hs⟩
        have K2 := Lib.hid hs
        clear hs
        go_wp2_with fail
        refine (st_sp K2.out).mono ?_; rintro e w' ⟨rfl, rfl⟩
        go_wp2_with fail
        refine (st_empty K2.out).mono ?_; rintro e w' ⟨rfl, rfl⟩
        go_wp2_with fail
        refine (st_last0 K2.out).mono ?_; rintro e w' ⟨rfl, hs⟩
        have K3 := Lib.hid hs
        clear hs
        go_wp2_with fail
        refine (st_full K3.out).mono ?_; rintro e w' ⟨rfl, hs⟩
        have K4 := Lib.hid hs
        clear hs
        go_wp2
        go_ret
        exact ⟨by simp, K4.out.below⟩
      · go_wp2_with fail
        refine (st_set HST.out a2).mono ?_; rintro e w' ⟨rfl, hs⟩
        have K5 := Lib.hid hs
        clear hs
        go_wp2_with fail
        refine (st_clear K5.out).mono ?_; rintro e w' ⟨rfl, hs⟩
        have K6 := Lib.hid hs
        clear hs
        go_wp2_with fail
        refine (st_sp K6.out).mono ?_; rintro e w' ⟨rfl, rfl⟩
        go_wp2_with fail
        refine (st_empty K6.out).mono ?_; rintro e w' ⟨rfl, rfl⟩
        go_wp2_with fail
        refine (st_last0 K6.out).mono ?_; rintro e w' ⟨rfl, hs⟩
        have K7 := Lib.hid hs
        clear hs
        go_wp2_with fail
        refine (st_full K7.out).mono ?_; rintro e w' ⟨rfl, hs⟩
        have K8 := Lib.hid hs
        clear hs
        go_wp2
        go_ret
        exact ⟨by simp, K8.out.below⟩

end Go.Proofs.Ytkmojdjnpiljaaa.fnClearEmptiesAnyState
