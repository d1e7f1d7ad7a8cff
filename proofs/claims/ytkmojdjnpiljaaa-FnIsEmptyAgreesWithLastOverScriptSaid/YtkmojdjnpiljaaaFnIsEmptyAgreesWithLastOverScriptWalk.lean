/- The walk of FnIsEmptyAgreesWithLastOverScript. -/
import Derived.Test.YtkmojdjnpiljaaaStkLaw11
namespace Go.Proofs.Ytkmojdjnpiljaaa.fnIsEmptyAgreesWithLastOverScript
open Go.RowKit
set_option linter.unusedVariables false

set_option maxHeartbeats 1000000 in
theorem walk (a0 : Int) (a1 : Int) (a2 : Int) (w : World) (w0 : (Lit.int .i64 a0).wf = true) (w1 : (Lit.int .i64 a1).wf = true) (w2 : (Lit.int .i64 a2).wf = true) :
    Calls Try.prog 7 #[.int .i64 a0, .int .i64 a1, .int .i64 a2] w fun e w' => e = .returned (.bool true) ∧ Below w.heap.size w w' := by
  by_cases h1 : a0 < 0
  · go_enter Try.func7, Try.ntmps7
    go_wp2
    go_ret
    exact ⟨rfl, Below.refl _ _⟩
  by_cases h2 : 65536 < a0
  · go_enter Try.func7, Try.ntmps7
    go_wp2
    go_ret
    exact ⟨rfl, Below.refl _ _⟩
  by_cases h3 : a1 < 0
  · go_enter Try.func7, Try.ntmps7
    go_wp2
    go_ret
    exact ⟨rfl, Below.refl _ _⟩
  by_cases h4 : a0 < a1
  · go_enter Try.func7, Try.ntmps7
    go_wp2
    go_ret
    exact ⟨rfl, Below.refl _ _⟩
  by_cases h5 : a2 < 0
  · go_enter Try.func7, Try.ntmps7
    go_wp2
    go_ret
    exact ⟨rfl, Below.refl _ _⟩
  by_cases h6 : a1 < a2
  · go_enter Try.func7, Try.ntmps7
    go_wp2
    go_ret
    exact ⟨rfl, Below.refl _ _⟩
  obtain ⟨n, rfl⟩ := Int.eq_ofNat_of_zero_le (show 0 ≤ a0 by omega)
  obtain ⟨k, rfl⟩ := Int.eq_ofNat_of_zero_le (show 0 ≤ a1 by omega)
  obtain ⟨q, rfl⟩ := Int.eq_ofNat_of_zero_le (show 0 ≤ a2 by omega)
  clear h1 h3 h5 w0 w1 w2
  go_enter Try.func7, Try.ntmps7
  go_wp2_with fail
  refine (st_new n (by omega) _).mono ?_; rintro e w' ⟨rfl, hs⟩
  have K9 := Lib.hid hs
  clear hs
  go_wp2_with fail
  go_loopw [8] (fun i wr => ∃ j : Nat, j ≤ k ∧ i = .int .i64 j ∧ St w n j (j : Int) wr) (fun i _ => k - (intOf i).toNat)
  case atStart => exact ⟨0, by omega, rfl, K9.out⟩
  case round =>
    obtain ⟨j, hj, rfl, hst⟩ := hrel
    have HST := Lib.hid hst
    clear hst
    by_cases hlt : j < k
    · go_wp2_with fail
      refine (st_push HST.out (by omega)).mono ?_; rintro e w2 ⟨rfl, hs⟩
      have HS2 := Lib.hid hs
      clear hs
      go_wp2
      go_roundw
      case rel => exact ⟨j + 1, by omega, by go_num, HS2.out⟩
      case measure => simp [intOf]; omega
    · have hjk : j = k := by omega
      subst hjk
      go_wp2_with fail
      obtain ⟨wo, rfl⟩ : ∃ wo : World, wo = wr := ⟨_, rfl⟩
      go_loopw [9] (fun i wr => ∃ d : Nat, d ≤ q ∧ i = .int .i64 d ∧ St w n (j - d) ((j - d : Nat) : Int) wr) (fun i _ => q - (intOf i).toNat)
      case atStart => exact ⟨0, by omega, rfl, HST.out⟩
      case round =>
        obtain ⟨d, hd, rfl, hst2⟩ := hrel
        have HP := Lib.hid hst2
        clear hst2
        by_cases hlt2 : d < q
        · have hp : St w n (j - (d + 1) + 1) (((j - (d + 1) : Nat) : Int) + 1) wr := by
            have := HP.out
            have e1 : j - (d + 1) + 1 = j - d := by omega
            have e2 : (((j - (d + 1) : Nat) : Int) + 1) = ((j - d : Nat) : Int) := by omega
            rw [e1, e2]
            exact this
          have HPP := Lib.hid hp
          clear hp
          go_wp2_with fail
          refine (st_pop HPP.out (by omega)).mono ?_; rintro e w2 ⟨rfl, hs⟩
          have HS2 := Lib.hid hs
          clear hs
          go_wp2
          go_roundw
          case rel => exact ⟨d + 1, by omega, by go_num, HS2.out⟩
          case measure => simp [intOf]; omega
        · have hdq : d = q := by omega
          subst hdq
          have hsub : (((j - d : Nat) : Int) == (j : Int) - (d : Int)) = true := by rw [beq_iff_eq]; omega
          have hsub2 : (((j - d : Nat) : Int) == 0) = ((j : Int) == (d : Int)) := by rw [Bool.eq_iff_iff, beq_iff_eq, beq_iff_eq]; omega
          have hle : j - d ≤ n := by omega
          generalize hm : j - d = m at *
          have HM := Lib.hid hm
          clear hm
          go_wp2_with fail
          refine (st_empty HP.out).mono ?_; rintro e w' ⟨rfl, rfl⟩
          go_wp2_with fail
          refine (st_last HP.out hle).mono ?_; rintro e w' ⟨rfl, hs⟩
          have K10 := Lib.hid hs
          clear hs
          go_wp2_with fail
          refine (st_sp K10.out).mono ?_; rintro e w' ⟨rfl, rfl⟩
          go_wp2
          go_ret
          exact ⟨by simp, K10.out.below⟩

end Go.Proofs.Ytkmojdjnpiljaaa.fnIsEmptyAgreesWithLastOverScript
