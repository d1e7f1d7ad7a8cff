/- The walk of FnNewStackHoldsExactlyNFrames. -/
import Derived.Test.YtkmojdjnpiljaaaStkLaw11
namespace Go.Proofs.Ytkmojdjnpiljaaa.fnNewStackHoldsExactlyNFrames
open Go.RowKit
set_option linter.unusedVariables false

set_option maxHeartbeats 1000000 in
theorem walk (a0 : Int) (w : World) (w0 : (Lit.int .i64 a0).wf = true) :
    Calls Try.prog 8 #[.int .i64 a0] w fun e w' => e = .returned (.bool true) ∧ Below w.heap.size w w' := by
  by_cases h1 : a0 < 0
  · go_enter Try.func8, Try.ntmps8
    go_wp2
    go_ret
    exact ⟨rfl, Below.refl _ _⟩
  by_cases h2 : 65536 < a0
  · go_enter Try.func8, Try.ntmps8
    go_wp2
    go_ret
    exact ⟨rfl, Below.refl _ _⟩
  obtain ⟨n, rfl⟩ := Int.eq_ofNat_of_zero_le (show 0 ≤ a0 by omega)
  clear h1 w0
  go_enter Try.func8, Try.ntmps8
  go_wp2_with fail
  refine (st_new n (by omega) _).mono ?_; rintro e w' ⟨rfl, hs⟩
  have K11 := Lib.hid hs
  clear hs
  go_wp2_with fail
  refine (st_empty K11.out).mono ?_; rintro e w' ⟨rfl, rfl⟩
  go_wp2_with fail
  refine (st_sp K11.out).mono ?_; rintro e w' ⟨rfl, rfl⟩
  go_wp2_with fail
  go_loopw [4] (fun i wr => ∃ j : Nat, j ≤ n ∧ i = .int .i64 j ∧ St w n j (j : Int) wr) (fun i _ => n - (intOf i).toNat)
  case atStart => exact ⟨0, by omega, rfl, K11.out⟩
  case round =>
    obtain ⟨j, hj, rfl, hst⟩ := hrel
    have HST := Lib.hid hst
    clear hst
    by_cases hlt : j < n
    · have hjn : ((j : Int) == (n : Int)) = false := by simp; omega
      go_wp2_with fail
      refine (st_full HST.out).mono ?_; rintro e w2 ⟨rfl, hs⟩
      have HF := Lib.hid hs
      clear hs
      go_wp2_with fail
      refine (st_push HF.out (by omega)).mono ?_; rintro e w2 ⟨rfl, hs⟩
      have HS2 := Lib.hid hs
      clear hs
      go_wp2
      go_roundw
      case rel => exact ⟨j + 1, by omega, by go_num, HS2.out⟩
      case measure => simp [intOf]; omega
    · have hjk : j = n := by omega
      subst hjk
      go_wp2_with fail
      refine (st_full HST.out).mono ?_; rintro e w' ⟨rfl, hs⟩
      have K12 := Lib.hid hs
      clear hs
      go_wp2_with fail
      obtain ⟨wo, rfl⟩ : ∃ wo : World, wo = w' := ⟨_, rfl⟩
      go_loopw [5] (fun i wr => ∃ d : Nat, d ≤ j ∧ i = .int .i64 d ∧ St w j j (j : Int) wr) (fun i _ => j - (intOf i).toNat)
      case atStart => exact ⟨0, by omega, rfl, K12.out⟩
      case round =>
        obtain ⟨d, hd, rfl, hst2⟩ := hrel
        have HP := Lib.hid hst2
        clear hst2
        by_cases hlt2 : d < j
        · go_wp2_with fail
          refine (st_at HP.out hlt2 hlt2).mono ?_; rintro e w2 ⟨rfl, rfl⟩
          go_wp2
          go_roundw
          case rel => exact ⟨d + 1, by omega, by go_num, HP.out⟩
          case measure => simp [intOf]; omega
        · have hdq : d = j := by omega
          subst hdq
          go_wp2_with fail
          obtain ⟨wo2, rfl⟩ : ∃ wo2 : World, wo2 = wr := ⟨_, rfl⟩
          go_loopw [6] (fun i wr => ∃ f : Nat, f ≤ d ∧ i = .int .i64 ((f : Int) - 1) ∧ St w d f (f : Int) wr) (fun i _ => (intOf i + 1).toNat)
          case atStart => exact ⟨d, by omega, rfl, HP.out⟩
          case round =>
            obtain ⟨f, hf, rfl, hst3⟩ := hrel
            have HQ := Lib.hid hst3
            clear hst3
            cases f with
            | succ f =>
              have hq : St w d (f + 1) ((f : Int) + 1) wr := HQ.out
              have HQQ := Lib.hid hq
              clear hq
              have ef : (((f + 1 : Nat) : Int) - 1) = (f : Int) := by omega
              rw [ef]
              clear ef
              go_wp2_with fail
              refine (st_pop HQQ.out (by omega)).mono ?_; rintro e w2 ⟨rfl, hs⟩
              have HS2 := Lib.hid hs
              clear hs
              go_wp2
              go_roundw
              case rel => exact ⟨f, by omega, by go_num, HS2.out⟩
              case measure => simp [intOf]
            | zero =>
              have ez : (((0 : Nat) : Int) - 1) = -1 := by omega
              rw [ez]
              clear ez
              have hq0 : St w d 0 0 wr := HQ.out
              have HQ0 := Lib.hid hq0
              clear hq0
              go_wp2_with fail
              refine (st_empty HQ0.out).mono ?_; rintro e w' ⟨rfl, rfl⟩
              go_wp2_with fail
              refine (st_full HQ0.out).mono ?_; rintro e w' ⟨rfl, hs⟩
              have K13 := Lib.hid hs
              clear hs
              have hn0 : ((0 : Int) == (d : Int)) = ((d : Int) == 0) := by rw [Bool.eq_iff_iff, beq_iff_eq, beq_iff_eq]; omega
              go_wp2
              go_ret
              exact ⟨by simp, K13.out.below⟩

end Go.Proofs.Ytkmojdjnpiljaaa.fnNewStackHoldsExactlyNFrames
