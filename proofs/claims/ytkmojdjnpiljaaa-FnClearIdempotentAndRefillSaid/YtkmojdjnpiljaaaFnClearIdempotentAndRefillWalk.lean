/- The walk of FnClearIdempotentAndRefill. -/
import Derived.Test.YtkmojdjnpiljaaaStkLaw11
namespace Go.Proofs.Ytkmojdjnpiljaaa.fnClearIdempotentAndRefill
open Go.RowKit
set_option linter.unusedVariables false

set_option maxHeartbeats 2000000 in
theorem walk (a0 : Int) (a1 : Int) (w : World) (w0 : (Lit.int .i64 a0).wf = true) (w1 : (Lit.int .i64 a1).wf = true) :
    Calls Try.prog 9 #[.int .i64 a0, .int .i64 a1] w fun e w' => e = .returned (.bool true) ∧ Below w.heap.size w w' := by
  by_cases h1 : a0 < 0
  · go_enter Try.func9, Try.ntmps9
    go_wp2
    go_ret
    exact ⟨rfl, Below.refl _ _⟩
  by_cases h2 : 65536 < a0
  · go_enter Try.func9, Try.ntmps9
    go_wp2
    go_ret
    exact ⟨rfl, Below.refl _ _⟩
  by_cases h3 : a1 < 0
  · go_enter Try.func9, Try.ntmps9
    go_wp2
    go_ret
    exact ⟨rfl, Below.refl _ _⟩
  by_cases h4 : a0 < a1
  · go_enter Try.func9, Try.ntmps9
    go_wp2
    go_ret
    exact ⟨rfl, Below.refl _ _⟩
  obtain ⟨n, rfl⟩ := Int.eq_ofNat_of_zero_le (show 0 ≤ a0 by omega)
  obtain ⟨k, rfl⟩ := Int.eq_ofNat_of_zero_le (show 0 ≤ a1 by omega)
  clear h1 h3 w0 w1
  go_enter Try.func9, Try.ntmps9
  go_wp2_with fail
  refine (st_new n (by omega) _).mono ?_; rintro e w' ⟨rfl, hs⟩
  have K14 := Lib.hid hs
  clear hs
  go_wp2_with fail
  go_loopw [6] (fun i wr => ∃ j : Nat, j ≤ k ∧ i = .int .i64 j ∧ St w n j (j : Int) wr) (fun i _ => k - (intOf i).toNat)
  case atStart => exact ⟨0, by omega, rfl, K14.out⟩
  case round =>
    obtain ⟨j, hj, rfl, hst⟩ := hrel
    have HST := Lib.hid hst
    clear hst
    by_cases hlt : j < k
    · go_wp2_with fail
      refine (st_push HST.out (by omega)).mono ?_; rintro e w2 ⟨rfl, hs⟩
      have HS2 := Lib.hid hs
      clear hs
      go_wp2
      go_roundw
      case rel => exact ⟨j + 1, by omega, by go_num, HS2.out⟩
      case measure => simp [intOf]; omega
    · have hjk : j = k := by omega
      subst hjk
      go_wp2_with fail
      refine (st_clear HST.out).mono ?_; rintro e w' ⟨rfl, hs⟩
      have K15 := Lib.hid hs
      clear hs
      go_wp2_with fail
      refine (st_sp K15.out).mono ?_; rintro e w' ⟨rfl, rfl⟩
      go_wp2_with fail
      refine (st_empty K15.out).mono ?_; rintro e w' ⟨rfl, rfl⟩
      go_wp2_with fail
      refine (st_full K15.out).mono ?_; rintro e w' ⟨rfl, hs⟩
      have K16 := Lib.hid hs
      clear hs
      go_wp2_with fail
      refine (st_clear K16.out).mono ?_; rintro e w' ⟨rfl, hs⟩
      have K17 := Lib.hid hs
      clear hs
      go_wp2_with fail
      refine (st_sp K17.out).mono ?_; rintro e w' ⟨rfl, rfl⟩
      go_wp2_with fail
      refine (st_empty K17.out).mono ?_; rintro e w' ⟨rfl, rfl⟩
      go_wp2_with fail
      refine (st_full K17.out).mono ?_; rintro e w' ⟨rfl, hs⟩
      have K18 := Lib.hid hs
      clear hs
      have hz : St w n 0 ((0 : Nat) : Int) w' := K18.out.less (by omega)
      have HZ := Lib.hid hz
      clear hz
      generalize j = j0 at *
      go_wp2_with fail
      obtain ⟨wo, rfl⟩ : ∃ wo : World, wo = w' := ⟨_, rfl⟩
      go_loopw [10] (fun i wr => ∃ j : Nat, j ≤ n ∧ i = .int .i64 j ∧ St w n j (j : Int) wr) (fun i _ => n - (intOf i).toNat)
      case atStart => exact ⟨0, by omega, rfl, HZ.out⟩
      case round =>
        obtain ⟨j, hj, rfl, hst⟩ := hrel
        have HST2 := Lib.hid hst
        clear hst
        by_cases hlt : j < n
        · have hjn : ((j : Int) == (n : Int)) = false := by simp; omega
          go_wp2_with fail
          refine (st_full HST2.out).mono ?_; rintro e w2 ⟨rfl, hs⟩
          have HF := Lib.hid hs
          clear hs
          go_wp2_with fail
          refine (st_push HF.out (by omega)).mono ?_; rintro e w2 ⟨rfl, hs⟩
          have HS2 := Lib.hid hs
          clear hs
          go_wp2
          go_roundw
          case rel => exact ⟨j + 1, by omega, by go_num, HS2.out⟩
          case measure => simp [intOf]; omega
        · have hjk : j = n := by omega
          subst hjk
          go_wp2_with fail
          refine (st_full HST2.out).mono ?_; rintro e w' ⟨rfl, hs⟩
          have K19 := Lib.hid hs
          clear hs
          go_wp2_with fail
          obtain ⟨wo2, rfl⟩ : ∃ wo2 : World, wo2 = w' := ⟨_, rfl⟩
          go_loopw [11] (fun i wr => ∃ d : Nat, d ≤ j ∧ i = .int .i64 d ∧ St w j j (j : Int) wr) (fun i _ => j - (intOf i).toNat)
          case atStart => exact ⟨0, by omega, rfl, K19.out⟩
          case round =>
            obtain ⟨d, hd, rfl, hst2⟩ := hrel
            have HP := Lib.hid hst2
            clear hst2
            by_cases hlt2 : d < j
            · go_wp2_with fail
              refine (st_at HP.out hlt2 hlt2).mono ?_; rintro e w2 ⟨rfl, rfl⟩
              go_wp2
              go_roundw
              case rel => exact ⟨d + 1, by omega, by go_num, HP.out⟩
              case measure => simp [intOf]; omega
            · go_wp2
              go_ret
              exact ⟨rfl, HP.out.below⟩

end Go.Proofs.Ytkmojdjnpiljaaa.fnClearIdempotentAndRefill
