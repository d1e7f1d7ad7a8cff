/- The walk of FnNewLabelCountsUpFromCounter. -/
import Derived.Test.YtiihgamhmflphaaCtxKit116
namespace Go.Proofs.Ytiihgamhmflphaa.fnNewLabelCountsUpFromCounter
open Go.RowKit Go.Maps
set_option linter.unusedVariables false

set_option maxHeartbeats 1000000 in
theorem walk (a0 a1 : Int) (w : World) (w0 : (Lit.int .i64 a0).wf = true) (w1 : (Lit.int .i64 a1).wf = true) :
    Calls Try.prog 3 #[.int .i64 a0, .int .i64 a1] w fun e w' => e = .returned (.bool true) ∧ Below w.heap.size w w' := by
  have hz := wrap_zero w0
  clear w0 w1
  by_cases h0 : a1 < 0
  · go_enter Try.func3, Try.ntmps3
    go_wp2
    go_ret
    exact ⟨rfl, Below.refl _ _⟩
  by_cases h1 : 65536 < a1
  · go_enter Try.func3, Try.ntmps3
    go_wp2
    go_ret
    exact ⟨rfl, Below.refl _ _⟩
  obtain ⟨N, rfl⟩ : ∃ N : Nat, a1 = (N : Int) := ⟨a1.toNat, by omega⟩
  have HZ := Lib.hid hz
  clear hz
  go_enter Try.func3, Try.ntmps3
  go_wp2_with fail
  refine (new_any a0 _).mono ?_; rintro e u1 ⟨F, M, rfl, hF, hM, hfc, hmp, hb⟩
  have hfc0 := hfc
  rw [← HZ.out] at hfc0
  have HFC := Lib.hid hfc0
  have HB := Lib.hid hb
  clear hfc hmp hb hfc0
  go_wp2_with fail
  go_loopw [6] (fun i wr => ∃ k : Nat, k ≤ N ∧ i = .int .i64 k ∧ Fc wr F M (wrap64 (a0 + (k : Int))) ∧ Below w.heap.size w wr) (fun i _ => N - (intOf i).toNat)
  case atStart => exact ⟨0, by omega, rfl, HFC.out, HB.out⟩
  case round =>
    obtain ⟨k, hk, rfl, hfc, hb⟩ := hrel
    have HFC := Lib.hid hfc
    have HB := Lib.hid hb
    clear hfc hb
    by_cases hkl : k < N
    · have b2 : (k : Int) < (N : Int) := by omega
      go_wp2_with fail
      refine (newLabel_any F M _ _ HFC.out (wrap64_wf _)).mono ?_; rintro e u2 ⟨rfl, hfc, _, hb⟩
      rw [wrap_succ] at hfc
      have HFC2 := Lib.hid hfc
      have HB2 := Lib.hid (HB.out.trans (hb.mono hF))
      clear hfc hb
      go_wp2
      go_roundw
      case rel => exact ⟨k + 1, by omega, by go_num, HFC2.out, HB2.out⟩
      case measure => simp [intOf]; omega
    · have hkk : k = N := by omega
      subst hkk
      go_wp2_with fail
      refine (labelId_any F M _ _ HFC.out).mono ?_; rintro e u2 ⟨rfl, rfl⟩
      go_wp2
      go_ret
      exact ⟨by first | rfl | simp, HB.out⟩

end Go.Proofs.Ytiihgamhmflphaa.fnNewLabelCountsUpFromCounter
