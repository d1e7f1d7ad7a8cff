/- The walk of FnIsIntegerHalves. -/
import Derived.Test.YtekfficjacnefaaIsIntWalk
namespace Go.Proofs.Ytekfficjacnefaa.fnIsIntegerHalves
open Go.RowKit Ieee
set_option linter.unusedVariables false

set_option maxHeartbeats 400000 in
theorem walk (a0 : Int) (w : World) (w0 : (Lit.int .i64 a0).wf = true) :
    Calls Try.prog 5 #[.int .i64 a0] w fun e w' => e = .returned (.bool true) ∧ Below w.heap.size w w' := by
  by_cases h1 : a0 ≤ -4503599627370496
  · go_enter Try.func5, Try.ntmps5
    go_wp2
    go_ret
    exact ⟨rfl, Below.refl _ _⟩
  · by_cases h2 : 4503599627370496 ≤ a0
    · go_enter Try.func5, Try.ntmps5
      go_wp2
      go_ret
      exact ⟨rfl, Below.refl _ _⟩
    · obtain ⟨r, q, hr, hq, e1, e2, e3, i1, i2, i3⟩ := Fp.halves a0 (by omega) (by omega)
      have c0 : ∀ w : World, (convert 2 22 (.int .i64 a0)).run Try.prog w = .ok (.float .f64 (floatOfInt .f64 a0)) w := fun w =>
        run_convert_int_float w 2 22 .i64 .f64 a0 (by rw [Try.underlying2]; rfl) Try.underlying22
      generalize floatOfInt .f64 a0 = x at *
      have c1 : ∀ w : World, (binOp .add 22 (.float .f64 x) (.float .f64 4602678819172646912)).run Try.prog w = .ok (.float .f64 r) w := fun w => run_float_arith w .add 22 .f64 x _ r hr
      have c2 : ∀ w : World, (binOp .sub 22 (.float .f64 x) (.float .f64 4602678819172646912)).run Try.prog w = .ok (.float .f64 q) w := fun w => run_float_arith w .sub 22 .f64 x _ q hq
      have c3 : ∀ (b : Nat) (w : World), (convert 22 24 (.float .f64 b)).run Try.prog w = .ok (.float .f64 b) w := fun b w =>
        run_convert_float_float w 22 24 .f64 .f64 b b (by rw [Try.underlying22]; rfl) Try.underlying24 (by simp [floatToFloatBits])
      clear hr hq
      go_enter Try.func5, Try.ntmps5
      go_wp2_with fail
      refine (zz_any x i1 _).mono ?_; rintro e w1 ⟨rfl, hb1⟩
      go_wp2_with fail
      refine (zz_any r i2 _).mono ?_; rintro e w2 ⟨rfl, hb2⟩
      go_wp2_with fail
      refine (zz_any q i3 _).mono ?_; rintro e w3 ⟨rfl, hb3⟩
      go_wp2
      go_ret
      exact ⟨rfl, (hb1.trans (hb2.mono hb1.size)).trans (hb3.mono (Nat.le_trans hb1.size hb2.size))⟩

end Go.Proofs.Ytekfficjacnefaa.fnIsIntegerHalves
