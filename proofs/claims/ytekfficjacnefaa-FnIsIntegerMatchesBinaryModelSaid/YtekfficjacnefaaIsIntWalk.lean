/- The contract of isInteger: in the range of an int64, and for NaN and the infinities, it answers isIntB. Function 8 (isInteger) and 6 (the export) of this seat's translation. -/
import Derived.Test.YtekfficjacnefaaRows
import Derived.Test.YtekfficjacnefaaIsInt
import Derived.WalkKit
import Derived.WalkSpells
import Derived.WalkLawsBesides
import Derived.Lib.Hide
namespace Go.Proofs.Ytekfficjacnefaa
open Go.RowKit Ieee

set_option maxHeartbeats 400000 in
theorem isInteger_any (x : Nat) (hr : InR x) (w : World) :
    Calls Try.prog 8 #[.float .f64 x] w fun e w' => e = .returned (.bool (isIntB x)) ∧ Below w.heap.size w w' := by
  have c1 : ∀ w : World, (convert 24 22 (.float .f64 x)).run Try.prog w = .ok (.float .f64 x) w := fun w =>
    run_convert_float_float w 24 22 .f64 .f64 x x (by rw [Try.underlying24]; rfl) Try.underlying22 (by simp [floatToFloatBits])
  cases hx : Fp.fv x with
  | some v =>
    obtain ⟨r1, r2⟩ := hr v hx
    have c2 : ∀ w : World, (convert 24 2 (.float .f64 x)).run Try.prog w = .ok (.int .i64 (v.tdiv (Fp.one : Int))) w := fun w =>
      run_convert_float_int w 24 2 .f64 .i64 x _ (by rw [Try.underlying24]; rfl) Try.underlying2 (Fp.toIntVal hx r1 r2)
    have hv := Fp.isInt_val hx
    have HV := Lib.hid hv
    clear hv hr r1 r2 hx
    generalize v.tdiv (Fp.one : Int) = t at *
    go_enter Try.func8, Try.ntmps8
    go_wp2
    go_ret
    exact ⟨congrArg (fun b => Ending.returned (.bool b)) HV.out, Below.refl _ _⟩
  | none =>
    obtain ⟨n, n1, n2, c2⟩ : ∃ n : Int, -9223372036854775808 ≤ n ∧ n ≤ 9223372036854775807 ∧ (convert 24 2 (.float .f64 x)).run Try.prog w = .ok (.int .i64 n) w.drew :=
      ⟨_, by rw [IntKind.wrap_i64]; omega, by rw [IntKind.wrap_i64]; omega, run_toInt_none w 24 2 x (by rw [Try.underlying24]; rfl) Try.underlying2 hx⟩
    have hv : (double.order x (floatOfInt .f64 n) == some .eq) = isIntB x := by
      obtain ⟨u, hu⟩ := Fp.ofInt_some n n1 n2
      have := Fp.order_none_left hx hu
      unfold isIntB
      rw [hx]
      simpa using this
    have HV := Lib.hid hv
    clear hv hr hx
    go_enter Try.func8, Try.ntmps8
    go_wp2
    go_ret
    exact ⟨congrArg (fun b => Ending.returned (.bool b)) HV.out, (Below.refl _ _).drew⟩

theorem zz_any (x : Nat) (hr : InR x) (w : World) :
    Calls Try.prog 6 #[.float .f64 x] w fun e w' => e = .returned (.bool (isIntB x)) ∧ Below w.heap.size w w' := by
  go_enter Try.func6, Try.ntmps6
  go_wp2_with (go_at_call 8; refine (isInteger_any x hr _).mono ?_; rintro e w' ⟨rfl, hb⟩)
  go_ret
  exact ⟨rfl, hb⟩

theorem conv_num (b : Nat) (w : World) : (convert 22 24 (.float .f64 b)).run Try.prog w = .ok (.float .f64 b) w :=
  run_convert_float_float w 22 24 .f64 .f64 b b (by rw [Try.underlying22]; rfl) Try.underlying24 (by simp [floatToFloatBits])

end Go.Proofs.Ytekfficjacnefaa
