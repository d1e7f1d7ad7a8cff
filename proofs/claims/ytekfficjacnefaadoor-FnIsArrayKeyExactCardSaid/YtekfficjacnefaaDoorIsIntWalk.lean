/- The contract of isInteger: in the range of an int64, and for NaN and the infinities, it answers isIntB.  -/
import Derived.Test.YtekfficjacnefaaDoorRows
import Derived.Test.YtekfficjacnefaaDoorIsInt
import Derived.WalkKit
import Derived.WalkSpells
import Derived.WalkLawsBesides
import Derived.Lib.Hide
namespace Go.Proofs.YtekfficjacnefaaDoor
open Go.RowKit Ieee

set_option maxHeartbeats 400000 in
theorem isInteger_any (x : Nat) (hr : InR x) (w : World) :
    Calls Tryd.prog 12 #[.float .f64 x] w fun e w' => e = .returned (.bool (isIntB x)) ∧ Below w.heap.size w w' := by
  have c1 : ∀ w : World, (convert 25 24 (.float .f64 x)).run Tryd.prog w = .ok (.float .f64 x) w := fun w =>
    run_convert_float_float w 25 24 .f64 .f64 x x (by rw [Tryd.underlying25]; rfl) Tryd.underlying24 (by simp [floatToFloatBits])
  cases hx : Fp.fv x with
  | some v =>
    obtain ⟨r1, r2⟩ := hr v hx
    have c2 : ∀ w : World, (convert 25 2 (.float .f64 x)).run Tryd.prog w = .ok (.int .i64 (v.tdiv (Fp.one : Int))) w := fun w =>
      run_convert_float_int w 25 2 .f64 .i64 x _ (by rw [Tryd.underlying25]; rfl) Tryd.underlying2 (Fp.toIntVal hx r1 r2)
    have hv := Fp.isInt_val hx
    have HV := Lib.hid hv
    clear hv hr r1 r2 hx
    generalize v.tdiv (Fp.one : Int) = t at *
    go_enter Tryd.func12, Tryd.ntmps12
    go_wp2
    go_ret
    exact ⟨congrArg (fun b => Ending.returned (.bool b)) HV.out, Below.refl _ _⟩
  | none =>
    obtain ⟨n, n1, n2, c2⟩ : ∃ n : Int, -9223372036854775808 ≤ n ∧ n ≤ 9223372036854775807 ∧ (convert 25 2 (.float .f64 x)).run Tryd.prog w = .ok (.int .i64 n) w.drew :=
      ⟨_, by rw [IntKind.wrap_i64]; omega, by rw [IntKind.wrap_i64]; omega, run_toInt_none w 25 2 x (by rw [Tryd.underlying25]; rfl) Tryd.underlying2 hx⟩
    have hv : (double.order x (floatOfInt .f64 n) == some .eq) = isIntB x := by
      obtain ⟨u, hu⟩ := Fp.ofInt_some n n1 n2
      have := Fp.order_none_left hx hu
      unfold isIntB
      rw [hx]
      simpa using this
    have HV := Lib.hid hv
    clear hv hr hx
    go_enter Tryd.func12, Tryd.ntmps12
    go_wp2
    go_ret
    exact ⟨congrArg (fun b => Ending.returned (.bool b)) HV.out, (Below.refl _ _).drew⟩

theorem conv_num (b : Nat) (w : World) : (convert 24 25 (.float .f64 b)).run Tryd.prog w = .ok (.float .f64 b) w :=
  run_convert_float_float w 24 25 .f64 .f64 b b (by rw [Tryd.underlying24]; rfl) Tryd.underlying25 (by simp [floatToFloatBits])

end Go.Proofs.YtekfficjacnefaaDoor
