/- The walk of FnIsIntegerNegationSymmetric. -/
import Derived.Test.YtekfficjacnefaaIsIntWalk
namespace Go.Proofs.Ytekfficjacnefaa.fnIsIntegerNegationSymmetric
open Go.RowKit Ieee
set_option linter.unusedVariables false

theorem run_neg (b : Nat) (w : World) : (Op.unary .neg (.float .f64 b)).run Try.prog w = .ok (.float .f64 (b ^^^ 9223372036854775808)) w := rfl

theorem nan_any (a0 : Nat) (w : World) (hr : InR a0) (hr' : InR (a0 ^^^ 9223372036854775808))
    (e1 : FloatKind.f64.format.order a0 a0 = none) :
    Calls Try.prog 4 #[.float .f64 a0] w fun e w' => e = .returned (.bool true) ∧ Below w.heap.size w w' := by
  have c3 := conv_num
  have hn := isIntB_neg a0
  have c4 := run_neg
  go_enter Try.func4, Try.ntmps4
  go_wp2_with fail
  refine (zz_any a0 hr _).mono ?_; rintro e w1 ⟨rfl, hb1⟩
  go_wp2_with fail
  refine (zz_any _ hr' _).mono ?_; rintro e w2 ⟨rfl, hb2⟩
  go_wp2
  go_ret
  exact ⟨rfl, hb1.trans (hb2.mono hb1.size)⟩

/-- An infinity: the difference is some NaN. -/
theorem inf_any (a0 r : Nat) (w : World) (hr : InR a0) (hr' : InR (a0 ^^^ 9223372036854775808))
    (e1 : FloatKind.f64.format.order a0 a0 = some .eq) (e2 : (binOp .sub 22 (.float .f64 a0) (.float .f64 a0)).run Try.prog w = .ok (.float .f64 r) w.drew)
    (e3 : FloatKind.f64.format.order r 0 = none) :
    Calls Try.prog 4 #[.float .f64 a0] w fun e w' => e = .returned (.bool true) ∧ Below w.heap.size w w' := by
  have c3 := conv_num
  have hn := isIntB_neg a0
  have c4 := run_neg
  go_enter Try.func4, Try.ntmps4
  go_wp2_with fail
  refine (zz_any a0 hr _).mono ?_; rintro e w1 ⟨rfl, hb1⟩
  go_wp2_with fail
  refine (zz_any _ hr' _).mono ?_; rintro e w2 ⟨rfl, hb2⟩
  go_wp2
  go_ret
  exact ⟨rfl, (Below.refl _ _).drew.trans (hb1.trans (hb2.mono hb1.size))⟩

/-- A finite number in the range. -/
theorem fin_any (a0 r : Nat) (w : World) (hr : InR a0) (hr' : InR (a0 ^^^ 9223372036854775808))
    (e1 : FloatKind.f64.format.order a0 a0 = some .eq) (e2 : ∀ w : World, (binOp .sub 22 (.float .f64 a0) (.float .f64 a0)).run Try.prog w = .ok (.float .f64 r) w)
    (e3 : FloatKind.f64.format.order r 0 = some .eq) (e4 : FloatKind.f64.format.order a0 4890909195324358656 = some .lt) (e5 : FloatKind.f64.format.order a0 14114281232179134464 = some .gt) :
    Calls Try.prog 4 #[.float .f64 a0] w fun e w' => e = .returned (.bool true) ∧ Below w.heap.size w w' := by
  have c3 := conv_num
  have hn := isIntB_neg a0
  have c4 := run_neg
  go_enter Try.func4, Try.ntmps4
  go_wp2_with fail
  refine (zz_any a0 hr _).mono ?_; rintro e w1 ⟨rfl, hb1⟩
  go_wp2_with fail
  refine (zz_any _ hr' _).mono ?_; rintro e w2 ⟨rfl, hb2⟩
  go_wp2
  go_ret
  exact ⟨rfl, hb1.trans (hb2.mono hb1.size)⟩

/-- A finite number out of the range: the law answers at once. -/
theorem far_any (a0 r : Nat) (w : World)
    (e1 : FloatKind.f64.format.order a0 a0 = some .eq) (e2 : ∀ w : World, (binOp .sub 22 (.float .f64 a0) (.float .f64 a0)).run Try.prog w = .ok (.float .f64 r) w)
    (e3 : FloatKind.f64.format.order r 0 = some .eq)
    (e4 : (FloatKind.f64.format.order a0 4890909195324358656 = some .gt ∨ FloatKind.f64.format.order a0 4890909195324358656 = some .eq) ∨ (FloatKind.f64.format.order a0 4890909195324358656 = some .lt ∧ (FloatKind.f64.format.order a0 14114281232179134464 = some .lt ∨ FloatKind.f64.format.order a0 14114281232179134464 = some .eq))) :
    Calls Try.prog 4 #[.float .f64 a0] w fun e w' => e = .returned (.bool true) ∧ Below w.heap.size w w' := by
  rcases e4 with (e4 | e4) | ⟨e4, e5 | e5⟩
  all_goals
    go_enter Try.func4, Try.ntmps4
    go_wp2
    go_ret
    exact ⟨rfl, Below.refl _ _⟩

theorem inR_neg {x : Nat} {v : Int} (h : Fp.fv x = some v) (h1 : -(9223372036854775808 * (Fp.one : Int)) < v) (h2 : v < 9223372036854775808 * (Fp.one : Int)) : InR (x ^^^ 9223372036854775808) := by
  intro u hu
  have := Fp.fv_neg h
  rw [show x ^^^ 9223372036854775808 = x ^^^ 2 ^ 63 from rfl] at hu
  rw [this] at hu
  cases hu
  omega

theorem walk (a0 : Nat) (w : World) (w0 : (Lit.float .f64 a0).wf = true) :
    Calls Try.prog 4 #[.float .f64 a0] w fun e w' => e = .returned (.bool true) ∧ Below w.heap.size w w' := by
  cases h : Fp.fv a0 with
  | none =>
    have r1 : InR a0 := fun v hv => by rw [h] at hv; cases hv
    have r2 : InR (a0 ^^^ 9223372036854775808) := fun v hv => by rw [show a0 ^^^ 9223372036854775808 = a0 ^^^ 2 ^ 63 from rfl, Fp.fv_neg_none h] at hv; cases hv
    rcases Fp.fv_none h with ⟨s, hs⟩ | ⟨s, t, hs⟩
    · obtain ⟨r, e2, e3⟩ := run_sub_inf (P := Try.prog) w 22 hs
      exact inf_any a0 r w r1 r2 (Fp.ord_inf hs) e2 (e3 0)
    · exact nan_any a0 w r1 r2 (Fp.ord_nan hs a0)
  | some v =>
    obtain ⟨r, hr, fr⟩ := Fp.sub_self h
    have e1 := Fp.ord_eq h h rfl
    have e2 : ∀ w : World, (binOp .sub 22 (.float .f64 a0) (.float .f64 a0)).run Try.prog w = .ok (.float .f64 r) w := fun w => run_float_arith w .sub 22 .f64 a0 a0 r hr
    have e3 := Fp.ord_eq fr Fp.fv_zero rfl
    by_cases h1 : v < 9223372036854775808 * (Fp.one : Int)
    · by_cases h2 : -(9223372036854775808 * (Fp.one : Int)) < v
      · exact fin_any a0 r w (fun u hu => by rw [h] at hu; cases hu; omega) (inR_neg h h2 h1) e1 e2 e3 (Fp.ord_lt h Fp.fv_two63 h1) (Fp.ord_gt h Fp.fv_neg63 h2)
      · refine far_any a0 r w e1 e2 e3 (.inr ⟨Fp.ord_lt h Fp.fv_two63 h1, ?_⟩)
        by_cases h3 : v = -(9223372036854775808 * (Fp.one : Int))
        · exact .inr (Fp.ord_eq h Fp.fv_neg63 h3)
        · exact .inl (Fp.ord_lt h Fp.fv_neg63 (by omega))
    · refine far_any a0 r w e1 e2 e3 (.inl ?_)
      by_cases h3 : v = 9223372036854775808 * (Fp.one : Int)
      · exact .inr (Fp.ord_eq h Fp.fv_two63 h3)
      · exact .inl (Fp.ord_gt h Fp.fv_two63 (by omega))

end Go.Proofs.Ytekfficjacnefaa.fnIsIntegerNegationSymmetric
