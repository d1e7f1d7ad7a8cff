/- The walk of FnIsIntegerMatchesBinaryModel. -/
import Derived.Test.YtekfficjacnefaaHalvingWalk
namespace Go.Proofs.Ytekfficjacnefaa.fnIsIntegerMatchesBinaryModel
open Go.RowKit Ieee
set_option linter.unusedVariables false

theorem nan_any (a0 : Nat) (w : World) (hr : InR a0)
    (e1 : FloatKind.f64.format.order a0 a0 = none) :
    Calls Try.prog 3 #[.float .f64 a0] w fun e w' => e = .returned (.bool true) ∧ Below w.heap.size w w' := by
  have c3 := conv_num
  go_enter Try.func3, Try.ntmps3
  go_wp2_with fail
  refine (zz_any a0 hr _).mono ?_; rintro e w1 ⟨rfl, hb1⟩
  go_wp2_with fail
  refine (halving_any a0 _).mono ?_; rintro e w2 ⟨rfl, hb2⟩
  go_wp2
  go_ret
  exact ⟨rfl, hb1.trans (hb2.mono hb1.size)⟩

/-- An infinity: the difference is some NaN. -/
theorem inf_any (a0 r : Nat) (w : World) (hr : InR a0)
    (e1 : FloatKind.f64.format.order a0 a0 = some .eq) (e2 : (binOp .sub 22 (.float .f64 a0) (.float .f64 a0)).run Try.prog w = .ok (.float .f64 r) w.drew)
    (e3 : FloatKind.f64.format.order r 0 = none) :
    Calls Try.prog 3 #[.float .f64 a0] w fun e w' => e = .returned (.bool true) ∧ Below w.heap.size w w' := by
  have c3 := conv_num
  go_enter Try.func3, Try.ntmps3
  go_wp2_with fail
  refine (zz_any a0 hr _).mono ?_; rintro e w1 ⟨rfl, hb1⟩
  go_wp2_with fail
  refine (halving_any a0 _).mono ?_; rintro e w2 ⟨rfl, hb2⟩
  go_wp2
  go_ret
  exact ⟨rfl, (Below.refl _ _).drew.trans (hb1.trans (hb2.mono hb1.size))⟩

/-- A finite number in the range. -/
theorem fin_any (a0 r : Nat) (w : World) (hr : InR a0)
    (e1 : FloatKind.f64.format.order a0 a0 = some .eq) (e2 : ∀ w : World, (binOp .sub 22 (.float .f64 a0) (.float .f64 a0)).run Try.prog w = .ok (.float .f64 r) w)
    (e3 : FloatKind.f64.format.order r 0 = some .eq) (e4 : FloatKind.f64.format.order a0 4890909195324358656 = some .lt) (e5 : FloatKind.f64.format.order a0 14114281232179134464 = some .gt ∨ FloatKind.f64.format.order a0 14114281232179134464 = some .eq) :
    Calls Try.prog 3 #[.float .f64 a0] w fun e w' => e = .returned (.bool true) ∧ Below w.heap.size w w' := by
  have c3 := conv_num
  rcases e5 with e5 | e5
  all_goals
    go_enter Try.func3, Try.ntmps3
    go_wp2_with fail
    refine (zz_any a0 hr _).mono ?_; rintro e w1 ⟨rfl, hb1⟩
    go_wp2_with fail
    refine (halving_any a0 _).mono ?_; rintro e w2 ⟨rfl, hb2⟩
    go_wp2
    go_ret
    exact ⟨rfl, hb1.trans (hb2.mono hb1.size)⟩

/-- A finite number out of the range: the law answers at once. -/
theorem far_any (a0 r : Nat) (w : World)
    (e1 : FloatKind.f64.format.order a0 a0 = some .eq) (e2 : ∀ w : World, (binOp .sub 22 (.float .f64 a0) (.float .f64 a0)).run Try.prog w = .ok (.float .f64 r) w)
    (e3 : FloatKind.f64.format.order r 0 = some .eq)
    (e4 : (FloatKind.f64.format.order a0 4890909195324358656 = some .gt ∨ FloatKind.f64.format.order a0 4890909195324358656 = some .eq) ∨ (FloatKind.f64.format.order a0 4890909195324358656 = some .lt ∧ FloatKind.f64.format.order a0 14114281232179134464 = some .lt)) :
    Calls Try.prog 3 #[.float .f64 a0] w fun e w' => e = .returned (.bool true) ∧ Below w.heap.size w w' := by
  rcases e4 with (e4 | e4) | ⟨e4, e5⟩
  all_goals
    go_enter Try.func3, Try.ntmps3
    go_wp2
    go_ret
    exact ⟨rfl, Below.refl _ _⟩

theorem walk (a0 : Nat) (w : World) (w0 : (Lit.float .f64 a0).wf = true) :
    Calls Try.prog 3 #[.float .f64 a0] w fun e w' => e = .returned (.bool true) ∧ Below w.heap.size w w' := by
  cases h : Fp.fv a0 with
  | none =>
    have r1 : InR a0 := fun v hv => by rw [h] at hv; cases hv
    rcases Fp.fv_none h with ⟨s, hs⟩ | ⟨s, t, hs⟩
    · obtain ⟨r, e2, e3⟩ := run_sub_inf (P := Try.prog) w 22 hs
      exact inf_any a0 r w r1 (Fp.ord_inf hs) e2 (e3 0)
    · exact nan_any a0 w r1 (Fp.ord_nan hs a0)
  | some v =>
    obtain ⟨r, hr, fr⟩ := Fp.sub_self h
    have e1 := Fp.ord_eq h h rfl
    have e2 : ∀ w : World, (binOp .sub 22 (.float .f64 a0) (.float .f64 a0)).run Try.prog w = .ok (.float .f64 r) w := fun w => run_float_arith w .sub 22 .f64 a0 a0 r hr
    have e3 := Fp.ord_eq fr Fp.fv_zero rfl
    by_cases h1 : v < 9223372036854775808 * (Fp.one : Int)
    · by_cases h2 : -(9223372036854775808 * (Fp.one : Int)) ≤ v
      · refine fin_any a0 r w (fun u hu => by rw [h] at hu; cases hu; omega) e1 e2 e3 (Fp.ord_lt h Fp.fv_two63 h1) ?_
        by_cases h3 : v = -(9223372036854775808 * (Fp.one : Int))
        · exact .inr (Fp.ord_eq h Fp.fv_neg63 h3)
        · exact .inl (Fp.ord_gt h Fp.fv_neg63 (by omega))
      · exact far_any a0 r w e1 e2 e3 (.inr ⟨Fp.ord_lt h Fp.fv_two63 h1, Fp.ord_lt h Fp.fv_neg63 (by omega)⟩)
    · refine far_any a0 r w e1 e2 e3 (.inl ?_)
      by_cases h3 : v = 9223372036854775808 * (Fp.one : Int)
      · exact .inr (Fp.ord_eq h Fp.fv_two63 h3)
      · exact .inl (Fp.ord_gt h Fp.fv_two63 (by omega))

end Go.Proofs.Ytekfficjacnefaa.fnIsIntegerMatchesBinaryModel
