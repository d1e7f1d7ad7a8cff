/- The contract of isArrayKey and of its export: for every word it answers isKeyB, where MaxArrayIndex holds 67108864. -/
import Derived.Test.YtekfficjacnefaaDoorIsIntWalk
import Derived.Test.YtekfficjacnefaaDoorArrayKey
import Derived.BigQuiet
namespace Go.Proofs.YtekfficjacnefaaDoor
open Go.RowKit Ieee
set_option linter.unusedVariables false

/-- Some bool. -/
def SomeBool (w : World) (e : Ending) (w' : World) : Prop := ∃ b : Bool, e = .returned (.bool b) ∧ Below w.heap.size w w'

set_option maxHeartbeats 400000 in
theorem isInteger_far (x : Nat) (v : Int) (hx : Fp.fv x = some v) (w : World) : Calls Tryd.prog 12 #[.float .f64 x] w (SomeBool w) := by
  have c1 : ∀ w : World, (convert 25 24 (.float .f64 x)).run Tryd.prog w = .ok (.float .f64 x) w := fun w =>
    run_convert_float_float w 25 24 .f64 .f64 x x (by rw [Tryd.underlying25]; rfl) Tryd.underlying24 (by simp [floatToFloatBits])
  obtain ⟨n, w1, hw, c2⟩ : ∃ (n : Int) (w1 : World), (w1 = w ∨ w1 = w.drew) ∧ (convert 25 2 (.float .f64 x)).run Tryd.prog w = .ok (.int .i64 n) w1 :=
    run_toInt_any w 25 2 x (by rw [Tryd.underlying25]; rfl) Tryd.underlying2
  have hb : Below w.heap.size w w1 := by rcases hw with rfl | rfl; exact Below.refl _ _; exact (Below.refl _ _).drew
  clear hx hw
  go_enter Tryd.func12, Tryd.ntmps12
  go_wp2
  go_ret
  exact ⟨_, rfl, hb⟩

theorem conv_key (w : World) : (convert 3 25 (.int .i64 67108864)).run Tryd.prog w = .ok (.float .f64 (floatOfInt .f64 67108864)) w :=
  run_convert_int_float w 3 25 .i64 .f64 67108864 (by rw [Tryd.underlying3]; rfl) Tryd.underlying25

set_option maxHeartbeats 400000 in
/-- isInteger says no. -/
theorem key_no (x : Nat) (w : World) (hcall : ∀ w : World, Calls Tryd.prog 12 #[.float .f64 x] w fun e w' => e = .returned (.bool false) ∧ Below w.heap.size w w') :
    Calls Tryd.prog 11 #[.float .f64 x] w fun e w' => e = .returned (.bool false) ∧ Below w.heap.size w w' := by
  have HC := Lib.hid hcall
  clear hcall
  go_enter Tryd.func11, Tryd.ntmps11
  go_wp2_with fail
  refine (HC.out _).mono ?_; rintro e w1 ⟨rfl, hb⟩
  go_wp2
  go_ret
  exact ⟨rfl, hb⟩

set_option maxHeartbeats 400000 in
/-- isInteger says yes, and the word is not below 2^63. -/
theorem key_top (x : Nat) (w : World) (hcall : ∀ w : World, Calls Tryd.prog 12 #[.float .f64 x] w fun e w' => e = .returned (.bool true) ∧ Below w.heap.size w w')
    (o1 : FloatKind.f64.format.order x 4890909195324358656 ≠ some .lt) :
    Calls Tryd.prog 11 #[.float .f64 x] w fun e w' => e = .returned (.bool false) ∧ Below w.heap.size w w' := by
  have HC := Lib.hid hcall
  clear hcall
  go_enter Tryd.func11, Tryd.ntmps11
  go_wp2_with fail
  refine (HC.out _).mono ?_; rintro e w1 ⟨rfl, hb⟩
  go_wp2
  go_ret
  exact ⟨rfl, hb⟩

set_option maxHeartbeats 400000 in
/-- isInteger says yes, below 2^63, not above 0. -/
theorem key_low (x : Nat) (w : World) (hcall : ∀ w : World, Calls Tryd.prog 12 #[.float .f64 x] w fun e w' => e = .returned (.bool true) ∧ Below w.heap.size w w')
    (o1 : FloatKind.f64.format.order x 4890909195324358656 = some .lt) (o2 : FloatKind.f64.format.order x 0 ≠ some .gt) :
    Calls Tryd.prog 11 #[.float .f64 x] w fun e w' => e = .returned (.bool false) ∧ Below w.heap.size w w' := by
  have HC := Lib.hid hcall
  clear hcall
  go_enter Tryd.func11, Tryd.ntmps11
  go_wp2_with fail
  refine (HC.out _).mono ?_; rintro e w1 ⟨rfl, hb⟩
  go_wp2
  go_ret
  exact ⟨rfl, hb⟩

set_option maxHeartbeats 400000 in
/-- isInteger says yes, below 2^63, above 0. -/
theorem key_mid (x : Nat) (w : World) (hc : w.cell? ⟨0, 0, none⟩ = some (.int .i64 67108864)) (hg : 0 < w.heap.size)
    (hcall : ∀ w : World, Calls Tryd.prog 12 #[.float .f64 x] w fun e w' => e = .returned (.bool true) ∧ Below w.heap.size w w')
    (o1 : FloatKind.f64.format.order x 4890909195324358656 = some .lt) (o2 : FloatKind.f64.format.order x 0 = some .gt) (r : Bool)
    (o3 : (FloatKind.f64.format.order x (floatOfInt .f64 67108864) == some .lt) = r) :
    Calls Tryd.prog 11 #[.float .f64 x] w fun e w' => e = .returned (.bool r) ∧ Below w.heap.size w w' := by
  have HC := Lib.hid hcall
  have O3 := Lib.hid o3
  have ck := conv_key
  clear hcall o3
  go_enter Tryd.func11, Tryd.ntmps11
  go_wp2_with fail
  refine (HC.out _).mono ?_; rintro e w1 ⟨rfl, hb⟩
  have hc1 : w1.cell? ⟨0, 0, none⟩ = some (.int .i64 67108864) := (hb.cell (p := ⟨0, 0, none⟩) hg).trans hc
  go_wp2
  go_ret
  exact ⟨congrArg (fun b => Ending.returned (.bool b)) O3.out, hb⟩

set_option maxHeartbeats 400000 in
/-- Out of the range: whatever isInteger says. -/
theorem key_far (x : Nat) (w : World) (hcall : ∀ w : World, Calls Tryd.prog 12 #[.float .f64 x] w (SomeBool w))
    (o : FloatKind.f64.format.order x 4890909195324358656 ≠ some .lt ∨ (FloatKind.f64.format.order x 4890909195324358656 = some .lt ∧ FloatKind.f64.format.order x 0 ≠ some .gt)) :
    Calls Tryd.prog 11 #[.float .f64 x] w fun e w' => e = .returned (.bool false) ∧ Below w.heap.size w w' := by
  have HC := Lib.hid hcall
  clear hcall
  rcases o with o1 | ⟨o1, o2⟩
  all_goals
    go_enter Tryd.func11, Tryd.ntmps11
    go_wp2_with fail
    refine (HC.out _).mono ?_; rintro e w1 ⟨b, rfl, hb⟩
    cases b
    · go_wp2
      go_ret
      exact ⟨rfl, hb⟩
    · go_wp2
      go_ret
      exact ⟨rfl, hb⟩

/-- THE CONTRACT of isArrayKey. -/
theorem key_any (x : Nat) (w : World) (hc : w.cell? ⟨0, 0, none⟩ = some (.int .i64 67108864)) (hg : 0 < w.heap.size) :
    Calls Tryd.prog 11 #[.float .f64 x] w fun e w' => e = .returned (.bool (isKeyB x)) ∧ Below w.heap.size w w' := by
  have hp := Fp.one_pos'
  cases h : Fp.fv x with
  | none =>
    rw [Fp.isKey_none h]
    refine key_no x w fun w => ?_
    have e : isIntB x = false := by unfold isIntB; rw [h]
    have := isInteger_any x (fun v hv => by rw [h] at hv; cases hv) w
    rwa [e] at this
  | some v =>
    by_cases hr : -(9223372036854775808 * (Fp.one : Int)) ≤ v ∧ v < 9223372036854775808 * (Fp.one : Int)
    · have hin : InR x := fun u hu => by rw [h] at hu; cases hu; exact hr
      have hcall := isInteger_any x hin
      cases hb : isIntB x with
      | false =>
        have e : isKeyB x = false := by
          unfold isKeyB
          unfold isIntB at hb
          rw [h] at hb ⊢
          have hb' : (v % (Fp.one : Int) == 0) = false := hb
          show (v % (Fp.one : Int) == 0 && decide (0 < v) && decide (v < 67108864 * (Fp.one : Int))) = false
          rw [hb']; rfl
        rw [e]
        rw [hb] at hcall
        exact key_no x w hcall
      | true =>
        rw [hb] at hcall
        have o1 := Fp.ord_lt h Fp.fv_two63 hr.2
        by_cases h0 : 0 < v
        · refine key_mid x w hc hg hcall o1 (Fp.ord_gt h Fp.fv_zero h0) _ ?_
          rw [Fp.ord h Fp.fv_key]
          unfold isKeyB
          unfold isIntB at hb
          rw [h] at hb ⊢
          have hb' : (v % (Fp.one : Int) == 0) = true := hb
          show _ = (v % (Fp.one : Int) == 0 && decide (0 < v) && decide (v < 67108864 * (Fp.one : Int)))
          rw [hb', decide_eq_true h0, Bool.true_and, Bool.true_and, Bool.eq_iff_iff, beq_iff_eq, Option.some.injEq, Int.compare_eq_lt, decide_eq_true_eq]
        · rw [Fp.isKey_low h (by omega)]
          refine key_low x w hcall o1 ?_
          rw [Fp.ord h Fp.fv_zero, Ne, Option.some.injEq, Int.compare_eq_gt]
          omega
    · have hcall := isInteger_far x v h
      by_cases h0 : 0 < v
      · rw [Fp.isKey_high h (by omega)]
        refine key_far x w hcall (.inl ?_)
        rw [Fp.ord h Fp.fv_two63, Ne, Option.some.injEq, Int.compare_eq_lt]
        omega
      · rw [Fp.isKey_low h (by omega)]
        refine key_far x w hcall (.inr ⟨Fp.ord_lt h Fp.fv_two63 (by omega), ?_⟩)
        rw [Fp.ord h Fp.fv_zero, Ne, Option.some.injEq, Int.compare_eq_gt]
        omega

theorem zzkey_any (x : Nat) (w : World) (hc : w.cell? ⟨0, 0, none⟩ = some (.int .i64 67108864)) (hg : 0 < w.heap.size) :
    Calls Tryd.prog 7 #[.float .f64 x] w fun e w' => e = .returned (.bool (isKeyB x)) ∧ Below w.heap.size w w' := by
  go_enter Tryd.func7, Tryd.ntmps7
  go_wp2_with fail
  refine (key_any x _ hc hg).mono ?_; rintro e w' ⟨rfl, hb⟩
  go_wp2
  go_ret
  exact ⟨rfl, hb⟩

theorem max_any (w : World) (hc : w.cell? ⟨0, 0, none⟩ = some (.int .i64 67108864)) :
    Calls Tryd.prog 6 #[] w fun e w' => e = .returned (.int .i64 67108864) ∧ w = w' := by
  go_enter Tryd.func6, Tryd.ntmps6
  go_wp2
  go_ret
  exact ⟨rfl, rfl⟩

end Go.Proofs.YtekfficjacnefaaDoor
