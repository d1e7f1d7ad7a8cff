/- The contract of integralByHalving: for every word it answers isIntB. Function 7 of this seat's translation. -/
import Derived.Test.YtekfficjacnefaaDoorIsIntWalk
import Derived.Test.YtekfficjacnefaaDoorHalving
namespace Go.Proofs.YtekfficjacnefaaDoor
open Go.RowKit Ieee
set_option linter.unusedVariables false

theorem run_neg (b : Nat) (w : World) : (Op.unary .neg (.float .f64 b)).run Tryd.prog w = .ok (.float .f64 (b ^^^ 9223372036854775808)) w := rfl

def bitsOf : Value → Nat
  | .float _ b => b
  | _ => 0

/-- How the absolute value is taken. -/
def AbsOf (x y : Nat) : Prop :=
  (FloatKind.f64.format.order x 0 = some .lt ∧ y = x ^^^ 9223372036854775808) ∨
  ((FloatKind.f64.format.order x 0 = some .gt ∨ FloatKind.f64.format.order x 0 = some .eq ∨ FloatKind.f64.format.order x 0 = none) ∧ y = x)

theorem absOf_fin {x : Nat} {v : Int} (hx : Fp.fv x = some v) : ∃ y, AbsOf x y ∧ Fp.fv y = some (v.natAbs : Int) := by
  by_cases h : v < 0
  · refine ⟨_, .inl ⟨Fp.ord_lt hx Fp.fv_zero h, rfl⟩, ?_⟩
    show Fp.fv (x ^^^ 2 ^ 63) = _
    rw [Fp.fv_neg hx]
    congr 1
    omega
  · refine ⟨x, .inr ⟨?_, rfl⟩, ?_⟩
    · by_cases h0 : v = 0
      · exact .inr (.inl (Fp.ord_eq hx Fp.fv_zero h0))
      · exact .inl (Fp.ord_gt hx Fp.fv_zero (by omega))
    · rw [hx]; congr 1; omega

set_option maxHeartbeats 1000000 in
/-- A magnitude below 2^52. -/
theorem halving_small (x y V : Nat) (w : World) (ha : AbsOf x y) (hy : Fp.fv y = some (V : Int)) (hr : Fp.Rep V) (hV : V < 2 ^ 52 * Fp.one) :
    Calls Tryd.prog 10 #[.float .f64 x] w fun e w' => e = .returned (.bool (V % Fp.one == 0)) ∧ Below w.heap.size w w' := by
  have e1 := Fp.ord_eq hy hy rfl
  obtain ⟨r0, hr0, fr0⟩ := Fp.sub_self hy
  have e2 : ∀ w : World, (binOp .sub 24 (.float .f64 y) (.float .f64 y)).run Tryd.prog w = .ok (.float .f64 r0) w := fun w => run_float_arith w .sub 24 .f64 y y r0 hr0
  have e3 := Fp.ord_eq fr0 Fp.fv_zero rfl
  have e4 := Fp.ord_lt hy Fp.fv_two52 (by exact_mod_cast hV)
  have c4 := run_neg
  have hq : ∀ j, j < 53 → ∀ w : World, (binOp .quo 24 (.float .f64 (Fp.pw (j + 1))) (.float .f64 4611686018427387904)).run Tryd.prog w = .ok (.float .f64 (Fp.pw j)) w := fun j hj w => run_float_arith w .quo 24 .f64 _ _ _ (Fp.half_pw j hj)
  have HQ := Lib.hid hq
  have hs0 : V % 2 ^ (Fp.pl + 53) = V := Fp.mod_start hV
  have HS := Lib.hid hs0
  have HY := Lib.hid hy
  have HV := Lib.hid hr
  have p53 : (Value.float FloatKind.f64 4841369599423283200) = .float .f64 (Fp.pw 53) := by
    have : Fp.pw 53 = 4841369599423283200 := by decide
    rw [this]
  have HP := Lib.hid p53
  clear hq hs0 hr0 fr0 hy hr hV p53
  rcases ha with ⟨a1, rfl⟩ | ⟨a1 | a1 | a1, rfl⟩
  all_goals
    go_enter Tryd.func10, Tryd.ntmps10
    go_wp2
    rw [HP.out]
    go_loop [3, 4] (fun a b => ∃ (j yw : Nat), j ≤ 53 ∧ Fp.fv yw = some ((V % 2 ^ (Fp.pl + j) : Nat) : Int) ∧ a = .float .f64 yw ∧ b = .float .f64 (Fp.pw j)) (fun _ b => bitsOf b)
    case atStart => exact ⟨53, _, by omega, by rw [HS.out]; exact HY.out, rfl, rfl⟩
    case round =>
      obtain ⟨j, yw, hj, hy, rfl, rfl⟩ := hrel
      cases j with
      | zero =>
        have g := Fp.pw_lt
        have hfin : (FloatKind.f64.format.order yw 0 == some .eq) = (V % Fp.one == 0) := by
          rw [Fp.pow_pl0] at hy
          rw [Fp.ord hy Fp.fv_zero, Bool.eq_iff_iff, beq_iff_eq, beq_iff_eq, Option.some.injEq, Int.compare_eq_eq]
          omega
        have HF := Lib.hid hfin
        clear hfin hy
        go_wp2
        go_ret
        exact ⟨congrArg (fun b => Ending.returned (.bool b)) HF.out, Below.refl _ _⟩
      | succ i =>
        have g := Fp.pw_ge i (by omega)
        have q1 := HQ.out i (by omega)
        by_cases h : V % 2 ^ (Fp.pl + i + 1) < 2 ^ (Fp.pl + i)
        · obtain ⟨l1, l2⟩ := Fp.step_low (by omega) hy h
          have L2 := Lib.hid l2
          clear l2 hy h
          rcases g with g | g
          all_goals
            go_wp2
            go_round
            case rel => exact ⟨i, yw, by omega, L2.out, rfl, rfl⟩
            case measure => simp only [bitsOf, Fp.pw]; omega
        · obtain ⟨l1, r, hr, l2⟩ := Fp.step_high HV.out (by omega) hy (by omega)
          have s1 : ∀ w : World, (binOp .sub 24 (.float .f64 yw) (.float .f64 (Fp.pw (i + 1)))).run Tryd.prog w = .ok (.float .f64 r) w := fun w => run_float_arith w .sub 24 .f64 _ _ r hr
          have L2 := Lib.hid l2
          clear l2 hy h hr
          rcases g with g | g <;> rcases l1 with l1 | l1
          all_goals
            go_wp2
            go_round
            case rel => exact ⟨i, r, by omega, L2.out, rfl, rfl⟩
            case measure => simp only [bitsOf, Fp.pw]; omega

set_option maxHeartbeats 1000000 in
/-- A magnitude of 2^52 or more. -/
theorem halving_big (x y V : Nat) (w : World) (ha : AbsOf x y) (hy : Fp.fv y = some (V : Int)) (hV : 2 ^ 52 * Fp.one ≤ V) :
    Calls Tryd.prog 10 #[.float .f64 x] w fun e w' => e = .returned (.bool true) ∧ Below w.heap.size w w' := by
  have e1 := Fp.ord_eq hy hy rfl
  obtain ⟨r0, hr0, fr0⟩ := Fp.sub_self hy
  have e2 : ∀ w : World, (binOp .sub 24 (.float .f64 y) (.float .f64 y)).run Tryd.prog w = .ok (.float .f64 r0) w := fun w => run_float_arith w .sub 24 .f64 y y r0 hr0
  have e3 := Fp.ord_eq fr0 Fp.fv_zero rfl
  have e4 : FloatKind.f64.format.order y 4841369599423283200 = some .gt ∨ FloatKind.f64.format.order y 4841369599423283200 = some .eq := by
    rcases Nat.lt_or_eq_of_le hV with h1 | h1
    · exact .inl (Fp.ord_gt hy Fp.fv_two52 (by exact_mod_cast h1))
    · exact .inr (Fp.ord_eq hy Fp.fv_two52 (by exact_mod_cast h1.symm))
  have c4 := run_neg
  clear hr0 fr0 hy hV
  rcases ha with ⟨a1, rfl⟩ | ⟨a1 | a1 | a1, rfl⟩ <;> rcases e4 with e4 | e4
  all_goals
    go_enter Tryd.func10, Tryd.ntmps10
    go_wp2
    go_ret
    exact ⟨rfl, Below.refl _ _⟩

set_option maxHeartbeats 1000000 in
theorem halving_nan (x : Nat) (w : World) (e1 : ∀ y, FloatKind.f64.format.order x y = none) :
    Calls Tryd.prog 10 #[.float .f64 x] w fun e w' => e = .returned (.bool false) ∧ Below w.heap.size w w' := by
  have a1 := e1 0
  have a2 := e1 x
  clear e1
  go_enter Tryd.func10, Tryd.ntmps10
  go_wp2
  go_ret
  exact ⟨rfl, Below.refl _ _⟩

set_option maxHeartbeats 1000000 in
theorem halving_inf (x y r : Nat) (w : World) (ha : AbsOf x y) (e1 : FloatKind.f64.format.order y y = some .eq)
    (e2 : (binOp .sub 24 (.float .f64 y) (.float .f64 y)).run Tryd.prog w = .ok (.float .f64 r) w.drew) (e3 : FloatKind.f64.format.order r 0 = none) :
    Calls Tryd.prog 10 #[.float .f64 x] w fun e w' => e = .returned (.bool false) ∧ Below w.heap.size w w' := by
  have c4 := run_neg
  rcases ha with ⟨a1, rfl⟩ | ⟨a1 | a1 | a1, rfl⟩
  all_goals
    go_enter Tryd.func10, Tryd.ntmps10
    go_wp2
    go_ret
    exact ⟨rfl, (Below.refl _ _).drew⟩

theorem absOf_inf {x : Nat} {s : Bool} (hx : double.read x = .infinity s) : ∃ y s', AbsOf x y ∧ double.read y = .infinity s' := by
  have h0 : double.read 0 = .number false 0 (-1074) := by decide
  cases s with
  | true =>
    refine ⟨_, false, .inl ⟨?_, rfl⟩, ?_⟩
    · show double.order x 0 = _
      unfold Format.order
      rw [hx, h0]; rfl
    · show double.read (x ^^^ 2 ^ 63) = _
      rw [Fp.read_neg, hx]; rfl
  | false =>
    refine ⟨x, false, .inr ⟨.inl ?_, rfl⟩, hx⟩
    show double.order x 0 = _
    unfold Format.order
    rw [hx, h0]; rfl

/-- THE CONTRACT. -/
theorem halving_any (x : Nat) (w : World) :
    Calls Tryd.prog 10 #[.float .f64 x] w fun e w' => e = .returned (.bool (isIntB x)) ∧ Below w.heap.size w w' := by
  cases h : Fp.fv x with
  | none =>
    have e : isIntB x = false := by unfold isIntB; rw [h]
    rw [e]
    rcases Fp.fv_none h with ⟨s, hs⟩ | ⟨s, t, hs⟩
    · obtain ⟨y, s', ha, hy⟩ := absOf_inf hs
      obtain ⟨r, e2, e3⟩ := run_sub_inf (P := Tryd.prog) w 24 hy
      exact halving_inf x y r w ha (Fp.ord_inf hy) e2 (e3 0)
    · exact halving_nan x w (Fp.ord_nan hs)
  | some v =>
    obtain ⟨y, ha, hy⟩ := absOf_fin h
    have hr := Fp.fv_rep h
    rw [Fp.isIntB_abs h]
    by_cases hb : v.natAbs < 2 ^ 52 * Fp.one
    · exact halving_small x y v.natAbs w ha hy hr hb
    · have := Fp.whole_of_big hr (by omega)
      rw [this]
      exact halving_big x y v.natAbs w ha hy (by omega)

end Go.Proofs.YtekfficjacnefaaDoor
