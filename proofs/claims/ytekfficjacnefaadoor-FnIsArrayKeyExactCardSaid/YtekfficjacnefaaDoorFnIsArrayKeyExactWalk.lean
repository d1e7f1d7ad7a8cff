/- The walk of FnIsArrayKeyExact. -/
import Derived.Test.YtekfficjacnefaaDoorArrayKeyWalk
import Derived.Test.YtekfficjacnefaaDoorHalvingWalk
namespace Go.Proofs.YtekfficjacnefaaDoor.fnIsArrayKeyExact
open Go.RowKit Ieee
set_option linter.unusedVariables false

set_option maxHeartbeats 400000 in
/-- The bounds say no. -/
theorem out_any (a0 : Nat) (w : World) (hc : w.cell? ⟨0, 0, none⟩ = some (.int .i64 67108864)) (hg : 0 < w.heap.size)
    (hk : isKeyB a0 = false)
    (o : (FloatKind.f64.format.order a0 4607182418800017408 = some .lt ∨ FloatKind.f64.format.order a0 4607182418800017408 = none) ∨
      ((FloatKind.f64.format.order a0 4607182418800017408 = some .gt ∨ FloatKind.f64.format.order a0 4607182418800017408 = some .eq) ∧ (FloatKind.f64.format.order a0 4724276008977432576 = some .gt))) :
    Calls Tryd.prog 5 #[.float .f64 a0] w fun e w' => e = .returned (.bool true) ∧ Below w.heap.size w w' := by
  have c3 := conv_num
  rcases o with (o | o) | ⟨o | o, o'⟩
  all_goals
    go_enter Tryd.func5, Tryd.ntmps5
    go_wp2_with fail
    refine (max_any _ hc).mono ?_; rintro e w1 ⟨rfl, rfl⟩
    go_wp2_with fail
    refine (zzkey_any a0 _ hc hg).mono ?_; rintro e w1 ⟨rfl, hb⟩
    go_wp2
    go_ret
    exact ⟨rfl, hb⟩

set_option maxHeartbeats 400000 in
/-- Within the bounds. -/
theorem in_any (a0 : Nat) (w : World) (hc : w.cell? ⟨0, 0, none⟩ = some (.int .i64 67108864)) (hg : 0 < w.heap.size)
    (hk : isKeyB a0 = isIntB a0)
    (o1 : FloatKind.f64.format.order a0 4607182418800017408 = some .gt ∨ FloatKind.f64.format.order a0 4607182418800017408 = some .eq)
    (o2 : FloatKind.f64.format.order a0 4724276008977432576 = some .lt ∨ FloatKind.f64.format.order a0 4724276008977432576 = some .eq) :
    Calls Tryd.prog 5 #[.float .f64 a0] w fun e w' => e = .returned (.bool true) ∧ Below w.heap.size w w' := by
  have c3 := conv_num
  rcases o1 with o1 | o1 <;> rcases o2 with o2 | o2
  all_goals
    go_enter Tryd.func5, Tryd.ntmps5
    go_wp2_with fail
    refine (max_any _ hc).mono ?_; rintro e w1 ⟨rfl, rfl⟩
    go_wp2_with fail
    refine (halving_any a0 _).mono ?_; rintro e w1 ⟨rfl, hb⟩
    have hc1 : w1.cell? ⟨0, 0, none⟩ = some (.int .i64 67108864) := (hb.cell (p := ⟨0, 0, none⟩) hg).trans hc
    go_wp2_with fail
    refine (zzkey_any a0 _ hc1 (Nat.lt_of_lt_of_le hg hb.size)).mono ?_; rintro e w2 ⟨rfl, hb2⟩
    go_wp2
    go_ret
    exact ⟨rfl, hb.trans (hb2.mono hb.size)⟩

theorem walk (a0 : Nat) (w : World) (w0 : (Lit.float .f64 a0).wf = true) (hc : w.cell? ⟨0, 0, none⟩ = some (.int .i64 67108864)) (hg : 0 < w.heap.size) :
    Calls Tryd.prog 5 #[.float .f64 a0] w fun e w' => e = .returned (.bool true) ∧ Below w.heap.size w w' := by
  cases h : Fp.fv a0 with
  | none =>
    refine out_any a0 w hc hg (Fp.isKey_none h) ?_
    rcases Fp.fv_none h with ⟨s, hs⟩ | ⟨s, t, hs⟩
    · have h1 : double.read 4607182418800017408 = .number false 4503599627370496 (-52) := by decide
      have h2 : double.read 4724276008977432576 = .number false 9007199120523264 (-27) := by decide
      cases s with
      | true =>
        refine .inl (.inl ?_)
        show double.order a0 _ = _
        unfold Format.order
        rw [hs, h1]; rfl
      | false =>
        refine .inr ⟨.inl ?_, ?_⟩
        · show double.order a0 _ = _
          unfold Format.order
          rw [hs, h1]; rfl
        · show double.order a0 _ = _
          unfold Format.order
          rw [hs, h2]; rfl
    · exact .inl (.inr (Fp.ord_nan hs _))
  | some v =>
    by_cases h1 : v < (Fp.one : Int)
    · exact out_any a0 w hc hg (Fp.isKey_low h h1) (.inl (.inl (Fp.ord_lt h Fp.fv_one h1)))
    · have o1 : FloatKind.f64.format.order a0 4607182418800017408 = some .gt ∨ FloatKind.f64.format.order a0 4607182418800017408 = some .eq := by
        by_cases h2 : v = (Fp.one : Int)
        · exact .inr (Fp.ord_eq h Fp.fv_one h2)
        · exact .inl (Fp.ord_gt h Fp.fv_one (by omega))
      by_cases h3 : 67108863 * (Fp.one : Int) < v
      · exact out_any a0 w hc hg (Fp.isKey_high h h3) (.inr ⟨o1, Fp.ord_gt h Fp.fv_keymax h3⟩)
      · refine in_any a0 w hc hg (Fp.isKey_mid h (by omega) (by omega)) o1 ?_
        by_cases h2 : v = 67108863 * (Fp.one : Int)
        · exact .inr (Fp.ord_eq h Fp.fv_keymax h2)
        · exact .inl (Fp.ord_lt h Fp.fv_keymax (by omega))

end Go.Proofs.YtekfficjacnefaaDoor.fnIsArrayKeyExact
