/- The walk of FnIsArrayKeyOnIntegers. -/
import Derived.Test.YtekfficjacnefaaDoorArrayKeyWalk
namespace Go.Proofs.YtekfficjacnefaaDoor.fnIsArrayKeyOnIntegers
open Go.RowKit Ieee
set_option linter.unusedVariables false

set_option maxHeartbeats 400000 in
theorem walk (a0 : Int) (w : World) (w0 : (Lit.int .i64 a0).wf = true) (hc : w.cell? ⟨0, 0, none⟩ = some (.int .i64 67108864)) (hg : 0 < w.heap.size) :
    Calls Tryd.prog 3 #[.int .i64 a0] w fun e w' => e = .returned (.bool true) ∧ Below w.heap.size w w' := by
  have hb : -9223372036854775808 ≤ a0 ∧ a0 ≤ 9223372036854775807 := by simpa [Lit.wf, IntKind.min, IntKind.max, IntKind.signed, IntKind.bits] using w0
  have hk := Fp.isKey_ofInt a0 hb.1 hb.2
  have c0 : ∀ w : World, (convert 2 25 (.int .i64 a0)).run Tryd.prog w = .ok (.float .f64 (floatOfInt .f64 a0)) w := fun w =>
    run_convert_int_float w 2 25 .i64 .f64 a0 (by rw [Tryd.underlying2]; rfl) Tryd.underlying25
  generalize floatOfInt .f64 a0 = x at *
  clear hb w0
  by_cases h1 : 1 ≤ a0
  · by_cases h2 : a0 < 67108864
    · have hk' : isKeyB x = true := by rw [hk]; simp [h1, h2]
      clear hk
      go_enter Tryd.func3, Tryd.ntmps3
      go_wp2_with fail
      refine (max_any _ hc).mono ?_; rintro e w1 ⟨rfl, rfl⟩
      go_wp2_with fail
      refine (zzkey_any x _ hc hg).mono ?_; rintro e w1 ⟨rfl, hb⟩
      go_wp2
      go_ret
      exact ⟨rfl, hb⟩
    · have hk' : isKeyB x = false := by rw [hk]; simp [h2]
      have h2' : decide (a0 < 67108864) = false := by simp [h2]
      clear hk
      go_enter Tryd.func3, Tryd.ntmps3
      go_wp2_with fail
      refine (max_any _ hc).mono ?_; rintro e w1 ⟨rfl, rfl⟩
      go_wp2_with fail
      refine (zzkey_any x _ hc hg).mono ?_; rintro e w1 ⟨rfl, hb⟩
      go_wp2
      go_ret
      exact ⟨rfl, hb⟩
  · have hk' : isKeyB x = false := by rw [hk]; simp [h1]
    clear hk
    go_enter Tryd.func3, Tryd.ntmps3
    go_wp2_with fail
    refine (max_any _ hc).mono ?_; rintro e w1 ⟨rfl, rfl⟩
    go_wp2_with fail
    refine (zzkey_any x _ hc hg).mono ?_; rintro e w1 ⟨rfl, hb⟩
    go_wp2
    go_ret
    exact ⟨rfl, hb⟩

end Go.Proofs.YtekfficjacnefaaDoor.fnIsArrayKeyOnIntegers
