/- The walk of FnGetArgAOfComposedInstruction. -/
import Derived.Test.YtekfficjacnefabFldGet
import Derived.Lib.Hide
namespace Go.Proofs.Ytekfficjacnefab.fnGetArgAOfComposedInstruction
open Go.RowKit
set_option linter.unusedVariables false

theorem zzA_any (x : Int) (w : World) (hw : Fld.W32 x) :
    Calls Try.prog 7 #[.int .u32 x] w fun e w' => e = .returned (.int .i64 (x / 262144 % 256)) ∧ w = w' := by
  go_enter Try.func7, Try.ntmps7
  go_wp2_with fail
  refine (getA_any x _ hw).mono ?_; rintro e w' ⟨rfl, rfl⟩
  go_wp2
  go_ret
  exact ⟨rfl, rfl⟩
theorem zzOp_any (x : Int) (w : World) (hw : Fld.W32 x) :
    Calls Try.prog 8 #[.int .u32 x] w fun e w' => e = .returned (.int .i64 (x / 67108864)) ∧ w = w' := by
  go_enter Try.func8, Try.ntmps8
  go_wp2_with fail
  refine (getOp_any x _ hw).mono ?_; rintro e w' ⟨rfl, rfl⟩
  go_wp2
  go_ret
  exact ⟨rfl, rfl⟩

set_option maxHeartbeats 400000 in
theorem walk (a0 : Int) (a1 : Int) (a2 : Int) (w : World) (w0 : (Lit.int .u32 a0).wf = true) (w1 : (Lit.int .u32 a1).wf = true) (w2 : (Lit.int .u32 a2).wf = true) :
    Calls Try.prog 3 #[.int .u32 a0, .int .u32 a1, .int .u32 a2] w fun e w' => e = .returned (.bool true) ∧ Below w.heap.size w w' := by
  have h0 : 0 ≤ a0 ∧ a0 ≤ 4294967295 := by simpa [Lit.wf, IntKind.min, IntKind.max, IntKind.signed, IntKind.bits] using w0
  have h1 : 0 ≤ a1 ∧ a1 ≤ 4294967295 := by simpa [Lit.wf, IntKind.min, IntKind.max, IntKind.signed, IntKind.bits] using w1
  have h2 : 0 ≤ a2 ∧ a2 ≤ 4294967295 := by simpa [Lit.wf, IntKind.min, IntKind.max, IntKind.signed, IntKind.bits] using w2
  clear w0 w1 w2
  obtain ⟨h01, h02⟩ := h0
  obtain ⟨h11, h12⟩ := h1
  obtain ⟨h21, h22⟩ := h2
  have hw : Fld.W32 (a0 % 64 * 67108864 + a1 % 256 * 262144 + a2 % 262144) := by unfold Fld.W32; omega
  have c1 : ∀ w : World, Calls Try.prog 7 #[.int .u32 (a0 % 64 * 67108864 + a1 % 256 * 262144 + a2 % 262144)] w fun e w' => e = .returned (.int .i64 (a1 % 256)) ∧ w = w' := fun w => by
    have h := zzA_any _ w hw
    rwa [show (a0 % 64 * 67108864 + a1 % 256 * 262144 + a2 % 262144) / 262144 % 256 = a1 % 256 by omega] at h
  have c2 : ∀ w : World, Calls Try.prog 8 #[.int .u32 (a0 % 64 * 67108864 + a1 % 256 * 262144 + a2 % 262144)] w fun e w' => e = .returned (.int .i64 (a0 % 64)) ∧ w = w' := fun w => by
    have h := zzOp_any _ w hw
    rwa [show (a0 % 64 * 67108864 + a1 % 256 * 262144 + a2 % 262144) / 67108864 = a0 % 64 by omega] at h
  have C1 := Lib.hid c1
  have C2 := Lib.hid c2
  clear c1 c2
  go_enter Try.func3, Try.ntmps3
  go_wp2_with fail
  refine (C1.out _).mono ?_; rintro e w' ⟨rfl, rfl⟩
  go_wp2_with fail
  refine (C2.out _).mono ?_; rintro e w' ⟨rfl, rfl⟩
  go_wp2
  go_ret
  exact ⟨rfl, Below.refl _ _⟩
end Go.Proofs.Ytekfficjacnefab.fnGetArgAOfComposedInstruction
