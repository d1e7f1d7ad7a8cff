/- The contracts of the instruction word's getters. -/
import Derived.Test.YtekfficjacnefabRows
import Derived.Test.YtekfficjacnefabFields
import Derived.WalkKit
import Derived.WalkSpells
import Derived.WalkLawsBesides
namespace Go.Proofs.Ytekfficjacnefab
open Go.RowKit
set_option linter.unusedVariables false

set_option maxHeartbeats 400000 in
theorem getA_any (x : Int) (w : World) (hw : Fld.W32 x) :
    Calls Try.prog 20 #[.int .u32 x] w fun e w' => e = .returned (.int .i64 (x / 262144 % 256)) ∧ w = w' := by
  have h := Fld.and255 (x / 262144)
  obtain ⟨h1, h2⟩ := hw
  go_enter Try.func20, Try.ntmps20
  go_wp2
  go_ret
  exact ⟨by rw [← h]; rfl, rfl⟩

set_option maxHeartbeats 400000 in
theorem getOp_any (x : Int) (w : World) (hw : Fld.W32 x) :
    Calls Try.prog 21 #[.int .u32 x] w fun e w' => e = .returned (.int .i64 (x / 67108864)) ∧ w = w' := by
  obtain ⟨h1, h2⟩ := hw
  go_enter Try.func21, Try.ntmps21
  go_wp2
  go_ret
  exact ⟨rfl, rfl⟩
end Go.Proofs.Ytekfficjacnefab
