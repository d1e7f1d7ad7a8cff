/- The contracts of SetSp, Clear and of the n005_11 exports over a fixed stack. -/
import Derived.Test.YtkmojdjnpiljaaaStk
namespace Go.Proofs.Ytkmojdjnpiljaaa
open Go.RowKit
set_option linter.unusedVariables false

set_option maxHeartbeats 400000 in
theorem setSp_any (A B n : Nat) (sp k : Int) (arr : Array Value) (w : World) (h : Stk w A B n sp arr) :
    Calls Try.prog 11 #[.pointer (some ⟨B, 0, none⟩), .int .i64 k] w fun e w' => e = .returned (.tuple #[]) ∧ w.setCell ⟨B, 1, none⟩ (.int .i64 k) = w' := by
  have h1 := h.b1
  have h2 := h.fb 1
  clear h
  go_enter Try.func11, Try.ntmps11
  go_wp2
  go_end0
  exact ⟨rfl, rfl⟩

set_option maxHeartbeats 400000 in
theorem clear_any (A B n : Nat) (sp : Int) (arr : Array Value) (w : World) (h : Stk w A B n sp arr) :
    Calls Try.prog 17 #[.pointer (some ⟨B, 0, none⟩)] w fun e w' => e = .returned (.tuple #[]) ∧ w.setCell ⟨B, 1, none⟩ (.int .i64 0) = w' := by
  have h1 := h.b1
  have h2 := h.fb 1
  clear h
  go_enter Try.func17, Try.ntmps17
  go_wp2
  go_end0
  exact ⟨rfl, rfl⟩

end Go.Proofs.Ytkmojdjnpiljaaa
