/- The contract of the export that makes a fixed stack. -/
import Derived.Test.YtgdobbebabjafaaStkNew
namespace Go.Proofs.Ytgdobbebabjafaa
open Go.RowKit
set_option linter.unusedVariables false

theorem zznew_any (n : Nat) (hn : n ≤ 131072) (w : World) :
    Calls Try.prog 24 #[.int .i64 n] w fun e w' => e = .returned (.pointer (some ⟨w.heap.size + 1, 0, none⟩)) ∧ Fresh w n w' := by
  have ht := ta_stack
  go_enter Try.func24, Try.ntmps24
  go_wp2_with fail
  refine (new_any n hn _).mono ?_; rintro e w' ⟨rfl, hf⟩
  go_wp2
  go_ret
  exact ⟨rfl, hf⟩

end Go.Proofs.Ytgdobbebabjafaa
