/- The walk of FnValueTypeStringTable. -/
import Derived.Test.YtekfficjacnefaaDoorRows
import Derived.WalkKit
import Derived.WalkSpells
import Derived.WalkLawsBesides
namespace Go.Proofs.YtekfficjacnefaaDoor.fnValueTypeStringTable
open Go.RowKit
set_option linter.unusedVariables false

/-- The nine names. -/
def names : List (List UInt8) := [[110, 105, 108], [98, 111, 111, 108, 101, 97, 110], [110, 117, 109, 98, 101, 114], [115, 116, 114, 105, 110, 103], [102, 117, 110, 99, 116, 105, 111, 110], [117, 115, 101, 114, 100, 97, 116, 97], [116, 104, 114, 101, 97, 100], [116, 97, 98, 108, 101], [99, 104, 97, 110, 110, 101, 108]]

set_option maxHeartbeats 1000000 in
theorem walk (a0 : Int) (w : World) (w0 : (Lit.int .i64 a0).wf = true) (hc : ∀ (i : Nat) (s : List UInt8), names[i]? = some s → w.cell? ⟨1, i, none⟩ = some (.string ⟨s.toArray⟩)) (hg : 1 < w.heap.size) :
    Calls Tryd.prog 4 #[.int .i64 a0] w fun e w' => e = .returned (.bool true) ∧ Below w.heap.size w w' := by
  by_cases h1 : a0 < 0
  · clear hc
    go_enter Tryd.func4, Tryd.ntmps4
    go_wp2
    go_ret
    exact ⟨rfl, Below.refl _ _⟩
  by_cases h2 : 8 < a0
  · clear hc
    go_enter Tryd.func4, Tryd.ntmps4
    go_wp2
    go_ret
    exact ⟨rfl, Below.refl _ _⟩
  have c0 := hc 0 _ rfl
  have c1 := hc 1 _ rfl
  have c2 := hc 2 _ rfl
  have c3 := hc 3 _ rfl
  have c4 := hc 4 _ rfl
  have c5 := hc 5 _ rfl
  have c6 := hc 6 _ rfl
  have c7 := hc 7 _ rfl
  have c8 := hc 8 _ rfl
  clear hc
  have h : a0 = 0 ∨ a0 = 1 ∨ a0 = 2 ∨ a0 = 3 ∨ a0 = 4 ∨ a0 = 5 ∨ a0 = 6 ∨ a0 = 7 ∨ a0 = 8 := by omega
  clear h1 h2 w0
  rcases h with rfl | rfl | rfl | rfl | rfl | rfl | rfl | rfl | rfl
  all_goals
    go_enter Tryd.func4, Tryd.ntmps4
    go_wp2
    go_ret
    exact ⟨rfl, Below.refl _ _⟩

end Go.Proofs.YtekfficjacnefaaDoor.fnValueTypeStringTable
