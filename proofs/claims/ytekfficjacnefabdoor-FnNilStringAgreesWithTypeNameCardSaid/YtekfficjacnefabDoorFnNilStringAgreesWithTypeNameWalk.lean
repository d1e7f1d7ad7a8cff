/- The walk of FnNilStringAgreesWithTypeName. -/
import Derived.Test.YtekfficjacnefabDoorRows
import Derived.WalkKit
import Derived.WalkSpells
import Derived.WalkLawsBesides
namespace Go.Proofs.YtekfficjacnefabDoor.fnNilStringAgreesWithTypeName
open Go.RowKit
set_option linter.unusedVariables false

/-- The nine names. -/
def names : List (List UInt8) := [[110, 105, 108], [98, 111, 111, 108, 101, 97, 110], [110, 117, 109, 98, 101, 114], [115, 116, 114, 105, 110, 103], [102, 117, 110, 99, 116, 105, 111, 110], [117, 115, 101, 114, 100, 97, 116, 97], [116, 104, 114, 101, 97, 100], [116, 97, 98, 108, 101], [99, 104, 97, 110, 110, 101, 108]]

set_option maxHeartbeats 1000000 in
theorem walk (a0 : Bool) (w : World) (hc : ∀ (i : Nat) (s : List UInt8), names[i]? = some s → w.cell? ⟨0, i, none⟩ = some (.string ⟨s.toArray⟩)) (hg : 0 < w.heap.size) :
    Calls Tryd.prog 3 #[.bool a0] w fun e w' => e = .returned (.bool true) ∧ Below w.heap.size w w' := by
  have c0 := hc 0 _ rfl
  clear hc
  cases a0
  · go_enter Tryd.func3, Tryd.ntmps3
    go_wp2
    go_ret
    exact ⟨rfl, by repeat (first | exact Below.refl _ _ | apply Below.drew | (refine Below.alloc ?_ (Nat.le_refl _) _))⟩
  · go_enter Tryd.func3, Tryd.ntmps3
    go_wp2
    go_ret
    exact ⟨rfl, by repeat (first | exact Below.refl _ _ | apply Below.drew | (refine Below.alloc ?_ (Nat.le_refl _) _))⟩

end Go.Proofs.YtekfficjacnefabDoor.fnNilStringAgreesWithTypeName
