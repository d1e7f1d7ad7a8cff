/- The walk of FnTypeTagNameAgrees. -/
import Derived.Test.YtekfficjacnefabDoorRows
import Derived.WalkKit
import Derived.WalkSpells
import Derived.WalkLawsBesides
namespace Go.Proofs.YtekfficjacnefabDoor.fnTypeTagNameAgrees
open Go.RowKit
set_option linter.unusedVariables false

/-- The nine names. -/
def names : List (List UInt8) := [[110, 105, 108], [98, 111, 111, 108, 101, 97, 110], [110, 117, 109, 98, 101, 114], [115, 116, 114, 105, 110, 103], [102, 117, 110, 99, 116, 105, 111, 110], [117, 115, 101, 114, 100, 97, 116, 97], [116, 104, 114, 101, 97, 100], [116, 97, 98, 108, 101], [99, 104, 97, 110, 110, 101, 108]]

set_option maxHeartbeats 1000000 in
theorem bytes_no (a0 : Int) (a1 : Bool) (a2 : ByteArray) (a3 : Nat) (w : World) (h : 1048576 < a2.size) (w2 : a2.size ≤ maxLen) :
    Calls Tryd.prog 8 #[.int .i64 a0, .bool a1, .string a2, .float .f64 a3] w fun e w' => e = .returned (.bool false) ∧ w = w' := by
  unfold maxLen at w2
  go_enter Tryd.func8, Tryd.ntmps8
  go_wp2
  go_ret
  exact ⟨rfl, rfl⟩
set_option maxHeartbeats 1000000 in
theorem bytes_yes (a0 : Int) (a1 : Bool) (a2 : ByteArray) (a3 : Nat) (w : World) (h : a2.size ≤ 1048576) :
    Calls Tryd.prog 8 #[.int .i64 a0, .bool a1, .string a2, .float .f64 a3] w fun e w' => e = .returned (.bool true) ∧ w = w' := by
  go_enter Tryd.func8, Tryd.ntmps8
  go_wp2
  go_ret
  exact ⟨rfl, rfl⟩

set_option maxHeartbeats 2000000 in
theorem walk (a0 : Int) (a1 : Bool) (a2 : ByteArray) (a3 : Nat) (w : World) (w0 : (Lit.int .i64 a0).wf = true) (w2 : a2.size ≤ maxLen) (w3 : (Lit.float .f64 a3).wf = true) (hc : ∀ (i : Nat) (s : List UInt8), names[i]? = some s → w.cell? ⟨0, i, none⟩ = some (.string ⟨s.toArray⟩)) (hg : 0 < w.heap.size) :
    Calls Tryd.prog 4 #[.int .i64 a0, .bool a1, .string a2, .float .f64 a3] w fun e w' => e = .returned (.bool true) ∧ Below w.heap.size w w' := by
  by_cases h : 1048576 < a2.size
  · clear hc
    go_enter Tryd.func4, Tryd.ntmps4
    go_wp2_with fail
    refine (bytes_no a0 a1 a2 a3 _ h w2).mono ?_; rintro e w1 ⟨rfl, rfl⟩
    go_wp2
    go_ret
    exact ⟨rfl, Below.refl _ _⟩
  have h' : a2.size ≤ 1048576 := by omega
  have c0 := hc 0 _ rfl
  have c1 := hc 1 _ rfl
  have c2 := hc 2 _ rfl
  have c3 := hc 3 _ rfl
  have c4 := hc 4 _ rfl
  have c5 := hc 5 _ rfl
  have c7 := hc 7 _ rfl
  clear hc h w2 w3 w0
  by_cases hk : 0 ≤ a0 ∧ a0 ≤ 6
  · have h : a0 = 0 ∨ a0 = 1 ∨ a0 = 2 ∨ a0 = 3 ∨ a0 = 4 ∨ a0 = 5 ∨ a0 = 6 := by omega
    clear hk
    rcases h with rfl | rfl | rfl | rfl | rfl | rfl | rfl
    all_goals
      go_enter Tryd.func4, Tryd.ntmps4
      go_wp2_with fail
      refine (bytes_yes _ a1 a2 a3 _ h').mono ?_; rintro e w1 ⟨rfl, rfl⟩
      go_wp2
      go_ret
      exact ⟨rfl, by repeat (first | exact Below.refl _ _ | apply Below.drew | (refine Below.alloc ?_ (Nat.le_refl _) _))⟩
  · have k0 : (a0 == 0) = false := by simp; omega
    have k1 : (a0 == 1) = false := by simp; omega
    have k2 : (a0 == 2) = false := by simp; omega
    have k3 : (a0 == 3) = false := by simp; omega
    have k4 : (a0 == 4) = false := by simp; omega
    have k5 : (a0 == 5) = false := by simp; omega
    have k6 : (a0 == 6) = false := by simp; omega
    clear hk c0 c1 c2 c3 c4 c5 c7
    go_enter Tryd.func4, Tryd.ntmps4
    go_wp2_with fail
    refine (bytes_yes a0 a1 a2 a3 _ h').mono ?_; rintro e w1 ⟨rfl, rfl⟩
    go_wp2
    go_ret
    exact ⟨rfl, Below.refl _ _⟩

end Go.Proofs.YtekfficjacnefabDoor.fnTypeTagNameAgrees
