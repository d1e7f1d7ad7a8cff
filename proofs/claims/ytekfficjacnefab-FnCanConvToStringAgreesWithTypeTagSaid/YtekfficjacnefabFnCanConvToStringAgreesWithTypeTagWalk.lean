/- The walk of FnCanConvToStringAgreesWithTypeTag. -/
import Derived.Test.YtekfficjacnefabRows
import Derived.WalkKit
import Derived.WalkSpells
import Derived.WalkLawsBesides
namespace Go.Proofs.Ytekfficjacnefab.fnCanConvToStringAgreesWithTypeTag
open Go.RowKit
set_option linter.unusedVariables false

set_option maxHeartbeats 1000000 in
theorem bytes_no (a0 : Int) (a1 : ByteArray) (a2 : Nat) (a3 : Bool) (w : World) (h : 1048576 < a1.size) (w1 : a1.size ≤ maxLen) :
    Calls Try.prog 11 #[.int .u8 a0, .string a1, .float .f64 a2, .bool a3] w fun e w' => e = .returned (.bool false) ∧ w = w' := by
  unfold maxLen at w1
  go_enter Try.func11, Try.ntmps11
  go_wp2
  go_ret
  exact ⟨rfl, rfl⟩
set_option maxHeartbeats 1000000 in
theorem bytes_yes (a0 : Int) (a1 : ByteArray) (a2 : Nat) (a3 : Bool) (w : World) (h : a1.size ≤ 1048576) :
    Calls Try.prog 11 #[.int .u8 a0, .string a1, .float .f64 a2, .bool a3] w fun e w' => e = .returned (.bool true) ∧ w = w' := by
  go_enter Try.func11, Try.ntmps11
  go_wp2
  go_ret
  exact ⟨rfl, rfl⟩

/-! What the type switch finds. -/
theorem ta_s (x : Value) (w : World) : (Instr.typeAssert (.iface 30 x) 41 30 true).run Try.prog w = .ok (.tuple #[x, .bool true]) w := by kernel_rfl
theorem ta_n (x : Value) (w : World) : (Instr.typeAssert (.iface 34 x) 41 34 true).run Try.prog w = .ok (.tuple #[x, .bool true]) w := by kernel_rfl
theorem ta_ns (x : Value) (w : World) : (Instr.typeAssert (.iface 30 x) 41 34 true).run Try.prog w = .ok (.tuple #[.float .f64 0, .bool false]) w := by kernel_rfl
theorem ta_sn (x : Value) (w : World) : (Instr.typeAssert (.iface 34 x) 41 30 true).run Try.prog w = .ok (.tuple #[.string ByteArray.empty, .bool false]) w := by kernel_rfl
theorem ta_sb (x : Value) (w : World) : (Instr.typeAssert (.iface 35 x) 41 30 true).run Try.prog w = .ok (.tuple #[.string ByteArray.empty, .bool false]) w := by kernel_rfl
theorem ta_nb (x : Value) (w : World) : (Instr.typeAssert (.iface 35 x) 41 34 true).run Try.prog w = .ok (.tuple #[.float .f64 0, .bool false]) w := by kernel_rfl
theorem ta_sl (x : Value) (w : World) : (Instr.typeAssert (.iface 36 x) 41 30 true).run Try.prog w = .ok (.tuple #[.string ByteArray.empty, .bool false]) w := by kernel_rfl
theorem ta_nl (x : Value) (w : World) : (Instr.typeAssert (.iface 36 x) 41 34 true).run Try.prog w = .ok (.tuple #[.float .f64 0, .bool false]) w := by kernel_rfl
theorem ta_st (x : Value) (w : World) : (Instr.typeAssert (.iface 39 x) 41 30 true).run Try.prog w = .ok (.tuple #[.string ByteArray.empty, .bool false]) w := by kernel_rfl
theorem ta_nt (x : Value) (w : World) : (Instr.typeAssert (.iface 39 x) 41 34 true).run Try.prog w = .ok (.tuple #[.float .f64 0, .bool false]) w := by kernel_rfl
theorem ta_sf (x : Value) (w : World) : (Instr.typeAssert (.iface 48 x) 41 30 true).run Try.prog w = .ok (.tuple #[.string ByteArray.empty, .bool false]) w := by kernel_rfl
theorem ta_nf (x : Value) (w : World) : (Instr.typeAssert (.iface 48 x) 41 34 true).run Try.prog w = .ok (.tuple #[.float .f64 0, .bool false]) w := by kernel_rfl
theorem ta_su (x : Value) (w : World) : (Instr.typeAssert (.iface 55 x) 41 30 true).run Try.prog w = .ok (.tuple #[.string ByteArray.empty, .bool false]) w := by kernel_rfl
theorem ta_nu (x : Value) (w : World) : (Instr.typeAssert (.iface 55 x) 41 34 true).run Try.prog w = .ok (.tuple #[.float .f64 0, .bool false]) w := by kernel_rfl

set_option maxHeartbeats 2000000 in
set_option maxRecDepth 100000 in
theorem walk (a0 : Int) (a1 : ByteArray) (a2 : Nat) (a3 : Bool) (w : World) (w0 : (Lit.int .u8 a0).wf = true) (w1 : a1.size ≤ maxLen) (w2 : (Lit.float .f64 a2).wf = true) :
    Calls Try.prog 6 #[.int .u8 a0, .string a1, .float .f64 a2, .bool a3] w fun e w' => e = .returned (.bool true) ∧ Below w.heap.size w w' := by
  have hx : 0 ≤ a0 ∧ a0 ≤ 255 := by simpa [Lit.wf, IntKind.min, IntKind.max, IntKind.signed, IntKind.bits] using w0
  by_cases h : 1048576 < a1.size
  · go_enter Try.func6, Try.ntmps6
    go_wp2_with fail
    refine (bytes_no a0 a1 a2 a3 _ h w1).mono ?_; rintro e w1 ⟨rfl, rfl⟩
    go_wp2
    go_ret
    exact ⟨rfl, Below.refl _ _⟩
  have h' : a1.size ≤ 1048576 := by omega
  clear h w1 w2 w0
  obtain ⟨hx1, hx2⟩ := hx
  have hk : a0 % 7 = 0 ∨ a0 % 7 = 1 ∨ a0 % 7 = 2 ∨ a0 % 7 = 3 ∨ a0 % 7 = 4 ∨ a0 % 7 = 5 ∨ a0 % 7 = 6 := by omega
  have f1 := ta_s
  have f2 := ta_n
  have f3 := ta_sn
  have f4 := ta_sb
  have f5 := ta_nb
  have f6 := ta_sl
  have f7 := ta_nl
  have f8 := ta_st
  have f9 := ta_nt
  have f10 := ta_sf
  have f11 := ta_nf
  have f12 := ta_su
  have f13 := ta_nu
  have f14 := ta_ns
  rcases hk with k | k | k | k | k | k | k
  all_goals
    go_enter Try.func6, Try.ntmps6
    go_wp2_with fail
    refine (bytes_yes a0 a1 a2 a3 _ h').mono ?_; rintro e w1 ⟨rfl, rfl⟩
    go_wp2
    go_ret
    exact ⟨rfl, (by repeat (first | exact Below.refl _ _ | apply Below.drew | (refine Below.alloc ?_ (Nat.le_refl _) _) | (refine Below.setCell ?_ (by simp) _)))⟩

end Go.Proofs.Ytekfficjacnefab.fnCanConvToStringAgreesWithTypeTag
