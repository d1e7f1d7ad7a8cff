/- The contracts of At, Last and of the maker of a fixed stack. -/
import Derived.Test.YtgdobbebabjafaaStk
namespace Go.Proofs.Ytgdobbebabjafaa
open Go.RowKit
set_option linter.unusedVariables false

set_option maxHeartbeats 400000 in
theorem at_any (A B n : Nat) (sp : Int) (i : Nat) (arr : Array Value) (w : World) (h : Stk w A B n sp arr) (hi : i < n) :
    Calls Try.prog 15 #[.pointer (some ⟨B, 0, none⟩), .int .i64 i] w fun e w' => e = .returned (.pointer (some ⟨A, i * 10, none⟩)) ∧ w = w' := by
  have h0 := h.b0
  have hs := h.small
  clear h
  go_enter Try.func15, Try.ntmps15
  go_wp2
  go_ret
  exact ⟨rfl, rfl⟩

set_option maxHeartbeats 400000 in
theorem last_nil (A B n : Nat) (arr : Array Value) (w : World) (h : Stk w A B n 0 arr) :
    Calls Try.prog 17 #[.pointer (some ⟨B, 0, none⟩)] w fun e w' => e = .returned (.pointer none) ∧ w = w' := by
  have h1 := h.b1
  clear h
  go_enter Try.func17, Try.ntmps17
  go_wp2
  go_ret
  exact ⟨rfl, rfl⟩

set_option maxHeartbeats 400000 in
theorem last_some (A B n : Nat) (sp : Nat) (arr : Array Value) (w : World) (h : Stk w A B n ((sp : Int) + 1) arr) (hlt : sp < n) :
    Calls Try.prog 17 #[.pointer (some ⟨B, 0, none⟩)] w fun e w' => e = .returned (.pointer (some ⟨A, sp * 10, none⟩)) ∧ ∃ k, w' = w.drewN k := by
  have h0 := h.b0
  have h1 := h.b1
  have hs := h.small
  have hz : (((sp : Int) + 1) == 0) = false := by simp; omega
  clear h
  go_enter Try.func17, Try.ntmps17
  go_wp2
  go_quiet (fail)
  go_wp2
  go_ret
  exact ⟨rfl, nq, rfl⟩

/-- What the maker leaves. -/
def Fresh (w : World) (n : Nat) (w' : World) : Prop :=
  ∃ arr, Stk w' w.heap.size (w.heap.size + 1) n 0 arr ∧ (∀ i, i < n → Fr arr i 0 0 0 0) ∧ Below w.heap.size w w'

theorem infoFrame : (Try.prog.info? 31).map (fun i => (i.zero, i.size, i.bytes)) = some (some (.agg (frm 0 0 0 0)), 10, 80) := by kernel_rfl

theorem make_run (n : Nat) (hn : n ≤ 131072) (w : World) :
    (Instr.makeSlice 36 (.int .i64 (n : Int)) (.int .i64 (n : Int))).run Try.prog w = .ok (.slice (some ⟨w.heap.size, 0, none⟩) n n) (w.alloc (.cells (madeCells (frm 0 0 0 0) (n * 10)) 31)) := by
  obtain ⟨i0, hi, hz0, hz1, hz2⟩ := info_parts infoFrame
  have h := run_make (P := Try.prog) w 36 31 i0 (.agg (frm 0 0 0 0)) Try.underlying36 hi hz0 .i64 .i64 n n (by omega) (by omega) (by rw [hz2]; omega) (by omega)
  rw [hz1, Int.toNat_natCast] at h
  exact h

theorem made_fr (n i : Nat) (hi : i < n) : Fr (madeCells (frm 0 0 0 0) (n * 10)) i 0 0 0 0 := by
  intro j hj
  have hlt : i * 10 + j < n * 10 := by omega
  have : (i * 10 + j) % 10 = j := by omega
  unfold madeCells
  rw [Array.getElem?_map, Array.getElem?_range, if_pos hlt]
  show some ((frm 0 0 0 0)[(i * 10 + j) % 10]!) = _
  rw [this]
  have hj' : j = 0 ∨ j = 1 ∨ j = 2 ∨ j = 3 ∨ j = 4 ∨ j = 5 ∨ j = 6 ∨ j = 7 ∨ j = 8 ∨ j = 9 := by omega
  rcases hj' with rfl | rfl | rfl | rfl | rfl | rfl | rfl | rfl | rfl | rfl <;> rfl

theorem fresh_of (n : Nat) (hn : n ≤ 131072) (w : World) : Fresh w n ((w.alloc (.cells (madeCells (frm 0 0 0 0) (n * 10)) 31)).alloc (.cells #[.slice (some ⟨w.heap.size, 0, none⟩) n n, .int .i64 0] 42)) :=
  ⟨_, ⟨heap_alloc2_old _ _ _, heap_alloc2_new _ _ _, by omega, size_madeCells _ _, hn⟩, fun i hi => made_fr n i hi, ((Below.refl _ _).alloc (Nat.le_refl _) _).alloc (by simp) _⟩

set_option maxHeartbeats 1000000 in
theorem new_any (n : Nat) (hn : n ≤ 131072) (w : World) :
    Calls Try.prog 27 #[.int .i64 n] w fun e w' => e = .returned (.iface 25 (.pointer (some ⟨w.heap.size + 1, 0, none⟩))) ∧ Fresh w n w' := by
  have hm := make_run n hn
  have hf := Lib.hid (fresh_of n hn w)
  go_enter Try.func27, Try.ntmps27
  go_wp2
  go_ret
  exact ⟨rfl, hf.out⟩

theorem ta_stack (v : Value) (w : World) : (Instr.typeAssert (.iface 25 v) 44 25 false).run Try.prog w = .ok v w := by kernel_rfl

end Go.Proofs.Ytgdobbebabjafaa
