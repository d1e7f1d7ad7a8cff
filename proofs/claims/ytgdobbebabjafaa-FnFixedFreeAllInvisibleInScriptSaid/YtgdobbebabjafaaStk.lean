/- A fixed stack of call frames in memory: block A holds n frames of ten cells each, block B the stack's two fields. -/
import Derived.Test.YtgdobbebabjafaaRows
import Derived.Test.YtgdobbebabjafaaKeep
import Derived.WalkKit
import Derived.WalkSpells
import Derived.WalkLawsBesides
import Derived.Lib.Hide
import Derived.Deep.QuietTactic
import Derived.BigQuiet
import Derived.StillTailTactics
import Derived.BigRegion
namespace Go.Proofs.Ytgdobbebabjafaa
open Go.RowKit
set_option linter.unusedVariables false

structure Stk (w : World) (A B n : Nat) (sp : Int) (arr : Array Value) : Prop where
  hA : w.heap[A]? = some (.cells arr 31 (0, 0))
  hB : w.heap[B]? = some (.cells #[.slice (some ⟨A, 0, none⟩) n n, .int .i64 sp] 42 (0, 0))
  ne : A ≠ B
  size : arr.size = n * 10
  small : n ≤ 131072

theorem Stk.b0 {w : World} {A B n : Nat} {sp : Int} {arr : Array Value} (h : Stk w A B n sp arr) : w.cell? ⟨B, 0, none⟩ = some (.slice (some ⟨A, 0, none⟩) n n) := cell_of_row _ _ _ _ _ _ h.hB
theorem Stk.b1 {w : World} {A B n : Nat} {sp : Int} {arr : Array Value} (h : Stk w A B n sp arr) : w.cell? ⟨B, 1, none⟩ = some (.int .i64 sp) := cell_of_row _ _ _ _ _ _ h.hB
theorem Stk.fb {w : World} {A B n : Nat} {sp : Int} {arr : Array Value} (h : Stk w A B n sp arr) (o : Nat) : w.frozen? ⟨B, o, none⟩ = false := frozen_of_row _ _ _ _ _ h.hB
theorem Stk.keep {w w' : World} {A B n : Nat} {sp : Int} {arr : Array Value} (h : Stk w A B n sp arr) {S : List Nat} (hk : Keep S w w') (hA : A ∉ S) (hB : B ∉ S) : Stk w' A B n sp arr :=
  ⟨hk.heap h.hA hA, hk.heap h.hB hB, h.ne, h.size, h.small⟩
theorem Stk.drewN {w : World} {A B n : Nat} {sp : Int} {arr : Array Value} (h : Stk w A B n sp arr) (k : Nat) : Stk (w.drewN k) A B n sp arr := ⟨h.hA, h.hB, h.ne, h.size, h.small⟩

set_option maxHeartbeats 400000 in
theorem sp_any (A B n : Nat) (sp : Int) (arr : Array Value) (w : World) (h : Stk w A B n sp arr) :
    Calls Try.prog 14 #[.pointer (some ⟨B, 0, none⟩)] w fun e w' => e = .returned (.int .i64 sp) ∧ w = w' := by
  have h1 := h.b1
  clear h
  go_enter Try.func14, Try.ntmps14
  go_wp2
  go_ret
  exact ⟨rfl, rfl⟩

set_option maxHeartbeats 400000 in
theorem isEmpty_any (A B n : Nat) (sp : Int) (arr : Array Value) (w : World) (h : Stk w A B n sp arr) :
    Calls Try.prog 16 #[.pointer (some ⟨B, 0, none⟩)] w fun e w' => e = .returned (.bool (sp == 0)) ∧ w = w' := by
  have h1 := h.b1
  clear h
  go_enter Try.func16, Try.ntmps16
  go_wp2
  go_ret
  exact ⟨rfl, rfl⟩

theorem Stk.setSp {w : World} {A B n : Nat} {sp : Int} {arr : Array Value} (h : Stk w A B n sp arr) (k : Int) : Stk (w.setCell ⟨B, 1, none⟩ (.int .i64 k)) A B n k arr :=
  ⟨by rw [heap_setCell_other _ _ _ _ h.ne]; exact h.hA, by rw [heap_setCell_same _ _ _ _ _ _ h.hB]; rfl, h.ne, h.size, h.small⟩
theorem keep_sp (w : World) (B : Nat) (v : Value) {S : List Nat} (hB : B ∈ S) : Keep S w (w.setCell ⟨B, 1, none⟩ v) := (Keep.refl S w).setCell (.inl hB) v

set_option maxHeartbeats 400000 in
theorem isFull_any (A B n : Nat) (sp : Int) (arr : Array Value) (w : World) (h : Stk w A B n sp arr) :
    Calls Try.prog 19 #[.pointer (some ⟨B, 0, none⟩)] w fun e w' => e = .returned (.bool (sp == (n : Int))) ∧ ∃ k, w' = w.drewN k := by
  have h0 := h.b0
  have h1 := h.b1
  clear h
  go_enter Try.func19, Try.ntmps19
  go_wp2
  go_quiet (fail)
  go_wp2
  go_ret
  exact ⟨rfl, nq, rfl⟩

/-- A frame's ten cells. -/
def frm (x p b r : Int) : Array Value := #[.int .i64 x, .pointer none, .pointer none, .int .i64 p, .int .i64 b, .int .i64 0, .int .i64 0, .int .i64 0, .int .i64 r, .int .i64 0]
/-- The frame k of the row reads so. -/
def Fr (arr : Array Value) (k : Nat) (x p b r : Int) : Prop := ∀ j, j < 10 → arr[k * 10 + j]? = (frm x p b r)[j]?
/-- What Push writes. -/
def put (arr : Array Value) (k : Nat) (x0 x p b r : Int) : Array Value :=
  ((((((((((arr.setIfInBounds (k * 10) (.int .i64 x0)).setIfInBounds (k * 10 + 1) (.pointer none)).setIfInBounds (k * 10 + 2) (.pointer none)).setIfInBounds (k * 10 + 3) (.int .i64 p)).setIfInBounds (k * 10 + 4) (.int .i64 b)).setIfInBounds (k * 10 + 5) (.int .i64 0)).setIfInBounds (k * 10 + 6) (.int .i64 0)).setIfInBounds (k * 10 + 7) (.int .i64 0)).setIfInBounds (k * 10 + 8) (.int .i64 r)).setIfInBounds (k * 10 + 9) (.int .i64 0)).setIfInBounds (k * 10) (.int .i64 x)

theorem size_put (arr : Array Value) (k : Nat) (x0 x p b r : Int) : (put arr k x0 x p b r).size = arr.size := by simp [put]

theorem st_ne (a : Array Value) (i j : Nat) (v : Value) (h : i ≠ j) : (a.setIfInBounds i v)[j]? = a[j]? := Array.getElem?_setIfInBounds_ne h
theorem st_eq (a : Array Value) (i : Nat) (v : Value) (h : i < a.size) : (a.setIfInBounds i v)[i]? = some v := Array.getElem?_setIfInBounds_self_of_lt h

theorem put_same (arr : Array Value) (k : Nat) (x0 x p b r : Int) (h : k * 10 + 9 < arr.size) : Fr (put arr k x0 x p b r) k x p b r := by
  intro j hj
  have hj' : j = 0 ∨ j = 1 ∨ j = 2 ∨ j = 3 ∨ j = 4 ∨ j = 5 ∨ j = 6 ∨ j = 7 ∨ j = 8 ∨ j = 9 := by omega
  unfold put
  rcases hj' with rfl | rfl | rfl | rfl | rfl | rfl | rfl | rfl | rfl | rfl
  · simp only [Nat.add_zero]
    rw [st_eq _ (k * 10) _ (by simp only [Array.size_setIfInBounds]; omega)]; rfl
  all_goals
    repeat rw [st_ne _ _ _ _ (by omega)]
    rw [st_eq _ _ _ (by simp only [Array.size_setIfInBounds]; omega)]
    rfl

theorem put_other (arr : Array Value) (k : Nat) (x0 x p b r : Int) (o : Nat) (h : o < k * 10 ∨ k * 10 + 10 ≤ o) : (put arr k x0 x p b r)[o]? = arr[o]? := by
  unfold put
  repeat rw [st_ne _ _ _ _ (by omega)]

theorem Fr.put {arr : Array Value} {i k : Nat} {x p b r : Int} (h : Fr arr i x p b r) (hne : i ≠ k) (x0 x' p' b' r' : Int) : Fr (put arr k x0 x' p' b' r') i x p b r := by
  intro j hj
  rw [put_other _ _ _ _ _ _ _ _ (by omega)]
  exact h j hj

/-- What Push leaves. -/
def Pushed (w : World) (A B n : Nat) (sp : Nat) (arr : Array Value) (x0 p b r : Int) (w' : World) : Prop := Stk w' A B n ((sp : Int) + 1) (put arr sp x0 sp p b r) ∧ Keep [A, B] w w'

/-- The world behind Push. -/
def pushW (w : World) (A B : Nat) (sp : Nat) (x0 p b r : Int) : World :=
  (((((((((((((w.setCell ⟨A, sp * 10, none⟩ (.int .i64 x0)).setCell ⟨A, sp * 10 + 1, none⟩ (.pointer none)).setCell ⟨A, sp * 10 + 2, none⟩ (.pointer none)).setCell ⟨A, sp * 10 + 3, none⟩ (.int .i64 p)).setCell ⟨A, sp * 10 + 4, none⟩ (.int .i64 b)).setCell ⟨A, sp * 10 + 5, none⟩ (.int .i64 0)).setCell ⟨A, sp * 10 + 6, none⟩ (.int .i64 0)).setCell ⟨A, sp * 10 + 7, none⟩ (.int .i64 0)).setCell ⟨A, sp * 10 + 8, none⟩ (.int .i64 r)).setCell ⟨A, sp * 10 + 9, none⟩ (.int .i64 0)).setCell ⟨A, sp * 10, none⟩ (.int .i64 sp)).setCell ⟨B, 1, none⟩ (.int .i64 ((sp : Int) + 1))).alloc (.cells #[.int .i64 x0, .pointer none, .pointer none, .int .i64 p, .int .i64 b, .int .i64 0, .int .i64 0, .int .i64 0, .int .i64 r, .int .i64 0] 31)).drew.drew

theorem Stk.alloc {w : World} {A B n : Nat} {sp : Int} {arr : Array Value} (h : Stk w A B n sp arr) (o : Obj) : Stk (w.alloc o) A B n sp arr :=
  ⟨(Below.heap_alloc _ _ _ (lt_of_block h.hA)).trans h.hA, (Below.heap_alloc _ _ _ (lt_of_block h.hB)).trans h.hB, h.ne, h.size, h.small⟩
theorem Stk.drew {w : World} {A B n : Nat} {sp : Int} {arr : Array Value} (h : Stk w A B n sp arr) : Stk w.drew A B n sp arr := ⟨h.hA, h.hB, h.ne, h.size, h.small⟩

theorem push_chain {w : World} {A B n sp : Nat} {arr : Array Value} (x0 p b r : Int) (h : Stk w A B n (sp : Int) arr) :
    Pushed w A B n sp arr x0 p b r ((((((((((((w.setCell ⟨A, sp * 10, none⟩ (.int .i64 x0)).setCell ⟨A, sp * 10 + 1, none⟩ (.pointer none)).setCell ⟨A, sp * 10 + 2, none⟩ (.pointer none)).setCell ⟨A, sp * 10 + 3, none⟩ (.int .i64 p)).setCell ⟨A, sp * 10 + 4, none⟩ (.int .i64 b)).setCell ⟨A, sp * 10 + 5, none⟩ (.int .i64 0)).setCell ⟨A, sp * 10 + 6, none⟩ (.int .i64 0)).setCell ⟨A, sp * 10 + 7, none⟩ (.int .i64 0)).setCell ⟨A, sp * 10 + 8, none⟩ (.int .i64 r)).setCell ⟨A, sp * 10 + 9, none⟩ (.int .i64 0)).setCell ⟨A, sp * 10, none⟩ (.int .i64 sp)).setCell ⟨B, 1, none⟩ (.int .i64 ((sp : Int) + 1))) := by
  have hAB := h.ne
  have s0 := heap_setCell_same w A (sp * 10) _ _ (.int .i64 x0) h.hA
  have s1 := heap_setCell_same _ A (sp * 10 + 1) _ _ (.pointer none) s0
  have s2 := heap_setCell_same _ A (sp * 10 + 2) _ _ (.pointer none) s1
  have s3 := heap_setCell_same _ A (sp * 10 + 3) _ _ (.int .i64 p) s2
  have s4 := heap_setCell_same _ A (sp * 10 + 4) _ _ (.int .i64 b) s3
  have s5 := heap_setCell_same _ A (sp * 10 + 5) _ _ (.int .i64 0) s4
  have s6 := heap_setCell_same _ A (sp * 10 + 6) _ _ (.int .i64 0) s5
  have s7 := heap_setCell_same _ A (sp * 10 + 7) _ _ (.int .i64 0) s6
  have s8 := heap_setCell_same _ A (sp * 10 + 8) _ _ (.int .i64 r) s7
  have s9 := heap_setCell_same _ A (sp * 10 + 9) _ _ (.int .i64 0) s8
  have s10 := heap_setCell_same _ A (sp * 10) _ _ (.int .i64 (sp : Int)) s9
  have s11 := (heap_setCell_other _ ⟨B, 1, none⟩ A (.int .i64 ((sp : Int) + 1)) hAB).trans s10
  have r0 := (heap_setCell_other w ⟨A, sp * 10, none⟩ B (.int .i64 x0) hAB.symm).trans h.hB
  have r1 := (heap_setCell_other _ ⟨A, sp * 10 + 1, none⟩ B (.pointer none) hAB.symm).trans r0
  have r2 := (heap_setCell_other _ ⟨A, sp * 10 + 2, none⟩ B (.pointer none) hAB.symm).trans r1
  have r3 := (heap_setCell_other _ ⟨A, sp * 10 + 3, none⟩ B (.int .i64 p) hAB.symm).trans r2
  have r4 := (heap_setCell_other _ ⟨A, sp * 10 + 4, none⟩ B (.int .i64 b) hAB.symm).trans r3
  have r5 := (heap_setCell_other _ ⟨A, sp * 10 + 5, none⟩ B (.int .i64 0) hAB.symm).trans r4
  have r6 := (heap_setCell_other _ ⟨A, sp * 10 + 6, none⟩ B (.int .i64 0) hAB.symm).trans r5
  have r7 := (heap_setCell_other _ ⟨A, sp * 10 + 7, none⟩ B (.int .i64 0) hAB.symm).trans r6
  have r8 := (heap_setCell_other _ ⟨A, sp * 10 + 8, none⟩ B (.int .i64 r) hAB.symm).trans r7
  have r9 := (heap_setCell_other _ ⟨A, sp * 10 + 9, none⟩ B (.int .i64 0) hAB.symm).trans r8
  have r10 := (heap_setCell_other _ ⟨A, sp * 10, none⟩ B (.int .i64 (sp : Int)) hAB.symm).trans r9
  have r11 := heap_setCell_same _ B 1 _ _ (.int .i64 ((sp : Int) + 1)) r10
  have k0 := (Keep.refl [A, B] w).setCell (p := ⟨A, sp * 10, none⟩) (.inl (by simp)) (.int .i64 x0)
  have k1 := k0.setCell (p := ⟨A, sp * 10 + 1, none⟩) (.inl (by simp)) (.pointer none)
  have k2 := k1.setCell (p := ⟨A, sp * 10 + 2, none⟩) (.inl (by simp)) (.pointer none)
  have k3 := k2.setCell (p := ⟨A, sp * 10 + 3, none⟩) (.inl (by simp)) (.int .i64 p)
  have k4 := k3.setCell (p := ⟨A, sp * 10 + 4, none⟩) (.inl (by simp)) (.int .i64 b)
  have k5 := k4.setCell (p := ⟨A, sp * 10 + 5, none⟩) (.inl (by simp)) (.int .i64 0)
  have k6 := k5.setCell (p := ⟨A, sp * 10 + 6, none⟩) (.inl (by simp)) (.int .i64 0)
  have k7 := k6.setCell (p := ⟨A, sp * 10 + 7, none⟩) (.inl (by simp)) (.int .i64 0)
  have k8 := k7.setCell (p := ⟨A, sp * 10 + 8, none⟩) (.inl (by simp)) (.int .i64 r)
  have k9 := k8.setCell (p := ⟨A, sp * 10 + 9, none⟩) (.inl (by simp)) (.int .i64 0)
  have k10 := k9.setCell (p := ⟨A, sp * 10, none⟩) (.inl (by simp)) (.int .i64 (sp : Int))
  have k11 := k10.setCell (p := ⟨B, 1, none⟩) (.inl (by simp)) (.int .i64 ((sp : Int) + 1))
  unfold Pushed put
  exact ⟨⟨s11, r11, hAB, by simp only [Array.size_setIfInBounds]; exact h.size, h.small⟩, k11⟩

theorem pushed_of {w : World} {A B n sp : Nat} {arr : Array Value} (x0 p b r : Int) (h : Stk w A B n (sp : Int) arr) : Pushed w A B n sp arr x0 p b r (pushW w A B sp x0 p b r) := by
  obtain ⟨h1, h2⟩ := push_chain x0 p b r h
  exact ⟨(h1.alloc _).drew.drew, (h2.alloc _).drew.drew⟩

set_option maxHeartbeats 1000000 in
theorem push_any (A B n : Nat) (sp : Nat) (arr : Array Value) (x0 p b r : Int) (w : World) (h : Stk w A B n (sp : Int) arr) (hlt : sp < n) :
    Calls Try.prog 25 #[.pointer (some ⟨B, 0, none⟩), .agg #[.int .i64 x0, .pointer none, .pointer none, .int .i64 p, .int .i64 b, .int .i64 0, .int .i64 0, .int .i64 0, .int .i64 r, .int .i64 0]] w
      fun e w' => e = .returned (.tuple #[]) ∧ Pushed w A B n sp arr x0 p b r w' := by
  have H := Lib.hid h
  have h0 := h.b0
  have h1 := h.b1
  have hs := h.small
  have f0 := h.fb 0
  have f1 := h.fb 1
  have lA := lt_of_block h.hA
  have lB := lt_of_block h.hB
  have fA : ∀ o, w.frozen? ⟨A, o, none⟩ = false := fun o => frozen_of_row _ _ _ _ _ h.hA
  have hAB := h.ne
  have cA : ∀ j, j < 10 → ∃ v, w.cell? ⟨A, sp * 10 + j, none⟩ = some v := fun j hj => by
    rw [cell_of_row _ _ _ _ _ _ h.hA]
    exact ⟨_, Array.getElem?_eq_getElem (by rw [h.size]; omega)⟩
  obtain ⟨v0, a0⟩ := cA 0 (by omega)
  obtain ⟨v1, a1⟩ := cA 1 (by omega)
  obtain ⟨v2, a2⟩ := cA 2 (by omega)
  obtain ⟨v3, a3⟩ := cA 3 (by omega)
  obtain ⟨v4, a4⟩ := cA 4 (by omega)
  obtain ⟨v5, a5⟩ := cA 5 (by omega)
  obtain ⟨v6, a6⟩ := cA 6 (by omega)
  obtain ⟨v7, a7⟩ := cA 7 (by omega)
  obtain ⟨v8, a8⟩ := cA 8 (by omega)
  obtain ⟨v9, a9⟩ := cA 9 (by omega)
  rw [Nat.add_zero] at a0
  clear h cA
  go_enter Try.func25, Try.ntmps25
  go_wp2
  go_region
  go_wp2
  go_region
  go_wp2
  go_end0
  exact ⟨rfl, pushed_of x0 p b r H.out⟩

set_option maxHeartbeats 1000000 in
theorem pop_any (A B n : Nat) (sp : Nat) (arr : Array Value) (w : World) (h : Stk w A B n ((sp + 1 : Nat) : Int) arr) (hlt : sp < n) :
    Calls Try.prog 12 #[.pointer (some ⟨B, 0, none⟩)] w fun e w' => e = .returned (.pointer (some ⟨A, sp * 10, none⟩)) ∧ ∃ k, w' = (w.setCell ⟨B, 1, none⟩ (.int .i64 sp)).drewN k := by
  have h0 := h.b0
  have h1 := h.b1
  have hs := h.small
  have f1 := h.fb 1
  clear h
  go_enter Try.func12, Try.ntmps12
  go_wp2
  go_quiet (fail)
  go_wp2
  go_ret
  exact ⟨rfl, nq, rfl⟩

end Go.Proofs.Ytgdobbebabjafaa
