/- A row of call frames that a law copies out of a stack. -/
import Derived.Test.YtgdobbebabjafaaFill120
import Derived.Deep.RegionHeld3
namespace Go.Proofs.Ytgdobbebabjafaa
open Go.RowKit
set_option linter.unusedVariables false

structure Snap (w : World) (G n : Nat) (arr : Array Value) : Prop where
  h : w.heap[G]? = some (.cells arr 31 (0, 0))
  size : arr.size = n * 10

def put10 (arr : Array Value) (k : Nat) (x p b r : Int) : Array Value :=
  (((((((((arr.setIfInBounds (k * 10) (.int .i64 x)).setIfInBounds (k * 10 + 1) (.pointer none)).setIfInBounds (k * 10 + 2) (.pointer none)).setIfInBounds (k * 10 + 3) (.int .i64 p)).setIfInBounds (k * 10 + 4) (.int .i64 b)).setIfInBounds (k * 10 + 5) (.int .i64 0)).setIfInBounds (k * 10 + 6) (.int .i64 0)).setIfInBounds (k * 10 + 7) (.int .i64 0)).setIfInBounds (k * 10 + 8) (.int .i64 r)).setIfInBounds (k * 10 + 9) (.int .i64 0)

theorem size_put10 (arr : Array Value) (k : Nat) (x p b r : Int) : (put10 arr k x p b r).size = arr.size := by simp [put10]

theorem put10_same (arr : Array Value) (k : Nat) (x p b r : Int) (h : k * 10 + 9 < arr.size) : Fr (put10 arr k x p b r) k x p b r := by
  intro j hj
  have hj' : j = 0 ∨ j = 1 ∨ j = 2 ∨ j = 3 ∨ j = 4 ∨ j = 5 ∨ j = 6 ∨ j = 7 ∨ j = 8 ∨ j = 9 := by omega
  unfold put10
  rcases hj' with rfl | rfl | rfl | rfl | rfl | rfl | rfl | rfl | rfl | rfl
  all_goals
    try simp only [Nat.add_zero]
    repeat rw [st_ne _ _ _ _ (by omega)]
    rw [st_eq _ _ _ (by (try simp only [Array.size_setIfInBounds]); omega)]
    rfl

theorem put10_other (arr : Array Value) (k : Nat) (x p b r : Int) (o : Nat) (h : o < k * 10 ∨ k * 10 + 10 ≤ o) : (put10 arr k x p b r)[o]? = arr[o]? := by
  unfold put10
  repeat rw [st_ne _ _ _ _ (by omega)]

theorem Fr.put10 {arr : Array Value} {i k : Nat} {x p b r : Int} (h : Fr arr i x p b r) (hne : i ≠ k) (x' p' b' r' : Int) : Fr (put10 arr k x' p' b' r') i x p b r := by
  intro j hj
  rw [put10_other _ _ _ _ _ _ _ (by omega)]
  exact h j hj

/-- The world behind the store of a frame. -/
def snapW (w : World) (G k : Nat) (x p b r : Int) : World :=
  (((((((((w.setCell ⟨G, k * 10, none⟩ (.int .i64 x)).setCell ⟨G, k * 10 + 1, none⟩ (.pointer none)).setCell ⟨G, k * 10 + 2, none⟩ (.pointer none)).setCell ⟨G, k * 10 + 3, none⟩ (.int .i64 p)).setCell ⟨G, k * 10 + 4, none⟩ (.int .i64 b)).setCell ⟨G, k * 10 + 5, none⟩ (.int .i64 0)).setCell ⟨G, k * 10 + 6, none⟩ (.int .i64 0)).setCell ⟨G, k * 10 + 7, none⟩ (.int .i64 0)).setCell ⟨G, k * 10 + 8, none⟩ (.int .i64 r)).setCell ⟨G, k * 10 + 9, none⟩ (.int .i64 0)

theorem Snap.store {w : World} {G n : Nat} {arr : Array Value} (h : Snap w G n arr) (k : Nat) (x p b r : Int) : Snap (snapW w G k x p b r) G n (put10 arr k x p b r) ∧ Keep [G] w (snapW w G k x p b r) := by
  have s0 := heap_setCell_same w G (k * 10) _ _ (.int .i64 x) h.h
  have s1 := heap_setCell_same _ G (k * 10 + 1) _ _ (.pointer none) s0
  have s2 := heap_setCell_same _ G (k * 10 + 2) _ _ (.pointer none) s1
  have s3 := heap_setCell_same _ G (k * 10 + 3) _ _ (.int .i64 p) s2
  have s4 := heap_setCell_same _ G (k * 10 + 4) _ _ (.int .i64 b) s3
  have s5 := heap_setCell_same _ G (k * 10 + 5) _ _ (.int .i64 0) s4
  have s6 := heap_setCell_same _ G (k * 10 + 6) _ _ (.int .i64 0) s5
  have s7 := heap_setCell_same _ G (k * 10 + 7) _ _ (.int .i64 0) s6
  have s8 := heap_setCell_same _ G (k * 10 + 8) _ _ (.int .i64 r) s7
  have s9 := heap_setCell_same _ G (k * 10 + 9) _ _ (.int .i64 0) s8
  have k0 := (Keep.refl [G] w).setCell (p := ⟨G, k * 10, none⟩) (.inl (by simp)) (.int .i64 x)
  have k1 := k0.setCell (p := ⟨G, k * 10 + 1, none⟩) (.inl (by simp)) (.pointer none)
  have k2 := k1.setCell (p := ⟨G, k * 10 + 2, none⟩) (.inl (by simp)) (.pointer none)
  have k3 := k2.setCell (p := ⟨G, k * 10 + 3, none⟩) (.inl (by simp)) (.int .i64 p)
  have k4 := k3.setCell (p := ⟨G, k * 10 + 4, none⟩) (.inl (by simp)) (.int .i64 b)
  have k5 := k4.setCell (p := ⟨G, k * 10 + 5, none⟩) (.inl (by simp)) (.int .i64 0)
  have k6 := k5.setCell (p := ⟨G, k * 10 + 6, none⟩) (.inl (by simp)) (.int .i64 0)
  have k7 := k6.setCell (p := ⟨G, k * 10 + 7, none⟩) (.inl (by simp)) (.int .i64 0)
  have k8 := k7.setCell (p := ⟨G, k * 10 + 8, none⟩) (.inl (by simp)) (.int .i64 r)
  have k9 := k8.setCell (p := ⟨G, k * 10 + 9, none⟩) (.inl (by simp)) (.int .i64 0)
  exact ⟨⟨s9, by simp only [put10, Array.size_setIfInBounds]; exact h.size⟩, k9⟩

theorem Snap.keep {w w' : World} {G n : Nat} {arr : Array Value} (h : Snap w G n arr) {S : List Nat} (hk : Keep S w w') (hG : G ∉ S) : Snap w' G n arr := ⟨hk.heap h.h hG, h.size⟩
theorem Snap.drewN {w : World} {G n : Nat} {arr : Array Value} (h : Snap w G n arr) (k : Nat) : Snap (w.drewN k) G n arr := ⟨h.h, h.size⟩
theorem snap_new (n : Nat) (w : World) : Snap (w.alloc (.cells (madeCells (frm 0 0 0 0) (n * 10)) 31)) w.heap.size n (madeCells (frm 0 0 0 0) (n * 10)) := ⟨heap_alloc_new _ _, size_madeCells _ _⟩

theorem snap10 {w : World} {G n i : Nat} {arr : Array Value} {x p b r : Int} (h : Snap w G n arr) (hf : Fr arr i x p b r) :
    w.cell? ⟨G, i * 10, none⟩ = some (.int .i64 x) ∧ w.cell? ⟨G, i * 10 + 1, none⟩ = some (.pointer none) ∧ w.cell? ⟨G, i * 10 + 2, none⟩ = some (.pointer none) ∧ w.cell? ⟨G, i * 10 + 3, none⟩ = some (.int .i64 p) ∧
      w.cell? ⟨G, i * 10 + 4, none⟩ = some (.int .i64 b) ∧ w.cell? ⟨G, i * 10 + 5, none⟩ = some (.int .i64 0) ∧ w.cell? ⟨G, i * 10 + 6, none⟩ = some (.int .i64 0) ∧ w.cell? ⟨G, i * 10 + 7, none⟩ = some (.int .i64 0) ∧
      w.cell? ⟨G, i * 10 + 8, none⟩ = some (.int .i64 r) ∧ w.cell? ⟨G, i * 10 + 9, none⟩ = some (.int .i64 0) := by
  have hc : ∀ j, j < 10 → w.cell? ⟨G, i * 10 + j, none⟩ = (frm x p b r)[j]? := fun j hj => by rw [cell_of_row _ _ _ _ _ _ h.h]; exact hf j hj
  exact ⟨hc 0 (by omega), hc 1 (by omega), hc 2 (by omega), hc 3 (by omega), hc 4 (by omega), hc 5 (by omega), hc 6 (by omega), hc 7 (by omega), hc 8 (by omega), hc 9 (by omega)⟩

/-- The frames j of two rows agree. -/
def Same (a b : Array Value) (j : Nat) : Prop := ∀ o, o < 10 → a[j * 10 + o]? = b[j * 10 + o]?
theorem Same.fr {a b : Array Value} {j : Nat} (h : Same a b j) {x p c r : Int} (hf : Fr b j x p c r) : Fr a j x p c r := fun o ho => (h o ho).trans (hf o ho)
theorem Same.step {a b : Array Value} {k n : Nat} (h : ∀ j, j < k → Same a b j) {x p c r : Int} (hf : Fr b k x p c r) (hs : a.size = n * 10) (hk : k < n) : ∀ j, j < k + 1 → Same (Go.Proofs.Ytgdobbebabjafaa.put10 a k x p c r) b j := fun j hj o ho => by
  by_cases e : j = k
  · subst e
    rw [hf o ho]
    exact put10_same _ _ _ _ _ _ (by omega) o ho
  · rw [put10_other _ _ _ _ _ _ _ (by omega)]
    exact h j (by omega) o ho
/-- A filled row's frames. -/
theorem Filled.all {arr : Array Value} {n k : Nat} {l : List Int} (h : Filled arr n k l) {i : Nat} (hi : i < n) : ∃ x u, Fr arr i x x 0 u ∧ (i < k → x = i) := by
  by_cases e : i < k
  · exact ⟨i, _, h.1 i e, fun _ => rfl⟩
  · exact ⟨0, 0, h.2 i (by omega) hi, fun h => absurd h e⟩

/-- Last, either way. -/
def lastPtr (A sp : Nat) : Option Addr := if sp = 0 then none else some ⟨A, (sp - 1) * 10, none⟩
theorem last_gen (A B n sp : Nat) (arr : Array Value) (w : World) (h : Stk w A B n (sp : Int) arr) (hle : sp ≤ n) :
    Calls Try.prog 17 #[.pointer (some ⟨B, 0, none⟩)] w fun e w' => e = .returned (.pointer (lastPtr A sp)) ∧ ∃ q, w' = w.drewN q := by
  cases sp with
  | zero => exact (last_nil A B n arr w h).mono fun _ _ ⟨h1, h2⟩ => ⟨h1, 0, h2.symm⟩
  | succ m => exact (last_some A B n m arr w h (by omega)).mono fun _ _ ⟨h1, h2⟩ => ⟨h1, h2⟩
theorem last_neq (lp : Option Addr) (w : World) : (binOp .neq 27 (.pointer lp) (.pointer lp)).run Try.prog w = .ok (.bool false) w := by
  cases lp with
  | some a => exact ptr_same_neq a w
  | none =>
    simp only [binOp]
    simp [Op.equal, Op.maxDepth, eq_nil w 9999 27 _ Try.underlying27]

/-- The row's cells are there, whatever they hold. -/
theorem snap_some {w : World} {G n i : Nat} {arr : Array Value} (h : Snap w G n arr) (hi : i < n) : ∀ j, j < 10 → ∃ v, w.cell? ⟨G, i * 10 + j, none⟩ = some v := fun j hj => by
  rw [cell_of_row _ _ _ _ _ _ h.h]
  exact ⟨_, Array.getElem?_eq_getElem (by rw [h.size]; omega)⟩

end Go.Proofs.Ytgdobbebabjafaa
