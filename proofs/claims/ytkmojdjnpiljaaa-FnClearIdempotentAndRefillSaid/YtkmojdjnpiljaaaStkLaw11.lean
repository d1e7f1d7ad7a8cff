/- The contracts of the n005_11 exports, as steps on a stack: they keep all other old blocks. -/
import Derived.Test.YtkmojdjnpiljaaaStkZZ11
import Derived.Test.YtkmojdjnpiljaaaStkSet
namespace Go.Proofs.Ytkmojdjnpiljaaa
open Go.RowKit
set_option linter.unusedVariables false

theorem Stk.idx {w : World} {A B n : Nat} {sp : Int} {arr : Array Value} (h : Stk w A B n sp arr) {i : Nat} {x p b r : Int} (hf : Fr arr i x p b r) : w.cell? ⟨A, i * 10, none⟩ = some (.int .i64 x) := by
  rw [cell_of_row _ _ _ _ _ _ h.hA]
  exact hf 0 (by omega)

/-- The stack moved on. -/
def Moved (w : World) (A B n : Nat) (sp : Int) (arr : Array Value) (w' : World) : Prop := Stk w' A B n sp arr ∧ Keep [A, B] w w'

set_option maxHeartbeats 400000 in
theorem pushZero_any (A B n sp : Nat) (arr : Array Value) (w : World) (h : Stk w A B n (sp : Int) arr) (hlt : sp < n) :
    Calls Try.prog 15 #[.pointer (some ⟨B, 0, none⟩)] w fun e w' => e = .returned (.tuple #[]) ∧ Moved w A B n ((sp : Int) + 1) (put arr sp 0 sp 0 0 0) w' := by
  have H := Lib.hid h
  clear h
  go_enter Try.func15, Try.ntmps15
  go_wp2_with fail
  refine (push_any A B n sp arr 0 0 0 0 w H.out hlt).mono ?_; rintro e w' ⟨rfl, h1, h2⟩
  have H1 := Lib.hid h1
  clear h1
  go_wp2
  go_end0
  exact ⟨rfl, H1.out, h2⟩

set_option maxHeartbeats 400000 in
theorem popIdx_any (A B n sp : Nat) (arr : Array Value) (x p b r : Int) (w : World) (h : Stk w A B n ((sp : Int) + 1) arr) (hlt : sp < n) (hf : Fr arr sp x p b r) :
    Calls Try.prog 18 #[.pointer (some ⟨B, 0, none⟩)] w fun e w' => e = .returned (.int .i64 x) ∧ Moved w A B n (sp : Int) arr w' := by
  have h' : Stk w A B n ((sp + 1 : Nat) : Int) arr := h
  have hc := h.idx hf
  have hAB := h.ne
  have hS : ∀ k, Stk ((w.setCell ⟨B, 1, none⟩ (.int .i64 (sp : Int))).drewN k) A B n (sp : Int) arr := fun k => (h.setSp (sp : Int)).drewN k
  have HS := Lib.hid hS
  have H := Lib.hid h'
  clear h h' hf hS
  go_enter Try.func18, Try.ntmps18
  go_wp2_with fail
  refine (pop_any A B n sp arr w H.out hlt).mono ?_; rintro e w' ⟨rfl, k, rfl⟩
  have hc2 : ((w.setCell ⟨B, 1, none⟩ (.int .i64 (sp : Int))).drewN k).cell? ⟨A, sp * 10, none⟩ = some (.int .i64 x) := by
    rw [show ((w.setCell ⟨B, 1, none⟩ (.int .i64 (sp : Int))).drewN k).cell? ⟨A, sp * 10, none⟩ = (w.setCell ⟨B, 1, none⟩ (.int .i64 (sp : Int))).cell? ⟨A, sp * 10, none⟩ from rfl]
    exact (World.cell?_of_block (heap_setCell_other _ _ _ _ hAB)).trans hc
  have hk : Moved w A B n (sp : Int) arr ((w.setCell ⟨B, 1, none⟩ (.int .i64 (sp : Int))).drewN k) := ⟨HS.out k, ((keep_sp w B _ (by simp))).drewN k⟩
  generalize (w.setCell ⟨B, 1, none⟩ (.int .i64 (sp : Int))).drewN k = w1 at *
  have HK := Lib.hid hk
  clear hk
  go_wp2
  go_ret
  exact ⟨rfl, HK.out⟩

set_option maxHeartbeats 400000 in
theorem atIdx_any (A B n i : Nat) (sp : Int) (arr : Array Value) (x p b r : Int) (w : World) (h : Stk w A B n sp arr) (hi : i < n) (hf : Fr arr i x p b r) :
    Calls Try.prog 19 #[.pointer (some ⟨B, 0, none⟩), .int .i64 i] w fun e w' => e = .returned (.int .i64 x) ∧ w = w' := by
  have hc := h.idx hf
  have H := Lib.hid h
  clear h hf
  go_enter Try.func19, Try.ntmps19
  go_wp2_with fail
  refine (at_any A B n sp i arr w H.out hi).mono ?_; rintro e w' ⟨rfl, rfl⟩
  go_wp2
  go_ret
  exact ⟨rfl, rfl⟩

set_option maxHeartbeats 400000 in
theorem lastNil_yes (A B n : Nat) (arr : Array Value) (w : World) (h : Stk w A B n 0 arr) :
    Calls Try.prog 16 #[.pointer (some ⟨B, 0, none⟩)] w fun e w' => e = .returned (.bool true) ∧ w = w' := by
  have H := Lib.hid h
  clear h
  go_enter Try.func16, Try.ntmps16
  go_wp2_with fail
  refine (last_nil A B n arr w H.out).mono ?_; rintro e w' ⟨rfl, rfl⟩
  go_wp2
  go_ret
  exact ⟨rfl, rfl⟩

set_option maxHeartbeats 400000 in
theorem lastNil_no (A B n sp : Nat) (arr : Array Value) (w : World) (h : Stk w A B n ((sp : Int) + 1) arr) (hlt : sp < n) :
    Calls Try.prog 16 #[.pointer (some ⟨B, 0, none⟩)] w fun e w' => e = .returned (.bool false) ∧ ∃ k, w' = w.drewN k := by
  have H := Lib.hid h
  clear h
  go_enter Try.func16, Try.ntmps16
  go_wp2_with fail
  refine (last_some A B n sp arr w H.out hlt).mono ?_; rintro e w' ⟨rfl, k, rfl⟩
  go_wp2
  go_ret
  exact ⟨rfl, k, rfl⟩

/-- The stack of size n made by the call, with j frames numbered 0 .. j-1 below the pointer sp. -/
def St (w0 : World) (n : Nat) (j : Nat) (sp : Int) (wr : World) : Prop :=
  ∃ arr, Stk wr w0.heap.size (w0.heap.size + 1) n sp arr ∧ (∀ i, i < j → ∃ p b r, Fr arr i i p b r) ∧ Below w0.heap.size w0 wr

theorem St.fresh {w w' : World} {n : Nat} (h : Fresh w n w') : St w n 0 0 w' := by
  obtain ⟨arr, h1, _, h2⟩ := h
  exact ⟨arr, h1, fun i hi => absurd hi (by omega), h2⟩

theorem St.moved {w0 wr w' : World} {n j j' : Nat} {sp' : Int} {arr : Array Value} (hb : Below w0.heap.size w0 wr) (hA : w0.heap.size ≤ wr.heap.size) (h : Moved wr w0.heap.size (w0.heap.size + 1) n sp' arr w')
    (hf : ∀ i, i < j' → ∃ p b r, Fr arr i i p b r) : St w0 n j' sp' w' :=
  ⟨arr, h.1, hf, hb.trans (h.2.below hA (by simp))⟩

theorem St.push {w0 wr w' : World} {n j : Nat} {arr : Array Value} (hs : Stk wr w0.heap.size (w0.heap.size + 1) n (j : Int) arr) (hf : ∀ i, i < j → ∃ p b r, Fr arr i i p b r) (hb : Below w0.heap.size w0 wr) (hlt : j < n)
    (h : Moved wr w0.heap.size (w0.heap.size + 1) n ((j : Int) + 1) (put arr j 0 j 0 0 0) w') : St w0 n (j + 1) ((j : Int) + 1) w' := by
  refine St.moved (j := j) hb hb.size h fun i hi => ?_
  by_cases e : i = j
  · subst e
    exact ⟨0, 0, 0, put_same _ _ _ _ _ _ _ (by rw [hs.size]; omega)⟩
  · obtain ⟨p, b, r, hh⟩ := hf i (by omega)
    exact ⟨p, b, r, hh.put e _ _ _ _ _⟩

theorem St.set {w0 wr : World} {n j : Nat} {sp : Int} (h : St w0 n j sp wr) (k : Int) : St w0 n j k (wr.setCell ⟨w0.heap.size + 1, 1, none⟩ (.int .i64 k)) := by
  obtain ⟨arr, hs, hf, hb⟩ := h
  exact ⟨arr, hs.setSp k, hf, hb.setCell (by simp) _⟩
theorem St.drewN {w0 wr : World} {n j : Nat} {sp : Int} (h : St w0 n j sp wr) (k : Nat) : St w0 n j sp (wr.drewN k) := by
  obtain ⟨arr, hs, hf, hb⟩ := h
  exact ⟨arr, hs.drewN k, hf, hb.trans ⟨rfl, rfl, rfl, Nat.le_refl _, fun _ _ => rfl⟩⟩
theorem St.less {w0 wr : World} {n j j' : Nat} {sp : Int} (h : St w0 n j sp wr) (hj : j' ≤ j) : St w0 n j' sp wr := by
  obtain ⟨arr, hs, hf, hb⟩ := h
  exact ⟨arr, hs, fun i hi => hf i (by omega), hb⟩

/-! The methods, over St. -/
theorem st_push {w0 wr : World} {n j : Nat} (h : St w0 n j (j : Int) wr) (hlt : j < n) :
    Calls Try.prog 15 #[.pointer (some ⟨w0.heap.size + 1, 0, none⟩)] wr fun e w' => e = .returned (.tuple #[]) ∧ St w0 n (j + 1) ((j : Int) + 1) w' := by
  obtain ⟨arr, hs, hf, hb⟩ := h
  exact (pushZero_any _ _ n j arr wr hs hlt).mono fun e w' ⟨he, hm⟩ => ⟨he, St.push hs hf hb hlt hm⟩
theorem st_pop {w0 wr : World} {n j : Nat} (h : St w0 n (j + 1) ((j : Int) + 1) wr) (hlt : j < n) :
    Calls Try.prog 18 #[.pointer (some ⟨w0.heap.size + 1, 0, none⟩)] wr fun e w' => e = .returned (.int .i64 j) ∧ St w0 n j (j : Int) w' := by
  obtain ⟨arr, hs, hf, hb⟩ := h
  obtain ⟨p, b, r, hj⟩ := hf j (by omega)
  exact (popIdx_any _ _ n j arr _ p b r wr hs hlt hj).mono fun e w' ⟨he, hm⟩ => ⟨he, St.moved (j := j) hb hb.size hm fun i hi => hf i (by omega)⟩
theorem st_at {w0 wr : World} {n j i : Nat} {sp : Int} (h : St w0 n j sp wr) (hlt : i < j) (hn : i < n) :
    Calls Try.prog 19 #[.pointer (some ⟨w0.heap.size + 1, 0, none⟩), .int .i64 i] wr fun e w' => e = .returned (.int .i64 i) ∧ wr = w' := by
  obtain ⟨arr, hs, hf, hb⟩ := h
  obtain ⟨p, b, r, hj⟩ := hf i hlt
  exact atIdx_any _ _ n i sp arr _ p b r wr hs hn hj
theorem st_sp {w0 wr : World} {n j : Nat} {sp : Int} (h : St w0 n j sp wr) :
    Calls Try.prog 12 #[.pointer (some ⟨w0.heap.size + 1, 0, none⟩)] wr fun e w' => e = .returned (.int .i64 sp) ∧ wr = w' := by
  obtain ⟨arr, hs, hf, hb⟩ := h
  exact sp_any _ _ n sp arr wr hs
theorem st_empty {w0 wr : World} {n j : Nat} {sp : Int} (h : St w0 n j sp wr) :
    Calls Try.prog 13 #[.pointer (some ⟨w0.heap.size + 1, 0, none⟩)] wr fun e w' => e = .returned (.bool (sp == 0)) ∧ wr = w' := by
  obtain ⟨arr, hs, hf, hb⟩ := h
  exact isEmpty_any _ _ n sp arr wr hs
theorem st_full {w0 wr : World} {n j : Nat} {sp : Int} (h : St w0 n j sp wr) :
    Calls Try.prog 14 #[.pointer (some ⟨w0.heap.size + 1, 0, none⟩)] wr fun e w' => e = .returned (.bool (sp == (n : Int))) ∧ St w0 n j sp w' := by
  have h' := h
  obtain ⟨arr, hs, hf, hb⟩ := h
  exact (isFull_any _ _ n sp arr wr hs).mono fun e w' ⟨he, k, hw⟩ => ⟨he, by rw [hw]; exact h'.drewN k⟩
theorem st_last0 {w0 wr : World} {n j : Nat} (h : St w0 n j 0 wr) :
    Calls Try.prog 16 #[.pointer (some ⟨w0.heap.size + 1, 0, none⟩)] wr fun e w' => e = .returned (.bool true) ∧ St w0 n j 0 w' := by
  have h' := h
  obtain ⟨arr, hs, hf, hb⟩ := h
  exact (lastNil_yes _ _ n arr wr hs).mono fun e w' ⟨he, hw⟩ => ⟨he, by rw [← hw]; exact h'⟩
theorem st_last1 {w0 wr : World} {n j sp : Nat} (h : St w0 n j ((sp : Int) + 1) wr) (hlt : sp < n) :
    Calls Try.prog 16 #[.pointer (some ⟨w0.heap.size + 1, 0, none⟩)] wr fun e w' => e = .returned (.bool false) ∧ St w0 n j ((sp : Int) + 1) w' := by
  have h' := h
  obtain ⟨arr, hs, hf, hb⟩ := h
  exact (lastNil_no _ _ n sp arr wr hs hlt).mono fun e w' ⟨he, k, hw⟩ => ⟨he, by rw [hw]; exact h'.drewN k⟩
/-- Whether there is a last frame, at any depth. -/
theorem st_last {w0 wr : World} {n j d : Nat} (h : St w0 n j (d : Int) wr) (hlt : d ≤ n) :
    Calls Try.prog 16 #[.pointer (some ⟨w0.heap.size + 1, 0, none⟩)] wr fun e w' => e = .returned (.bool ((d : Int) == 0)) ∧ St w0 n j (d : Int) w' := by
  cases d with
  | zero => exact st_last0 h
  | succ d =>
    have e : (((d + 1 : Nat) : Int) == 0) = false := by simp; omega
    rw [e]
    exact st_last1 h (by omega)
theorem st_clear {w0 wr : World} {n j : Nat} {sp : Int} (h : St w0 n j sp wr) :
    Calls Try.prog 17 #[.pointer (some ⟨w0.heap.size + 1, 0, none⟩)] wr fun e w' => e = .returned (.tuple #[]) ∧ St w0 n j 0 w' := by
  have h' := h
  obtain ⟨arr, hs, hf, hb⟩ := h
  exact (clear_any _ _ n sp arr wr hs).mono fun e w' ⟨he, hw⟩ => ⟨he, by rw [← hw]; exact h'.set 0⟩
theorem st_set {w0 wr : World} {n j : Nat} {sp : Int} (h : St w0 n j sp wr) (k : Int) :
    Calls Try.prog 11 #[.pointer (some ⟨w0.heap.size + 1, 0, none⟩), .int .i64 k] wr fun e w' => e = .returned (.tuple #[]) ∧ St w0 n j k w' := by
  have h' := h
  obtain ⟨arr, hs, hf, hb⟩ := h
  exact (setSp_any _ _ n sp k arr wr hs).mono fun e w' ⟨he, hw⟩ => ⟨he, by rw [← hw]; exact h'.set k⟩
theorem st_new (n : Nat) (hn : n ≤ 131072) (w : World) :
    Calls Try.prog 10 #[.int .i64 n] w fun e w' => e = .returned (.pointer (some ⟨w.heap.size + 1, 0, none⟩)) ∧ St w n 0 0 w' :=
  (zznew_any n hn w).mono fun e w' ⟨he, hf⟩ => ⟨he, St.fresh hf⟩
theorem St.below {w0 wr : World} {n j : Nat} {sp : Int} (h : St w0 n j sp wr) : Below w0.heap.size w0 wr := by
  obtain ⟨_, _, _, hb⟩ := h
  exact hb

end Go.Proofs.Ytkmojdjnpiljaaa
