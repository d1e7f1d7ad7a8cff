/- The contracts of the maker, of the functions that build an instruction, and of the laws' own helpers. -/
import Derived.Test.YtnpljmcmpeaafaaCodeOpsB106
import Derived.Test.YtnpljmcmpeaafaaCloneU106
import Derived.Test.YtnpljmcmpeaafaaCloneI106
namespace Go.Proofs.Ytnpljmcmpeaafaa
open Go.RowKit
set_option linter.unusedVariables false

set_option maxHeartbeats 400000 in
theorem new_st (base : Nat) (cs ls : List Int) (ca : Option Addr) (cc : Nat) (la : Option Addr) (lc : Nat) (pc : Nat) (w : World)
    (hc : w.ownsRow base 24 1 (.slice ca cs.length cc) cs.length (vC cs)) (hl : w.ownsRow base 3 1 (.slice la ls.length lc) ls.length (vL ls)) (hb : base ≤ w.heap.size) :
    Calls Try.prog 14 #[.slice ca cs.length cc, .slice la ls.length lc, .int .i64 pc] w fun e w' => e = .returned (.pointer (some ⟨w.heap.size, 0, none⟩)) ∧ Store w' w.heap.size base cs ls pc ∧ Below w.heap.size w w' := by
  have HC := Lib.hid hc
  have HL := Lib.hid hl
  clear hc hl
  go_enter Try.func14, Try.ntmps14
  go_wp2
  go_ret
  exact ⟨rfl, ⟨ca, cc, la, lc, hb, heap_alloc_new _ _, HC.out.alloc _, HL.out.alloc _⟩, (Below.refl _ _).alloc (Nat.le_refl _) _⟩

theorem own_row {V : Int → Value} {T : TypeId} {base : Nat} {w : World} {v : Value} {l : List Int} (h : Own V T base w v l) (hm : l.length ≤ maxLen) : ∃ a, v = .slice a l.length l.length ∧ w.ownsRow base T 1 (.slice a l.length l.length) l.length (l.map V) := by
  rcases h with ⟨rfl, rfl⟩ | ⟨g, rfl, hb, hg⟩
  · exact ⟨none, rfl, by simp, .inl ⟨rfl, rfl⟩⟩
  · exact ⟨_, rfl, by simp, .inr ⟨g, l.length, _, rfl, hb, hg, Nat.le_refl _, hm, by simp, by simp [List.take_of_length_le]⟩⟩

set_option maxHeartbeats 400000 in
theorem emod_any (x n : Int) (hx : (Lit.int .i64 x).wf = true) (h0 : 0 < n) (hn : n ≤ 262144) (w : World) :
    Calls Try.prog 23 #[.int .i64 x, .int .i64 n] w fun e w' => e = .returned (.int .i64 (x % n)) ∧ w = w' := by
  obtain ⟨q, e1, e2, e3, e4⟩ := Fld.tmod_spec x n h0
  have hne : ¬ (n = 0) := by omega
  have hneb : (n == 0) = false := by simp; omega
  by_cases hneg : x.tmod n < 0
  · have hr : x.tmod n + n = x % n := by
      have h1 : x = (x.tmod n + n) + n * (q - 1) := by rw [Int.mul_sub]; omega
      have h2 : (x.tmod n + n) % n = x.tmod n + n := Int.emod_eq_of_lt (by omega) (by omega)
      conv => rhs; rw [h1]
      rw [Int.add_mul_emod_self_left, h2]
    have HR := Lib.hid hr
    clear hr e1 e4
    go_enter Try.func23, Try.ntmps23
    go_wp2
    go_ret
    exact ⟨by rw [← HR.out]; rfl, rfl⟩
  · have hr : x.tmod n = x % n := by
      have h2 : (x.tmod n) % n = x.tmod n := Int.emod_eq_of_lt (by omega) (by omega)
      conv => rhs; rw [e1]
      rw [Int.add_comm, Int.add_mul_emod_self_left, h2]
    have HR := Lib.hid hr
    clear hr e1 e4
    go_enter Try.func23, Try.ntmps23
    go_wp2
    go_ret
    exact ⟨by rw [← HR.out]; rfl, rfl⟩

set_option maxHeartbeats 1000000 in
theorem opCreateABC_any (op a b c : Int) (w : World) :
    Calls Try.prog 41 #[.int .i64 op, .int .i64 a, .int .i64 b, .int .i64 c] w fun e w' => e = .returned (.int .u32 (Fld.setC (Fld.setB (Fld.setA (Fld.setOp 0 op) a) b) c)) ∧ Below w.heap.size w w' := by
  have x0 : Fld.W32 0 := by unfold Fld.W32; omega
  have x1 := Fld.setOp_w (k := op) x0
  have x2 := Fld.setA_w (k := a) x1
  have x3 := Fld.setB_w (k := b) x2
  generalize hy1 : Fld.setOp 0 op = y1 at *
  generalize hy2 : Fld.setA y1 a = y2 at *
  generalize hy3 : Fld.setB y2 b = y3 at *
  have HY1 := Lib.hid hy1
  have HY2 := Lib.hid hy2
  have HY3 := Lib.hid hy3
  have X0 := Lib.hid x0
  have X1 := Lib.hid x1
  have X2 := Lib.hid x2
  have X3 := Lib.hid x3
  clear hy1 hy2 hy3 x0 x1 x2 x3
  go_enter Try.func41, Try.ntmps41
  go_wp2_with fail
  refine (setOp_any w.heap.size 0 0 op _ X0.out (by simp [go_sem]) (by simp [go_sem])).mono ?_; rintro e w1 ⟨rfl, rfl⟩
  rw [HY1.out]
  go_wp2_with fail
  refine (setA_any w.heap.size 0 y1 a _ X1.out (by simp [go_sem]) (by simp [go_sem])).mono ?_; rintro e w1 ⟨rfl, rfl⟩
  rw [HY2.out]
  go_wp2_with fail
  refine (setB_any w.heap.size 0 y2 b _ X2.out (by simp [go_sem]) (by simp [go_sem])).mono ?_; rintro e w1 ⟨rfl, rfl⟩
  rw [HY3.out]
  go_wp2_with fail
  refine (setC_any w.heap.size 0 y3 c _ X3.out (by simp [go_sem]) (by simp [go_sem])).mono ?_; rintro e w1 ⟨rfl, rfl⟩
  go_wp2
  go_ret
  exact ⟨rfl, (by repeat (first | exact Below.refl _ _ | apply Below.drew | (refine Below.alloc ?_ (by simp) _) | (refine Below.setCell ?_ (by simp) _)))⟩

set_option maxHeartbeats 1000000 in
theorem opCreateABx_any (op a bx : Int) (w : World) :
    Calls Try.prog 40 #[.int .i64 op, .int .i64 a, .int .i64 bx] w fun e w' => e = .returned (.int .u32 (Fld.setBx (Fld.setA (Fld.setOp 0 op) a) bx)) ∧ Below w.heap.size w w' := by
  have x0 : Fld.W32 0 := by unfold Fld.W32; omega
  have x1 := Fld.setOp_w (k := op) x0
  have x2 := Fld.setA_w (k := a) x1
  generalize hy1 : Fld.setOp 0 op = y1 at *
  generalize hy2 : Fld.setA y1 a = y2 at *
  have HY1 := Lib.hid hy1
  have HY2 := Lib.hid hy2
  have X0 := Lib.hid x0
  have X1 := Lib.hid x1
  have X2 := Lib.hid x2
  clear hy1 hy2 x0 x1 x2
  go_enter Try.func40, Try.ntmps40
  go_wp2_with fail
  refine (setOp_any w.heap.size 0 0 op _ X0.out (by simp [go_sem]) (by simp [go_sem])).mono ?_; rintro e w1 ⟨rfl, rfl⟩
  rw [HY1.out]
  go_wp2_with fail
  refine (setA_any w.heap.size 0 y1 a _ X1.out (by simp [go_sem]) (by simp [go_sem])).mono ?_; rintro e w1 ⟨rfl, rfl⟩
  rw [HY2.out]
  go_wp2_with fail
  refine (setBx_any w.heap.size 0 y2 bx _ X2.out (by simp [go_sem]) (by simp [go_sem])).mono ?_; rintro e w1 ⟨rfl, rfl⟩
  go_wp2
  go_ret
  exact ⟨rfl, (by repeat (first | exact Below.refl _ _ | apply Below.drew | (refine Below.alloc ?_ (by simp) _) | (refine Below.setCell ?_ (by simp) _)))⟩

set_option maxHeartbeats 400000 in
theorem setSbx_any (b o : Nat) (x k : Int) (w : World) (hx : Fld.W32 x) (hc : w.cell? ⟨b, o, none⟩ = some (.int .u32 x)) (hf : w.frozen? ⟨b, o, none⟩ = false) :
    Calls Try.prog 43 #[.pointer (some ⟨b, o, none⟩), .int .i64 k] w fun e w' => e = .returned (.tuple #[]) ∧ w.setCell ⟨b, o, none⟩ (.int .u32 (Fld.setSbx x k)) = w' := by
  have HX := Lib.hid hx
  clear hx
  go_enter Try.func43, Try.ntmps43
  go_wp2_with fail
  refine (setBx_any b o x _ _ HX.out hc hf).mono ?_; rintro e w1 ⟨rfl, rfl⟩
  go_wp2
  go_end0
  exact ⟨rfl, rfl⟩

set_option maxHeartbeats 1000000 in
theorem opCreateASbx_any (op a sbx : Int) (w : World) :
    Calls Try.prog 42 #[.int .i64 op, .int .i64 a, .int .i64 sbx] w fun e w' => e = .returned (.int .u32 (Fld.setSbx (Fld.setA (Fld.setOp 0 op) a) sbx)) ∧ Below w.heap.size w w' := by
  have x0 : Fld.W32 0 := by unfold Fld.W32; omega
  have x1 := Fld.setOp_w (k := op) x0
  have x2 := Fld.setA_w (k := a) x1
  generalize hy1 : Fld.setOp 0 op = y1 at *
  generalize hy2 : Fld.setA y1 a = y2 at *
  have HY1 := Lib.hid hy1
  have HY2 := Lib.hid hy2
  have X0 := Lib.hid x0
  have X1 := Lib.hid x1
  have X2 := Lib.hid x2
  clear hy1 hy2 x0 x1 x2
  go_enter Try.func42, Try.ntmps42
  go_wp2_with fail
  refine (setOp_any w.heap.size 0 0 op _ X0.out (by simp [go_sem]) (by simp [go_sem])).mono ?_; rintro e w1 ⟨rfl, rfl⟩
  rw [HY1.out]
  go_wp2_with fail
  refine (setA_any w.heap.size 0 y1 a _ X1.out (by simp [go_sem]) (by simp [go_sem])).mono ?_; rintro e w1 ⟨rfl, rfl⟩
  rw [HY2.out]
  go_wp2_with fail
  refine (setSbx_any w.heap.size 0 y2 sbx _ X2.out (by simp [go_sem]) (by simp [go_sem])).mono ?_; rintro e w1 ⟨rfl, rfl⟩
  go_wp2
  go_ret
  exact ⟨rfl, (by repeat (first | exact Below.refl _ _ | apply Below.drew | (refine Below.alloc ?_ (by simp) _) | (refine Below.setCell ?_ (by simp) _)))⟩

end Go.Proofs.Ytnpljmcmpeaafaa
