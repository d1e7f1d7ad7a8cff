/- The walk of FnAddABCFieldsIndependentUnderSetters. -/
import Derived.Test.YtnpljmcmpeaafaaCodeFnB106
namespace Go.Proofs.Ytnpljmcmpeaafaa.fnAddABCFieldsIndependentUnderSetters
open Go.RowKit
set_option linter.unusedVariables false

set_option maxHeartbeats 2000000 in
set_option maxRecDepth 100000 in
theorem walk (a0 a1 a2 a3 a4 a5 a6 a7 a8 : Int) (w : World) (w0 : (Lit.int .i64 a0).wf = true) (w1 : (Lit.int .i64 a1).wf = true) (w2 : (Lit.int .i64 a2).wf = true) (w3 : (Lit.int .i64 a3).wf = true) (w4 : (Lit.int .i64 a4).wf = true) (w5 : (Lit.int .i64 a5).wf = true) (w6 : (Lit.int .i64 a6).wf = true) (w7 : (Lit.int .i64 a7).wf = true) (w8 : (Lit.int .i64 a8).wf = true) :
    Calls Try.prog 6 #[.int .i64 a0, .int .i64 a1, .int .i64 a2, .int .i64 a3, .int .i64 a4, .int .i64 a5, .int .i64 a6, .int .i64 a7, .int .i64 a8] w fun e w' => e = .returned (.bool true) ∧ Below w.heap.size w w' := by
  have hw : Fld.setB (wABC a0 a1 a2 a3) a6 = wABC a0 a1 a6 a3 := by
    unfold wABC Fld.setB Fld.setC Fld.setA Fld.setOp
    omega
  have hw2 : Fld.setC (Fld.setA (Fld.setOp (wABC a0 a1 a6 a3) a4) a5) a7 = wABC a4 a5 a6 a7 := by
    unfold wABC Fld.setB Fld.setC Fld.setA Fld.setOp
    omega
  have hv1 := wABC_w a0 a1 a2 a3
  have hv2 := wABC_w a0 a1 a6 a3
  have hv3 := Fld.setOp_w (k := a4) hv2
  have hv4 := Fld.setA_w (k := a5) hv3
  have HW := Lib.hid hw
  have HW2 := Lib.hid hw2
  have V1 := Lib.hid hv1
  have V2 := Lib.hid hv2
  have V3 := Lib.hid hv3
  have V4 := Lib.hid hv4
  clear hw hw2 hv1 hv2 hv3 hv4 w0 w1 w2 w3 w4 w5 w6 w7 w8
  go_enter Try.func6, Try.ntmps6
  go_wp2_with fail
  refine (new_st w.heap.size [] [] none 0 none 0 0 w (World.ownsRow_nil _ _ _ _) (World.ownsRow_nil _ _ _ _) (Nat.le_refl _)).mono ?_; rintro e w1 ⟨rfl, hs, hb⟩
  have S1 := Lib.hid hs
  have B1 := Lib.hid hb
  clear hs hb
  go_wp2_with fail
  refine (AddABC_any w.heap.size w.heap.size [] [] 0 a0 a1 a2 a3 a8 _ S1.out (by simp) rfl (by simp)).mono ?_; rintro e w2 ⟨rfl, hs, hb⟩
  have S2 := Lib.hid hs
  have B2 := Lib.hid (B1.out.trans hb)
  clear hs hb
  go_wp2_with fail
  refine (setB_st w.heap.size w.heap.size [wABC a0 a1 a2 a3] [a8] 1 0 a6 _ S2.out (by simp) V1.out (by simp)).mono ?_; rintro e w3 ⟨rfl, hs, hb⟩
  change Store w3 _ _ [Fld.setB (wABC a0 a1 a2 a3) a6] [a8] 1 at hs
  have e1 := HW.out
  rw [e1] at hs
  clear e1
  have S3 := Lib.hid hs
  have B3 := Lib.hid (B2.out.trans hb)
  clear hs hb
  go_wp2_with fail
  refine (new_st w3.heap.size [] [] none 0 none 0 0 w3 (World.ownsRow_nil _ _ _ _) (World.ownsRow_nil _ _ _ _) (Nat.le_refl _)).mono ?_; rintro e w4 ⟨rfl, hs, hb⟩
  have S4 := Lib.hid hs
  have B4 := Lib.hid hb
  clear hs hb
  go_wp2_with fail
  refine (AddABC_any w3.heap.size w3.heap.size [] [] 0 a0 a1 a6 a3 a8 _ S4.out (by simp) rfl (by simp)).mono ?_; rintro e w5 ⟨rfl, hs, hb⟩
  have S5 := Lib.hid hs
  have B5 := Lib.hid (B4.out.trans hb)
  clear hs hb
  have hx : ∀ x : Int, addL [] 0 x = [x] := fun x => rfl
  have t1 := S3.out.below (Nat.le_refl _) B5.out
  have t2 := S5.out
  rw [hx, hx] at t2
  have T1 := Lib.hid t1
  have T2 := Lib.hid t2
  have BW := Lib.hid (B3.out.trans (B5.out.mono B3.out.size))
  clear t1 t2
  generalize hy : wABC a0 a1 a6 a3 = y at *
  clear hy
  go_wp2_with fail
  refine (last_some w.heap.size w.heap.size [y] [a8] 0 _ T1.out (by simp) (by simp)).mono ?_; rintro e wa ⟨rfl, q, rfl⟩
  go_wp2_with fail
  refine (last_some w3.heap.size w3.heap.size [y] [a8] 0 _ (T2.out.drewN _) (by simp) (by simp)).mono ?_; rintro e wb ⟨rfl, q, rfl⟩
  go_wp2_with fail
  refine (setOp_st w.heap.size w.heap.size [y] [a8] 1 0 a4 _ (T1.out.drewN _) (by simp) V2.out (by simp)).mono ?_; rintro e w6 ⟨rfl, hs, hb⟩
  change Store w6 _ _ [Fld.setOp y a4] [a8] 1 at hs
  have S6 := Lib.hid hs
  have B6 := Lib.hid ((below_drewN BW.out _).trans hb)
  clear hs hb
  go_wp2_with fail
  refine (setA_st w.heap.size w.heap.size [Fld.setOp y a4] [a8] 1 0 a5 _ S6.out (by simp) V3.out (by simp)).mono ?_; rintro e w7 ⟨rfl, hs, hb⟩
  change Store w7 _ _ [Fld.setA (Fld.setOp y a4) a5] [a8] 1 at hs
  have S7 := Lib.hid hs
  have B7 := Lib.hid (B6.out.trans hb)
  clear hs hb
  go_wp2_with fail
  refine (setC_st w.heap.size w.heap.size [Fld.setA (Fld.setOp y a4) a5] [a8] 1 0 a7 _ S7.out (by simp) V4.out (by simp)).mono ?_; rintro e w8 ⟨rfl, hs, hb⟩
  change Store w8 _ _ [Fld.setC (Fld.setA (Fld.setOp y a4) a5) a7] [a8] 1 at hs
  have e1 := HW2.out
  rw [e1] at hs
  clear e1
  have S8 := Lib.hid hs
  have B8 := Lib.hid (B7.out.trans hb)
  clear hs hb
  go_wp2_with fail
  refine (new_st w8.heap.size [] [] none 0 none 0 0 w8 (World.ownsRow_nil _ _ _ _) (World.ownsRow_nil _ _ _ _) (Nat.le_refl _)).mono ?_; rintro e w9 ⟨rfl, hs, hb⟩
  have S9 := Lib.hid hs
  have B9 := Lib.hid hb
  clear hs hb
  go_wp2_with fail
  refine (AddABC_any w8.heap.size w8.heap.size [] [] 0 a4 a5 a6 a7 a8 _ S9.out (by simp) rfl (by simp)).mono ?_; rintro e w10 ⟨rfl, hs, hb⟩
  have S10 := Lib.hid hs
  have B10 := Lib.hid (B9.out.trans hb)
  clear hs hb
  have t1 := S8.out.below (Nat.le_refl _) B10.out
  have t2 := S10.out
  rw [hx, hx] at t2
  have T1' := Lib.hid t1
  have T2' := Lib.hid t2
  have BW' := Lib.hid (B8.out.trans (B10.out.mono B8.out.size))
  clear t1 t2 hx
  generalize wABC a4 a5 a6 a7 = z at *
  go_wp2_with fail
  refine (last_some w.heap.size w.heap.size [z] [a8] 0 _ T1'.out (by simp) (by simp)).mono ?_; rintro e wc ⟨rfl, q, rfl⟩
  go_wp2_with fail
  refine (last_some w8.heap.size w8.heap.size [z] [a8] 0 _ (T2'.out.drewN _) (by simp) (by simp)).mono ?_; rintro e wd ⟨rfl, q, rfl⟩
  go_wp2_with fail
  refine (posList_any w.heap.size w.heap.size [z] [a8] 1 _ (T1'.out.drewN _) (by simp) (by simp)).mono ?_; rintro e wc ⟨p1, c1, q3, rfl, r1, rfl⟩
  go_wp2_with fail
  refine (posList_any w8.heap.size w8.heap.size [z] [a8] 1 _ (T2'.out.drewN _) (by simp) (by simp)).mono ?_; rintro e wd ⟨p2, c2, q4, rfl, r2, rfl⟩
  have R1 := Lib.hid r1
  have R2 := Lib.hid r2
  clear r1 r2
  go_wp2_with fail
  refine (eqInt_true p1 p2 1 c1 c2 [a8] _ rfl (by omega) (R1.out.re _) (R2.out.re _)).mono ?_; rintro e we ⟨rfl, q5, rfl⟩
  go_wp2_with fail
  refine (lastPC_any w.heap.size w.heap.size [z] [a8] 1 _ (T1'.out.drewN _) (by omega)).mono ?_; rintro e we ⟨rfl, rfl⟩
  go_wp2
  go_ret
  exact ⟨rfl, below_drewN BW'.out _⟩

end Go.Proofs.Ytnpljmcmpeaafaa.fnAddABCFieldsIndependentUnderSetters
