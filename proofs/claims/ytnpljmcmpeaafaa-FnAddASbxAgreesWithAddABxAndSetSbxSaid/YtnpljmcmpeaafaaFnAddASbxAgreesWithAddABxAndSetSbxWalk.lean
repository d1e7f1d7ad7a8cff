/- The walk of FnAddASbxAgreesWithAddABxAndSetSbx. -/
import Derived.Test.YtnpljmcmpeaafaaCodeFnB106
namespace Go.Proofs.Ytnpljmcmpeaafaa.fnAddASbxAgreesWithAddABxAndSetSbx
open Go.RowKit
set_option linter.unusedVariables false

set_option maxHeartbeats 2000000 in
set_option maxRecDepth 100000 in
theorem walk (a0 a1 a2 a3 a4 : Int) (w : World) (w0 : (Lit.int .i64 a0).wf = true) (w1 : (Lit.int .i64 a1).wf = true) (w2 : (Lit.int .i64 a2).wf = true) (w3 : (Lit.int .i64 a3).wf = true) (w4 : (Lit.int .i64 a4).wf = true) :
    Calls Try.prog 5 #[.int .i64 a0, .int .i64 a1, .int .i64 a2, .int .i64 a3, .int .i64 a4] w fun e w' => e = .returned (.bool true) ∧ Below w.heap.size w w' := by
  have hw : wASbx a0 a1 a2 = wABx a0 a1 (wrap64 (a2 + 131071)) := rfl
  have hw2 : Fld.setSbx (wASbx a0 a1 a2) a3 = wASbx a0 a1 a3 := by
    unfold wASbx Fld.setSbx
    generalize wrap64 (a2 + 131071) = k1
    generalize wrap64 (a3 + 131071) = k2
    unfold Fld.setBx
    omega
  have hww := wASbx_w a0 a1 a2
  have HW := Lib.hid hw
  have HW2 := Lib.hid hw2
  have HWW := Lib.hid hww
  clear hw hw2 hww w0 w1 w2 w3 w4
  go_enter Try.func5, Try.ntmps5
  go_wp2_with fail
  refine (new_st w.heap.size [] [] none 0 none 0 0 w (World.ownsRow_nil _ _ _ _) (World.ownsRow_nil _ _ _ _) (Nat.le_refl _)).mono ?_; rintro e w1 ⟨rfl, hs, hb⟩
  have S1 := Lib.hid hs
  have B1 := Lib.hid hb
  clear hs hb
  go_wp2_with fail
  refine (AddASbx_any w.heap.size w.heap.size [] [] 0 a0 a1 a2 a4 _ S1.out (by simp) rfl (by simp)).mono ?_; rintro e w2 ⟨rfl, hs, hb⟩
  have S2 := Lib.hid hs
  have B2 := Lib.hid (B1.out.trans hb)
  clear hs hb
  go_wp2_with fail
  refine (new_st w2.heap.size [] [] none 0 none 0 0 w2 (World.ownsRow_nil _ _ _ _) (World.ownsRow_nil _ _ _ _) (Nat.le_refl _)).mono ?_; rintro e w3 ⟨rfl, hs, hb⟩
  have S3 := Lib.hid hs
  have B3 := Lib.hid hb
  clear hs hb
  go_wp2_with fail
  refine (AddABx_any w2.heap.size w2.heap.size [] [] 0 a0 a1 _ a4 _ S3.out (by simp) rfl (by simp)).mono ?_; rintro e w4 ⟨rfl, hs, hb⟩
  have S4 := Lib.hid hs
  have B4 := Lib.hid (B3.out.trans hb)
  clear hs hb
  have hx : ∀ x : Int, addL [] 0 x = [x] := fun x => rfl
  have t1 := S2.out.below (Nat.le_refl _) B4.out
  have t2 := S4.out
  have ex := HW.out
  rw [hx, hx] at t1 t2
  rw [← ex] at t2
  have T1 := Lib.hid t1
  have T2 := Lib.hid t2
  have BW := Lib.hid (B2.out.trans (B4.out.mono B2.out.size))
  clear t1 t2 ex
  generalize wASbx a0 a1 a2 = x at *
  go_wp2_with fail
  refine (last_some w.heap.size w.heap.size [x] [a4] 0 _ T1.out (by simp) (by simp)).mono ?_; rintro e wa ⟨rfl, q, rfl⟩
  go_wp2_with fail
  refine (last_some w2.heap.size w2.heap.size [x] [a4] 0 _ (T2.out.drewN _) (by simp) (by simp)).mono ?_; rintro e wb ⟨rfl, q, rfl⟩
  go_wp2_with fail
  refine (SetSbx_st w.heap.size w.heap.size [x] [a4] 1 0 a3 _ (T1.out.drewN _) (by simp) HWW.out (by simp)).mono ?_; rintro e w5 ⟨rfl, hs, hb⟩
  have e2 := HW2.out
  change Store w5 _ _ [Fld.setSbx x a3] [a4] 1 at hs
  rw [e2] at hs
  have S5 := Lib.hid hs
  have B5 := Lib.hid ((below_drewN BW.out _).trans hb)
  clear hs hb e2
  go_wp2_with fail
  refine (new_st w5.heap.size [] [] none 0 none 0 0 w5 (World.ownsRow_nil _ _ _ _) (World.ownsRow_nil _ _ _ _) (Nat.le_refl _)).mono ?_; rintro e w6 ⟨rfl, hs, hb⟩
  have S6 := Lib.hid hs
  have B6 := Lib.hid hb
  clear hs hb
  go_wp2_with fail
  refine (AddASbx_any w5.heap.size w5.heap.size [] [] 0 a0 a1 a3 a4 _ S6.out (by simp) rfl (by simp)).mono ?_; rintro e w7 ⟨rfl, hs, hb⟩
  have S7 := Lib.hid hs
  have B7 := Lib.hid (B6.out.trans hb)
  clear hs hb
  have t1 := S5.out.below (Nat.le_refl _) B7.out
  have t2 := S7.out
  rw [hx, hx] at t2
  have T1' := Lib.hid t1
  have T2' := Lib.hid t2
  have BW' := Lib.hid (B5.out.trans (B7.out.mono B5.out.size))
  clear t1 t2 hx
  generalize wASbx a0 a1 a3 = x' at *
  go_wp2_with fail
  refine (last_some w.heap.size w.heap.size [x'] [a4] 0 _ T1'.out (by simp) (by simp)).mono ?_; rintro e wc ⟨rfl, q, rfl⟩
  go_wp2_with fail
  refine (last_some w5.heap.size w5.heap.size [x'] [a4] 0 _ (T2'.out.drewN _) (by simp) (by simp)).mono ?_; rintro e wd ⟨rfl, q, rfl⟩
  go_wp2
  go_ret
  exact ⟨rfl, below_drewN BW'.out _⟩

end Go.Proofs.Ytnpljmcmpeaafaa.fnAddASbxAgreesWithAddABxAndSetSbx
