/- The walk of FnAddABxAgreesWithAddABCSplit. -/
import Derived.Test.YtnpljmcmpeaafaaCodeFnB106
namespace Go.Proofs.Ytnpljmcmpeaafaa.fnAddABxAgreesWithAddABCSplit
open Go.RowKit
set_option linter.unusedVariables false

set_option maxHeartbeats 2000000 in
set_option maxRecDepth 100000 in
theorem walk (a0 a1 a2 a3 : Int) (w : World) (w0 : (Lit.int .i64 a0).wf = true) (w1 : (Lit.int .i64 a1).wf = true) (w2 : (Lit.int .i64 a2).wf = true) (w3 : (Lit.int .i64 a3).wf = true) :
    Calls Try.prog 4 #[.int .i64 a0, .int .i64 a1, .int .i64 a2, .int .i64 a3] w fun e w' => e = .returned (.bool true) ∧ Below w.heap.size w w' := by
  have hm := emod_any a2 262144 w2 (by omega) (by omega)
  have he : 0 ≤ a2 % 262144 ∧ a2 % 262144 < 262144 := by omega
  have hw : wABC a0 a1 (a2 % 512) (a2 % 262144 / 512) = wABx a0 a1 a2 := by
    unfold wABC wABx Fld.setC Fld.setB Fld.setBx Fld.setA Fld.setOp
    omega
  have HW := Lib.hid hw
  have HM := Lib.hid hm
  have HE := Lib.hid he
  clear hm hw he w0 w1 w2 w3
  go_enter Try.func4, Try.ntmps4
  go_wp2_with fail
  refine (HM.out _).mono ?_; rintro e wz ⟨rfl, rfl⟩
  go_wp2_with fail
  refine (new_st w.heap.size [] [] none 0 none 0 0 w (World.ownsRow_nil _ _ _ _) (World.ownsRow_nil _ _ _ _) (Nat.le_refl _)).mono ?_; rintro e w1 ⟨rfl, hs, hb⟩
  have S1 := Lib.hid hs
  have B1 := Lib.hid hb
  clear hs hb
  go_wp2_with fail
  refine (AddABx_any w.heap.size w.heap.size [] [] 0 a0 a1 a2 a3 _ S1.out (by simp) rfl (by simp)).mono ?_; rintro e w2 ⟨rfl, hs, hb⟩
  have S2 := Lib.hid hs
  have B2 := Lib.hid (B1.out.trans hb)
  clear hs hb
  go_wp2_with fail
  refine (new_st w2.heap.size [] [] none 0 none 0 0 w2 (World.ownsRow_nil _ _ _ _) (World.ownsRow_nil _ _ _ _) (Nat.le_refl _)).mono ?_; rintro e w3 ⟨rfl, hs, hb⟩
  have S3 := Lib.hid hs
  have B3 := Lib.hid hb
  clear hs hb
  go_wp2_with fail
  refine (AddABC_any w2.heap.size w2.heap.size [] [] 0 a0 a1 _ _ a3 _ S3.out (by simp) rfl (by simp)).mono ?_; rintro e w4 ⟨rfl, hs, hb⟩
  have S4 := Lib.hid hs
  have B4 := Lib.hid (B3.out.trans hb)
  clear hs hb
  have hx : ∀ x : Int, addL [] 0 x = [x] := fun x => rfl
  have t1 := S2.out.below (Nat.le_refl _) B4.out
  have t2 := S4.out
  have ex := HW.out
  rw [hx, hx] at t1 t2
  rw [ex] at t2
  have T1 := Lib.hid t1
  have T2 := Lib.hid t2
  have BW := Lib.hid (B2.out.trans (B4.out.mono B2.out.size))
  clear hx t1 t2 ex
  generalize wABx a0 a1 a2 = x at *
  go_wp2_with fail
  refine (last_some w.heap.size w.heap.size [x] [a3] 0 _ T1.out (by simp) (by simp)).mono ?_; rintro e wa ⟨rfl, q, rfl⟩
  go_wp2_with fail
  refine (last_some w2.heap.size w2.heap.size [x] [a3] 0 _ (T2.out.drewN _) (by simp) (by simp)).mono ?_; rintro e wb ⟨rfl, q, rfl⟩
  go_wp2_with fail
  refine (posList_any w.heap.size w.heap.size [x] [a3] 1 _ (T1.out.drewN _) (by simp) (by simp)).mono ?_; rintro e wc ⟨p1, c1, q3, rfl, r1, rfl⟩
  go_wp2_with fail
  refine (posList_any w2.heap.size w2.heap.size [x] [a3] 1 _ (T2.out.drewN _) (by simp) (by simp)).mono ?_; rintro e wd ⟨p2, c2, q4, rfl, r2, rfl⟩
  have R1 := Lib.hid r1
  have R2 := Lib.hid r2
  clear r1 r2
  go_wp2_with fail
  refine (eqInt_true p1 p2 1 c1 c2 [a3] _ rfl (by omega) (R1.out.re _) (R2.out.re _)).mono ?_; rintro e we ⟨rfl, q5, rfl⟩
  go_wp2
  go_ret
  exact ⟨rfl, below_drewN BW.out _⟩

end Go.Proofs.Ytnpljmcmpeaafaa.fnAddABxAgreesWithAddABCSplit
